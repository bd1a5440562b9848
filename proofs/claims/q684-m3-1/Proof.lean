import JvmDerived
import JvmDerived.Pilot.@@N@@Statement
import JvmDerived.Pilot.@@N@@Code
set_option linter.unusedVariables false
set_option linter.unusedSimpArgs false

namespace Jvm.OwnKit
open Sem ClassFile Op Lib Jvm.Stand Jvm.Free Jvm.LawKit Jvm.RoadKit
section Kit
variable {p : Program} {l : Launch} {e : Env} {R : Room} {s : State} {m : MethodId} {args : Array Value} {below : List Frame} {meth : Method} {c : Code} {T : State} {locs : List Loc} {cells slots : Nat} {Z : State} {a0 : Array Value} {h : Heap} {own nm : String} {bytes : ByteArray} {maxL : Nat} {ret : Option FieldType} {P : Outcome → State → Prop} {pc pc' : Nat} {Ls Ls' : Array Slot} {rest : List Value}
/-- from here the run ends, and P holds of its end -/
def Go (p : Program) (e : Env) (below : List Frame) (P : Outcome → State → Prop) (T0 : State) : Prop := ∃ t o, Steps p.tables e below T0 t ∧ t.status = .running ∧ Ended t below o ∧ P o t
theorem Go.on {T1 T2 : State} (st : ∀ t, Steps p.tables e below T2 t → Steps p.tables e below T1 t) (k : Go p e below P T2) : Go p e below P T1 := by
  obtain ⟨t, o, h1, h2⟩ := k; exact ⟨t, o, st t h1, h2⟩
/-- what a walk knows of the method that it walks -/
def Ctx (p : Program) (s : State) (m : MethodId) (meth : Method) (c : Code) (Z : State) (own nm : String) (bytes : ByteArray) (maxL : Nat) (ret : Option FieldType) : Prop :=
  p.tables.exec = Jvm.exec ∧ c.code = bytes ∧ c.maxLocals = maxL ∧ s.vm.findClass own = some m.cls ∧ meth.name = nm ∧ meth.sig.returnType = ret ∧ meth.locks = false ∧ Z.Warmed39 s.vm
/-- what a body's end says -/
def OEnds (s : State) (Q : Option Value → Heap → List Loc → Prop) (k n : Nat) (o : Outcome) (t : State) : Prop := ∃ v L, o = .returned v ∧ Q v t.heap L ∧ FrameEnd s o t L k n
/-- a contract: called with the arguments 'as' at the heap h0 it returns as Q says -/
abbrev OMeets (l : Launch) (Z : State) (y : MethodName) (bytes : ByteArray) (maxL : Nat) (ret : Option FieldType) (ws : List Jvm.Cond) (rm : Room) (as : Array Value) (h0 : Heap) (Q : Option Value → Heap → List Loc → Prop) : Prop :=
  MetFree l y (head1 (Jvm.Cond.code y bytes maxL ret :: ws) rm) (fun a U => a = as ∧ Z.Warmed39 U.vm ∧ U.heap = h0) (fun _ _ _ _ _ => True) (fun _ U o U' => ∃ v L, o = .returned v ∧ Q v U'.heap L ∧ FrameEnd U o U' L rm.cells rm.slots)
/-- it returns r, writes nothing and makes nothing -/
def PureQ (r : Option Value) (h0 : Heap) (v : Option Value) (h : Heap) (L : List Loc) : Prop := v = r ∧ L = [] ∧ h = h0
theorem OMeets.of {y : MethodName} {ws : List Jvm.Cond} {rm : Room} {as : Array Value} {h0 : Heap} {Q : Option Value → Heap → List Loc → Prop} (hpn : plainName y.cls = true) (ls : Array Slot) (hent : ∀ m, entryFrame m as maxL = mkF m 0 ls [])
    (body : ∀ p e s m below meth c s₁, Ctx p s m meth c Z y.cls y.name bytes maxL ret → Stand p l e rm s m as below meth c s₁ [] 0 0 → s₁.heap = h0 → Go p e below (OEnds s Q rm.cells rm.slots) (s₁.setTop (mkF m 0 ls []))) : OMeets l Z y bytes maxL ret ws rm as h0 Q := by
  refine MetFree.of_bodySF (plainFor_of_name hpn) hisR ?_
  intro p e s m args below meth c s₁ Bd hml0 hP hK
  obtain ⟨rfl, hZ, hh⟩ := hP
  have e0 : s₁.heap = h0 := by rw [← hh, Bd.state]; rfl
  have X0 := Stand.of_body Bd
  have B : Ctx p s m meth c Z y.cls y.name bytes maxL ret := ⟨Bd.exec, Bd.bytes, hml0, findClass_of_methodNamed Bd.named, (name_of_methodNamed Bd.named Bd.method).1, Bd.returns, Bd.notSynchronized, hZ⟩
  obtain ⟨t, o, h1, h2, h3, h4⟩ := body p e s m below meth c s₁ B X0 e0
  exact ⟨t, o, castTop (hent m) h1, h2, h3, h4⟩
/-! the single steps -/

theorem s_iloadN (B : Ctx p s m meth c Z own nm bytes maxL ret) (X : Stand p l e R s m args below meth c T locs cells slots) {k0 : Fin 4} {v : Int32} (hd : decode bytes pc = .ok (.iload_n k0, 1)) (hl : Ls[k0.val]? = some (.val (.int v))) (hp : pc + 1 = pc') (k : Go p e below P (T.setTop (mkF m pc' Ls (.int v :: rest)))) : Go p e below P (T.setTop (mkF m pc Ls (rest))) := by
  subst hp; exact Go.on (fun t => XS.iloadN X.here B.1 rfl (hb B.2.1 hd) hl) k
theorem s_iload (B : Ctx p s m meth c Z own nm bytes maxL ret) (X : Stand p l e R s m args below meth c T locs cells slots) {k0 : Nat} {v : Int32} (hd : decode bytes pc = .ok (.iload k0, 2)) (hl : Ls[k0]? = some (.val (.int v))) (hp : pc + 2 = pc') (k : Go p e below P (T.setTop (mkF m pc' Ls (.int v :: rest)))) : Go p e below P (T.setTop (mkF m pc Ls (rest))) := by
  subst hp; exact Go.on (fun t => XS.iload X.here B.1 rfl (hb B.2.1 hd) hl) k
theorem s_istoreN (B : Ctx p s m meth c Z own nm bytes maxL ret) (X : Stand p l e R s m args below meth c T locs cells slots) {k0 : Fin 4} {v : Int32} (hd : decode bytes pc = .ok (.istore_n k0, 1)) (hl : storeLocals Ls k0.val (.int v) = some Ls') (hp : pc + 1 = pc') (k : Go p e below P (T.setTop (mkF m pc' Ls' (rest)))) : Go p e below P (T.setTop (mkF m pc Ls (.int v :: rest))) := by
  subst hp; exact Go.on (fun t => XS.istoreN X.here B.1 rfl (hb B.2.1 hd) rfl hl) k
theorem s_istore (B : Ctx p s m meth c Z own nm bytes maxL ret) (X : Stand p l e R s m args below meth c T locs cells slots) {k0 : Nat} {v : Int32} (hd : decode bytes pc = .ok (.istore k0, 2)) (hl : storeLocals Ls k0 (.int v) = some Ls') (hp : pc + 2 = pc') (k : Go p e below P (T.setTop (mkF m pc' Ls' (rest)))) : Go p e below P (T.setTop (mkF m pc Ls (.int v :: rest))) := by
  subst hp; exact Go.on (fun t => XS.istore X.here B.1 rfl (hb B.2.1 hd) rfl hl) k
theorem s_lloadN (B : Ctx p s m meth c Z own nm bytes maxL ret) (X : Stand p l e R s m args below meth c T locs cells slots) {k0 : Fin 4} {v : Int64} (hd : decode bytes pc = .ok (.lload_n k0, 1)) (hl : Ls[k0.val]? = some (.val (.long v))) (hp : pc + 1 = pc') (k : Go p e below P (T.setTop (mkF m pc' Ls (.long v :: rest)))) : Go p e below P (T.setTop (mkF m pc Ls (rest))) := by
  subst hp; exact Go.on (fun t => XS.lloadN X.here B.1 rfl (hb B.2.1 hd) hl) k
theorem s_lload (B : Ctx p s m meth c Z own nm bytes maxL ret) (X : Stand p l e R s m args below meth c T locs cells slots) {k0 : Nat} {v : Int64} (hd : decode bytes pc = .ok (.lload k0, 2)) (hl : Ls[k0]? = some (.val (.long v))) (hp : pc + 2 = pc') (k : Go p e below P (T.setTop (mkF m pc' Ls (.long v :: rest)))) : Go p e below P (T.setTop (mkF m pc Ls (rest))) := by
  subst hp; exact Go.on (fun t => XS.lload X.here B.1 rfl (hb B.2.1 hd) hl) k
theorem s_lstoreN (B : Ctx p s m meth c Z own nm bytes maxL ret) (X : Stand p l e R s m args below meth c T locs cells slots) {k0 : Fin 4} {v : Int64} (hd : decode bytes pc = .ok (.lstore_n k0, 1)) (hl : storeLocals Ls k0.val (.long v) = some Ls') (hp : pc + 1 = pc') (k : Go p e below P (T.setTop (mkF m pc' Ls' (rest)))) : Go p e below P (T.setTop (mkF m pc Ls (.long v :: rest))) := by
  subst hp; exact Go.on (fun t => XS.lstoreN X.here B.1 rfl (hb B.2.1 hd) rfl hl) k
theorem s_lstore (B : Ctx p s m meth c Z own nm bytes maxL ret) (X : Stand p l e R s m args below meth c T locs cells slots) {k0 : Nat} {v : Int64} (hd : decode bytes pc = .ok (.lstore k0, 2)) (hl : storeLocals Ls k0 (.long v) = some Ls') (hp : pc + 2 = pc') (k : Go p e below P (T.setTop (mkF m pc' Ls' (rest)))) : Go p e below P (T.setTop (mkF m pc Ls (.long v :: rest))) := by
  subst hp; exact Go.on (fun t => XS.lstore X.here B.1 rfl (hb B.2.1 hd) rfl hl) k
theorem s_aloadN (B : Ctx p s m meth c Z own nm bytes maxL ret) (X : Stand p l e R s m args below meth c T locs cells slots) {k0 : Fin 4} {v : Value} (hd : decode bytes pc = .ok (.aload_n k0, 1)) (hl : Ls[k0.val]? = some (.val v)) (hv : v.isRef = true) (hp : pc + 1 = pc') (k : Go p e below P (T.setTop (mkF m pc' Ls (v :: rest)))) : Go p e below P (T.setTop (mkF m pc Ls (rest))) := by
  subst hp; exact Go.on (fun t => XS.aloadN X.here B.1 rfl (hb B.2.1 hd) hl hv) k
theorem s_aload (B : Ctx p s m meth c Z own nm bytes maxL ret) (X : Stand p l e R s m args below meth c T locs cells slots) {k0 : Nat} {v : Value} (hd : decode bytes pc = .ok (.aload k0, 2)) (hl : Ls[k0]? = some (.val v)) (hv : v.isRef = true) (hp : pc + 2 = pc') (k : Go p e below P (T.setTop (mkF m pc' Ls (v :: rest)))) : Go p e below P (T.setTop (mkF m pc Ls (rest))) := by
  subst hp; exact Go.on (fun t => XS.aload X.here B.1 rfl (hb B.2.1 hd) hl hv) k
theorem s_astoreN (B : Ctx p s m meth c Z own nm bytes maxL ret) (X : Stand p l e R s m args below meth c T locs cells slots) {k0 : Fin 4} {v : Value} (hd : decode bytes pc = .ok (.astore_n k0, 1)) (hv : v.isRef = true) (hl : storeLocals Ls k0.val v = some Ls') (hp : pc + 1 = pc') (k : Go p e below P (T.setTop (mkF m pc' Ls' (rest)))) : Go p e below P (T.setTop (mkF m pc Ls (v :: rest))) := by
  subst hp; exact Go.on (fun t => XS.astoreN X.here B.1 rfl (hb B.2.1 hd) rfl hv hl) k
theorem s_astore (B : Ctx p s m meth c Z own nm bytes maxL ret) (X : Stand p l e R s m args below meth c T locs cells slots) {k0 : Nat} {v : Value} (hd : decode bytes pc = .ok (.astore k0, 2)) (hv : v.isRef = true) (hl : storeLocals Ls k0 v = some Ls') (hp : pc + 2 = pc') (k : Go p e below P (T.setTop (mkF m pc' Ls' (rest)))) : Go p e below P (T.setTop (mkF m pc Ls (v :: rest))) := by
  subst hp; exact Go.on (fun t => XS.astore X.here B.1 rfl (hb B.2.1 hd) rfl hv hl) k
theorem s_iconst (B : Ctx p s m meth c Z own nm bytes maxL ret) (X : Stand p l e R s m args below meth c T locs cells slots) {i : Int} {v : Int32} (hd : decode bytes pc = .ok (.iconst i, 1)) (hv : Int32.ofInt i = v) (hp : pc + 1 = pc') (k : Go p e below P (T.setTop (mkF m pc' Ls (.int v :: rest)))) : Go p e below P (T.setTop (mkF m pc Ls (rest))) := by
  subst hp; subst hv; exact Go.on (fun t => XS.iconst X.here B.1 rfl (hb B.2.1 hd)) k
theorem s_bipush (B : Ctx p s m meth c Z own nm bytes maxL ret) (X : Stand p l e R s m args below meth c T locs cells slots) {i : Int} {v : Int32} (hd : decode bytes pc = .ok (.bipush i, 2)) (hv : (Int8.ofInt i).toInt32 = v) (hp : pc + 2 = pc') (k : Go p e below P (T.setTop (mkF m pc' Ls (.int v :: rest)))) : Go p e below P (T.setTop (mkF m pc Ls (rest))) := by
  subst hp; subst hv; exact Go.on (fun t => XS.bipush X.here B.1 rfl (hb B.2.1 hd)) k
theorem s_sipush (B : Ctx p s m meth c Z own nm bytes maxL ret) (X : Stand p l e R s m args below meth c T locs cells slots) {i : Int} {v : Int32} (hd : decode bytes pc = .ok (.sipush i, 3)) (hv : (Int16.ofInt i).toInt32 = v) (hp : pc + 3 = pc') (k : Go p e below P (T.setTop (mkF m pc' Ls (.int v :: rest)))) : Go p e below P (T.setTop (mkF m pc Ls (rest))) := by
  subst hp; subst hv; exact Go.on (fun t => XS.sipush X.here B.1 rfl (hb B.2.1 hd)) k
theorem s_lconst (B : Ctx p s m meth c Z own nm bytes maxL ret) (X : Stand p l e R s m args below meth c T locs cells slots) {i : Fin 2} {v : Int64} (hd : decode bytes pc = .ok (.lconst i, 1)) (hv : Int64.ofNat i = v) (hp : pc + 1 = pc') (k : Go p e below P (T.setTop (mkF m pc' Ls (.long v :: rest)))) : Go p e below P (T.setTop (mkF m pc Ls (rest))) := by
  subst hp; subst hv; exact Go.on (fun t => XS.lconst X.here B.1 rfl (hb B.2.1 hd)) k
theorem s_aconst_null (B : Ctx p s m meth c Z own nm bytes maxL ret) (X : Stand p l e R s m args below meth c T locs cells slots)  (hd : decode bytes pc = .ok (.aconst_null, 1))  (hp : pc + 1 = pc') (k : Go p e below P (T.setTop (mkF m pc' Ls (.null :: rest)))) : Go p e below P (T.setTop (mkF m pc Ls (rest))) := by
  subst hp; exact Go.on (fun t => XS.aconstNull X.here B.1 rfl (hb B.2.1 hd)) k
theorem s_iadd (B : Ctx p s m meth c Z own nm bytes maxL ret) (X : Stand p l e R s m args below meth c T locs cells slots) {x : Int32} {y : Int32} {v : Int32} (hd : decode bytes pc = .ok (.iadd, 1)) (hv : x + y = v)  (hp : pc + 1 = pc') (k : Go p e below P (T.setTop (mkF m pc' Ls (.int v :: rest)))) : Go p e below P (T.setTop (mkF m pc Ls (.int y :: .int x :: rest))) := by
  subst hp; subst hv; exact Go.on (fun t => XS.iadd X.here B.1 rfl (hb B.2.1 hd) rfl ) k
theorem s_isub (B : Ctx p s m meth c Z own nm bytes maxL ret) (X : Stand p l e R s m args below meth c T locs cells slots) {x : Int32} {y : Int32} {v : Int32} (hd : decode bytes pc = .ok (.isub, 1)) (hv : x - y = v)  (hp : pc + 1 = pc') (k : Go p e below P (T.setTop (mkF m pc' Ls (.int v :: rest)))) : Go p e below P (T.setTop (mkF m pc Ls (.int y :: .int x :: rest))) := by
  subst hp; subst hv; exact Go.on (fun t => XS.isub X.here B.1 rfl (hb B.2.1 hd) rfl ) k
theorem s_imul (B : Ctx p s m meth c Z own nm bytes maxL ret) (X : Stand p l e R s m args below meth c T locs cells slots) {x : Int32} {y : Int32} {v : Int32} (hd : decode bytes pc = .ok (.imul, 1)) (hv : x * y = v)  (hp : pc + 1 = pc') (k : Go p e below P (T.setTop (mkF m pc' Ls (.int v :: rest)))) : Go p e below P (T.setTop (mkF m pc Ls (.int y :: .int x :: rest))) := by
  subst hp; subst hv; exact Go.on (fun t => XS.imul X.here B.1 rfl (hb B.2.1 hd) rfl ) k
theorem s_iand (B : Ctx p s m meth c Z own nm bytes maxL ret) (X : Stand p l e R s m args below meth c T locs cells slots) {x : Int32} {y : Int32} {v : Int32} (hd : decode bytes pc = .ok (.iand, 1)) (hv : x &&& y = v)  (hp : pc + 1 = pc') (k : Go p e below P (T.setTop (mkF m pc' Ls (.int v :: rest)))) : Go p e below P (T.setTop (mkF m pc Ls (.int y :: .int x :: rest))) := by
  subst hp; subst hv; exact Go.on (fun t => XS.iand X.here B.1 rfl (hb B.2.1 hd) rfl ) k
theorem s_ior (B : Ctx p s m meth c Z own nm bytes maxL ret) (X : Stand p l e R s m args below meth c T locs cells slots) {x : Int32} {y : Int32} {v : Int32} (hd : decode bytes pc = .ok (.ior, 1)) (hv : x ||| y = v)  (hp : pc + 1 = pc') (k : Go p e below P (T.setTop (mkF m pc' Ls (.int v :: rest)))) : Go p e below P (T.setTop (mkF m pc Ls (.int y :: .int x :: rest))) := by
  subst hp; subst hv; exact Go.on (fun t => XS.ior X.here B.1 rfl (hb B.2.1 hd) rfl ) k
theorem s_ixor (B : Ctx p s m meth c Z own nm bytes maxL ret) (X : Stand p l e R s m args below meth c T locs cells slots) {x : Int32} {y : Int32} {v : Int32} (hd : decode bytes pc = .ok (.ixor, 1)) (hv : x ^^^ y = v)  (hp : pc + 1 = pc') (k : Go p e below P (T.setTop (mkF m pc' Ls (.int v :: rest)))) : Go p e below P (T.setTop (mkF m pc Ls (.int y :: .int x :: rest))) := by
  subst hp; subst hv; exact Go.on (fun t => XS.ixor X.here B.1 rfl (hb B.2.1 hd) rfl ) k
theorem s_ladd (B : Ctx p s m meth c Z own nm bytes maxL ret) (X : Stand p l e R s m args below meth c T locs cells slots) {x : Int64} {y : Int64} {v : Int64} (hd : decode bytes pc = .ok (.ladd, 1)) (hv : x + y = v)  (hp : pc + 1 = pc') (k : Go p e below P (T.setTop (mkF m pc' Ls (.long v :: rest)))) : Go p e below P (T.setTop (mkF m pc Ls (.long y :: .long x :: rest))) := by
  subst hp; subst hv; exact Go.on (fun t => XS.ladd X.here B.1 rfl (hb B.2.1 hd) rfl ) k
theorem s_lsub (B : Ctx p s m meth c Z own nm bytes maxL ret) (X : Stand p l e R s m args below meth c T locs cells slots) {x : Int64} {y : Int64} {v : Int64} (hd : decode bytes pc = .ok (.lsub, 1)) (hv : x - y = v)  (hp : pc + 1 = pc') (k : Go p e below P (T.setTop (mkF m pc' Ls (.long v :: rest)))) : Go p e below P (T.setTop (mkF m pc Ls (.long y :: .long x :: rest))) := by
  subst hp; subst hv; exact Go.on (fun t => XS.lsub X.here B.1 rfl (hb B.2.1 hd) rfl ) k
theorem s_lmul (B : Ctx p s m meth c Z own nm bytes maxL ret) (X : Stand p l e R s m args below meth c T locs cells slots) {x : Int64} {y : Int64} {v : Int64} (hd : decode bytes pc = .ok (.lmul, 1)) (hv : x * y = v)  (hp : pc + 1 = pc') (k : Go p e below P (T.setTop (mkF m pc' Ls (.long v :: rest)))) : Go p e below P (T.setTop (mkF m pc Ls (.long y :: .long x :: rest))) := by
  subst hp; subst hv; exact Go.on (fun t => XS.lmul X.here B.1 rfl (hb B.2.1 hd) rfl ) k
theorem s_land (B : Ctx p s m meth c Z own nm bytes maxL ret) (X : Stand p l e R s m args below meth c T locs cells slots) {x : Int64} {y : Int64} {v : Int64} (hd : decode bytes pc = .ok (.land, 1)) (hv : x &&& y = v)  (hp : pc + 1 = pc') (k : Go p e below P (T.setTop (mkF m pc' Ls (.long v :: rest)))) : Go p e below P (T.setTop (mkF m pc Ls (.long y :: .long x :: rest))) := by
  subst hp; subst hv; exact Go.on (fun t => XS.land X.here B.1 rfl (hb B.2.1 hd) rfl ) k
theorem s_lor (B : Ctx p s m meth c Z own nm bytes maxL ret) (X : Stand p l e R s m args below meth c T locs cells slots) {x : Int64} {y : Int64} {v : Int64} (hd : decode bytes pc = .ok (.lor, 1)) (hv : x ||| y = v)  (hp : pc + 1 = pc') (k : Go p e below P (T.setTop (mkF m pc' Ls (.long v :: rest)))) : Go p e below P (T.setTop (mkF m pc Ls (.long y :: .long x :: rest))) := by
  subst hp; subst hv; exact Go.on (fun t => XS.lor X.here B.1 rfl (hb B.2.1 hd) rfl ) k
theorem s_lxor (B : Ctx p s m meth c Z own nm bytes maxL ret) (X : Stand p l e R s m args below meth c T locs cells slots) {x : Int64} {y : Int64} {v : Int64} (hd : decode bytes pc = .ok (.lxor, 1)) (hv : x ^^^ y = v)  (hp : pc + 1 = pc') (k : Go p e below P (T.setTop (mkF m pc' Ls (.long v :: rest)))) : Go p e below P (T.setTop (mkF m pc Ls (.long y :: .long x :: rest))) := by
  subst hp; subst hv; exact Go.on (fun t => XS.lxor X.here B.1 rfl (hb B.2.1 hd) rfl ) k
theorem s_idiv (B : Ctx p s m meth c Z own nm bytes maxL ret) (X : Stand p l e R s m args below meth c T locs cells slots) {x : Int32} {y : Int32} {v : Int32} (hd : decode bytes pc = .ok (.idiv, 1)) (hv : x / y = v) (hy : y ≠ 0) (hp : pc + 1 = pc') (k : Go p e below P (T.setTop (mkF m pc' Ls (.int v :: rest)))) : Go p e below P (T.setTop (mkF m pc Ls (.int y :: .int x :: rest))) := by
  subst hp; subst hv; exact Go.on (fun t => XS.idiv X.here B.1 rfl (hb B.2.1 hd) rfl hy) k
theorem s_ldiv (B : Ctx p s m meth c Z own nm bytes maxL ret) (X : Stand p l e R s m args below meth c T locs cells slots) {x : Int64} {y : Int64} {v : Int64} (hd : decode bytes pc = .ok (.ldiv, 1)) (hv : x / y = v) (hy : y ≠ 0) (hp : pc + 1 = pc') (k : Go p e below P (T.setTop (mkF m pc' Ls (.long v :: rest)))) : Go p e below P (T.setTop (mkF m pc Ls (.long y :: .long x :: rest))) := by
  subst hp; subst hv; exact Go.on (fun t => XS.ldiv X.here B.1 rfl (hb B.2.1 hd) rfl hy) k
theorem s_irem (B : Ctx p s m meth c Z own nm bytes maxL ret) (X : Stand p l e R s m args below meth c T locs cells slots) {x y v : Int32} (hd : decode bytes pc = .ok (.irem, 1)) (hv : x % y = v) (hy : y ≠ 0) (hp : pc + 1 = pc') (k : Go p e below P (T.setTop (mkF m pc' Ls (.int v :: rest)))) : Go p e below P (T.setTop (mkF m pc Ls (.int y :: .int x :: rest))) := by
  subst hp; subst hv; exact Go.on (fun t => iremM X B.1 rfl (hb B.2.1 hd) rfl hy) k
theorem s_ishl (B : Ctx p s m meth c Z own nm bytes maxL ret) (X : Stand p l e R s m args below meth c T locs cells slots) {x : Int32} {y : Int32} {v : Int32} (hd : decode bytes pc = .ok (.ishl, 1)) (hv : x <<< (y &&& 31) = v)  (hp : pc + 1 = pc') (k : Go p e below P (T.setTop (mkF m pc' Ls (.int v :: rest)))) : Go p e below P (T.setTop (mkF m pc Ls (.int y :: .int x :: rest))) := by
  subst hp; subst hv; exact Go.on (fun t => XS.ishl X.here B.1 rfl (hb B.2.1 hd) rfl ) k
theorem s_ishr (B : Ctx p s m meth c Z own nm bytes maxL ret) (X : Stand p l e R s m args below meth c T locs cells slots) {x : Int32} {y : Int32} {v : Int32} (hd : decode bytes pc = .ok (.ishr, 1)) (hv : x >>> (y &&& 31) = v)  (hp : pc + 1 = pc') (k : Go p e below P (T.setTop (mkF m pc' Ls (.int v :: rest)))) : Go p e below P (T.setTop (mkF m pc Ls (.int y :: .int x :: rest))) := by
  subst hp; subst hv; exact Go.on (fun t => XS.ishr X.here B.1 rfl (hb B.2.1 hd) rfl ) k
theorem s_iushr (B : Ctx p s m meth c Z own nm bytes maxL ret) (X : Stand p l e R s m args below meth c T locs cells slots) {x : Int32} {y : Int32} {v : Int32} (hd : decode bytes pc = .ok (.iushr, 1)) (hv : (x.toUInt32 >>> (y &&& 31).toUInt32).toInt32 = v)  (hp : pc + 1 = pc') (k : Go p e below P (T.setTop (mkF m pc' Ls (.int v :: rest)))) : Go p e below P (T.setTop (mkF m pc Ls (.int y :: .int x :: rest))) := by
  subst hp; subst hv; exact Go.on (fun t => XS.iushr X.here B.1 rfl (hb B.2.1 hd) rfl ) k
theorem s_lshl (B : Ctx p s m meth c Z own nm bytes maxL ret) (X : Stand p l e R s m args below meth c T locs cells slots) {x : Int64} {y : Int32} {v : Int64} (hd : decode bytes pc = .ok (.lshl, 1)) (hv : x <<< (y &&& 0x3f).toInt64 = v)  (hp : pc + 1 = pc') (k : Go p e below P (T.setTop (mkF m pc' Ls (.long v :: rest)))) : Go p e below P (T.setTop (mkF m pc Ls (.int y :: .long x :: rest))) := by
  subst hp; subst hv; exact Go.on (fun t => XS.lshl X.here B.1 rfl (hb B.2.1 hd) rfl ) k
theorem s_lshr (B : Ctx p s m meth c Z own nm bytes maxL ret) (X : Stand p l e R s m args below meth c T locs cells slots) {x : Int64} {y : Int32} {v : Int64} (hd : decode bytes pc = .ok (.lshr, 1)) (hv : x >>> (y &&& 0x3f).toInt64 = v)  (hp : pc + 1 = pc') (k : Go p e below P (T.setTop (mkF m pc' Ls (.long v :: rest)))) : Go p e below P (T.setTop (mkF m pc Ls (.int y :: .long x :: rest))) := by
  subst hp; subst hv; exact Go.on (fun t => XS.lshr X.here B.1 rfl (hb B.2.1 hd) rfl ) k
theorem s_lushr (B : Ctx p s m meth c Z own nm bytes maxL ret) (X : Stand p l e R s m args below meth c T locs cells slots) {x : Int64} {y : Int32} {v : Int64} (hd : decode bytes pc = .ok (.lushr, 1)) (hv : (x.toUInt64 >>> (y &&& 0x3f).toInt64.toUInt64).toInt64 = v)  (hp : pc + 1 = pc') (k : Go p e below P (T.setTop (mkF m pc' Ls (.long v :: rest)))) : Go p e below P (T.setTop (mkF m pc Ls (.int y :: .long x :: rest))) := by
  subst hp; subst hv; exact Go.on (fun t => XS.lushr X.here B.1 rfl (hb B.2.1 hd) rfl ) k
theorem s_i2b (B : Ctx p s m meth c Z own nm bytes maxL ret) (X : Stand p l e R s m args below meth c T locs cells slots) {x : Int32} {v : Int32} (hd : decode bytes pc = .ok (.i2b, 1)) (hv : x.toInt8.toInt32 = v) (hp : pc + 1 = pc') (k : Go p e below P (T.setTop (mkF m pc' Ls (.int v :: rest)))) : Go p e below P (T.setTop (mkF m pc Ls (.int x :: rest))) := by
  subst hp; subst hv; exact Go.on (fun t => XS.i2b X.here B.1 rfl (hb B.2.1 hd) rfl) k
theorem s_i2c (B : Ctx p s m meth c Z own nm bytes maxL ret) (X : Stand p l e R s m args below meth c T locs cells slots) {x : Int32} {v : Int32} (hd : decode bytes pc = .ok (.i2c, 1)) (hv : x.toUInt32.toUInt16.toUInt32.toInt32 = v) (hp : pc + 1 = pc') (k : Go p e below P (T.setTop (mkF m pc' Ls (.int v :: rest)))) : Go p e below P (T.setTop (mkF m pc Ls (.int x :: rest))) := by
  subst hp; subst hv; exact Go.on (fun t => XS.i2c X.here B.1 rfl (hb B.2.1 hd) rfl) k
theorem s_i2s (B : Ctx p s m meth c Z own nm bytes maxL ret) (X : Stand p l e R s m args below meth c T locs cells slots) {x : Int32} {v : Int32} (hd : decode bytes pc = .ok (.i2s, 1)) (hv : x.toInt16.toInt32 = v) (hp : pc + 1 = pc') (k : Go p e below P (T.setTop (mkF m pc' Ls (.int v :: rest)))) : Go p e below P (T.setTop (mkF m pc Ls (.int x :: rest))) := by
  subst hp; subst hv; exact Go.on (fun t => XS.i2s X.here B.1 rfl (hb B.2.1 hd) rfl) k
theorem s_i2l (B : Ctx p s m meth c Z own nm bytes maxL ret) (X : Stand p l e R s m args below meth c T locs cells slots) {x : Int32} {v : Int64} (hd : decode bytes pc = .ok (.i2l, 1)) (hv : x.toInt64 = v) (hp : pc + 1 = pc') (k : Go p e below P (T.setTop (mkF m pc' Ls (.long v :: rest)))) : Go p e below P (T.setTop (mkF m pc Ls (.int x :: rest))) := by
  subst hp; subst hv; exact Go.on (fun t => XS.i2l X.here B.1 rfl (hb B.2.1 hd) rfl) k
theorem s_l2i (B : Ctx p s m meth c Z own nm bytes maxL ret) (X : Stand p l e R s m args below meth c T locs cells slots) {x : Int64} {v : Int32} (hd : decode bytes pc = .ok (.l2i, 1)) (hv : x.toInt32 = v) (hp : pc + 1 = pc') (k : Go p e below P (T.setTop (mkF m pc' Ls (.int v :: rest)))) : Go p e below P (T.setTop (mkF m pc Ls (.long x :: rest))) := by
  subst hp; subst hv; exact Go.on (fun t => XS.l2i X.here B.1 rfl (hb B.2.1 hd) rfl) k
theorem s_ineg (B : Ctx p s m meth c Z own nm bytes maxL ret) (X : Stand p l e R s m args below meth c T locs cells slots) {x : Int32} {v : Int32} (hd : decode bytes pc = .ok (.ineg, 1)) (hv : -x = v) (hp : pc + 1 = pc') (k : Go p e below P (T.setTop (mkF m pc' Ls (.int v :: rest)))) : Go p e below P (T.setTop (mkF m pc Ls (.int x :: rest))) := by
  subst hp; subst hv; exact Go.on (fun t => XS.ineg X.here B.1 rfl (hb B.2.1 hd) rfl) k
theorem s_lneg (B : Ctx p s m meth c Z own nm bytes maxL ret) (X : Stand p l e R s m args below meth c T locs cells slots) {x : Int64} {v : Int64} (hd : decode bytes pc = .ok (.lneg, 1)) (hv : -x = v) (hp : pc + 1 = pc') (k : Go p e below P (T.setTop (mkF m pc' Ls (.long v :: rest)))) : Go p e below P (T.setTop (mkF m pc Ls (.long x :: rest))) := by
  subst hp; subst hv; exact Go.on (fun t => XS.lneg X.here B.1 rfl (hb B.2.1 hd) rfl) k
theorem s_lcmp (B : Ctx p s m meth c Z own nm bytes maxL ret) (X : Stand p l e R s m args below meth c T locs cells slots) {x y : Int64} (hd : decode bytes pc = .ok (.lcmp, 1))  (hp : pc + 1 = pc') (k : Go p e below P (T.setTop (mkF m pc' Ls (.int (lcmpW x y) :: rest)))) : Go p e below P (T.setTop (mkF m pc Ls (.long y :: .long x :: rest))) := by
  subst hp; exact Go.on (fun t => XS.lcmp X.here B.1 rfl (hb B.2.1 hd) rfl) k
theorem s_dup (B : Ctx p s m meth c Z own nm bytes maxL ret) (X : Stand p l e R s m args below meth c T locs cells slots) {v : Value} (hd : decode bytes pc = .ok (.dup, 1)) (hc : v.category = 1) (hp : pc + 1 = pc') (k : Go p e below P (T.setTop (mkF m pc' Ls (v :: v :: rest)))) : Go p e below P (T.setTop (mkF m pc Ls (v :: rest))) := by
  subst hp; exact Go.on (fun t => XS.dup X.here B.1 rfl (hb B.2.1 hd) rfl hc) k
theorem s_pop (B : Ctx p s m meth c Z own nm bytes maxL ret) (X : Stand p l e R s m args below meth c T locs cells slots) {v : Value} (hd : decode bytes pc = .ok (.pop, 1)) (hc : v.category = 1) (hp : pc + 1 = pc') (k : Go p e below P (T.setTop (mkF m pc' Ls (rest)))) : Go p e below P (T.setTop (mkF m pc Ls (v :: rest))) := by
  subst hp; exact Go.on (fun t => XS.pop X.here B.1 rfl (hb B.2.1 hd) rfl hc) k
theorem s_swap (B : Ctx p s m meth c Z own nm bytes maxL ret) (X : Stand p l e R s m args below meth c T locs cells slots) {v w : Value} (hd : decode bytes pc = .ok (.swap, 1)) (hc : v.category = 1) (hc2 : w.category = 1) (hp : pc + 1 = pc') (k : Go p e below P (T.setTop (mkF m pc' Ls (w :: v :: rest)))) : Go p e below P (T.setTop (mkF m pc Ls (v :: w :: rest))) := by
  subst hp; exact Go.on (fun t => XS.swap X.here B.1 rfl (hb B.2.1 hd) rfl hc hc2) k
theorem s_dup_x1 (B : Ctx p s m meth c Z own nm bytes maxL ret) (X : Stand p l e R s m args below meth c T locs cells slots) {v w : Value} (hd : decode bytes pc = .ok (.dup_x1, 1)) (hc : v.category = 1) (hc2 : w.category = 1) (hp : pc + 1 = pc') (k : Go p e below P (T.setTop (mkF m pc' Ls (v :: w :: v :: rest)))) : Go p e below P (T.setTop (mkF m pc Ls (v :: w :: rest))) := by
  subst hp; exact Go.on (fun t => XS.dupX1 X.here B.1 rfl (hb B.2.1 hd) rfl hc hc2) k
theorem s_dup2 (B : Ctx p s m meth c Z own nm bytes maxL ret) (X : Stand p l e R s m args below meth c T locs cells slots) {v w : Value} (hd : decode bytes pc = .ok (.dup2, 1)) (hc : v.category = 1) (hc2 : w.category = 1) (hp : pc + 1 = pc') (k : Go p e below P (T.setTop (mkF m pc' Ls (v :: w :: v :: w :: rest)))) : Go p e below P (T.setTop (mkF m pc Ls (v :: w :: rest))) := by
  subst hp; exact Go.on (fun t => XT.dup2 X.here B.1 rfl (hb B.2.1 hd) rfl hc hc2) k
theorem s_iinc (B : Ctx p s m meth c Z own nm bytes maxL ret) (X : Stand p l e R s m args below meth c T locs cells slots) {k0 : Nat} {i : Int} {x v : Int32} (hd : decode bytes pc = .ok (.iinc k0 i, 3)) (hl : Ls[k0]? = some (.val (.int x))) (hv : x + Int32.ofInt i = v) (hl' : storeLocals Ls k0 (.int v) = some Ls') (hp : pc + 3 = pc') (k : Go p e below P (T.setTop (mkF m pc' Ls' (rest)))) : Go p e below P (T.setTop (mkF m pc Ls (rest))) := by
  subst hp; subst hv; exact Go.on (fun t => XS.iinc X.here B.1 rfl (hb B.2.1 hd) hl hl') k
theorem s_goto (B : Ctx p s m meth c Z own nm bytes maxL ret) (X : Stand p l e R s m args below meth c T locs cells slots)  {o : Int} (hd : decode bytes pc = .ok (.goto o, 3))  (ho : 0 ≤ (pc : Int) + o) (hp : ((pc : Int) + o).toNat = pc') (k : Go p e below P (T.setTop (mkF m pc' Ls (rest)))) : Go p e below P (T.setTop (mkF m pc Ls (rest))) := Go.on (fun t => XS.goto X.here B.1 rfl rfl (hb B.2.1 hd) ho hp) k
theorem s_ifY (B : Ctx p s m meth c Z own nm bytes maxL ret) (X : Stand p l e R s m args below meth c T locs cells slots) {cd : ClassFile.Cond} {x : Int32} {o : Int} (hd : decode bytes pc = .ok (.ifCond cd o, 3)) (hc : ifCond.holds cd x = true) (ho : 0 ≤ (pc : Int) + o) (hp : ((pc : Int) + o).toNat = pc') (k : Go p e below P (T.setTop (mkF m pc' Ls (rest)))) : Go p e below P (T.setTop (mkF m pc Ls (.int x :: rest))) := Go.on (fun t => XS.ifYes X.here B.1 rfl rfl (hb B.2.1 hd) rfl hc ho hp) k
theorem s_ifN (B : Ctx p s m meth c Z own nm bytes maxL ret) (X : Stand p l e R s m args below meth c T locs cells slots) {cd : ClassFile.Cond} {x : Int32} {o : Int} (hd : decode bytes pc = .ok (.ifCond cd o, 3)) (hc : ifCond.holds cd x = false) (hp : pc + 3 = pc') (k : Go p e below P (T.setTop (mkF m pc' Ls (rest)))) : Go p e below P (T.setTop (mkF m pc Ls (.int x :: rest))) := by
  subst hp; exact Go.on (fun t => XS.ifNo X.here B.1 rfl (hb B.2.1 hd) rfl hc) k
theorem s_icmpY (B : Ctx p s m meth c Z own nm bytes maxL ret) (X : Stand p l e R s m args below meth c T locs cells slots) {cd : ClassFile.Cond} {x y : Int32} {o : Int} (hd : decode bytes pc = .ok (.if_icmp cd o, 3)) (hc : if_icmp.holds cd x y = true) (ho : 0 ≤ (pc : Int) + o) (hp : ((pc : Int) + o).toNat = pc') (k : Go p e below P (T.setTop (mkF m pc' Ls (rest)))) : Go p e below P (T.setTop (mkF m pc Ls (.int y :: .int x :: rest))) := Go.on (fun t => XS.icmpYes X.here B.1 rfl rfl (hb B.2.1 hd) rfl hc ho hp) k
theorem s_icmpN (B : Ctx p s m meth c Z own nm bytes maxL ret) (X : Stand p l e R s m args below meth c T locs cells slots) {cd : ClassFile.Cond} {x y : Int32} {o : Int} (hd : decode bytes pc = .ok (.if_icmp cd o, 3)) (hc : if_icmp.holds cd x y = false) (hp : pc + 3 = pc') (k : Go p e below P (T.setTop (mkF m pc' Ls (rest)))) : Go p e below P (T.setTop (mkF m pc Ls (.int y :: .int x :: rest))) := by
  subst hp; exact Go.on (fun t => XS.icmpNo X.here B.1 rfl (hb B.2.1 hd) rfl hc) k
theorem s_ifnullY (B : Ctx p s m meth c Z own nm bytes maxL ret) (X : Stand p l e R s m args below meth c T locs cells slots)  {o : Int} (hd : decode bytes pc = .ok (.ifnull o, 3))  (ho : 0 ≤ (pc : Int) + o) (hp : ((pc : Int) + o).toNat = pc') (k : Go p e below P (T.setTop (mkF m pc' Ls (rest)))) : Go p e below P (T.setTop (mkF m pc Ls (.null :: rest))) := Go.on (fun t => XS.ifnullYes X.here B.1 rfl rfl (hb B.2.1 hd) rfl ho hp) k
theorem s_ifnullN (B : Ctx p s m meth c Z own nm bytes maxL ret) (X : Stand p l e R s m args below meth c T locs cells slots) {b : Addr} {o : Int} (hd : decode bytes pc = .ok (.ifnull o, 3))  (hp : pc + 3 = pc') (k : Go p e below P (T.setTop (mkF m pc' Ls (rest)))) : Go p e below P (T.setTop (mkF m pc Ls (.ref b :: rest))) := by
  subst hp; exact Go.on (fun t => XS.ifnullNo X.here B.1 rfl (hb B.2.1 hd) rfl) k
theorem s_ifnonnullY (B : Ctx p s m meth c Z own nm bytes maxL ret) (X : Stand p l e R s m args below meth c T locs cells slots) {b : Addr} {o : Int} (hd : decode bytes pc = .ok (.ifnonnull o, 3))  (ho : 0 ≤ (pc : Int) + o) (hp : ((pc : Int) + o).toNat = pc') (k : Go p e below P (T.setTop (mkF m pc' Ls (rest)))) : Go p e below P (T.setTop (mkF m pc Ls (.ref b :: rest))) := Go.on (fun t => XS.ifnonnullYes X.here B.1 rfl rfl (hb B.2.1 hd) rfl ho hp) k
theorem s_ifnonnullN (B : Ctx p s m meth c Z own nm bytes maxL ret) (X : Stand p l e R s m args below meth c T locs cells slots)  {o : Int} (hd : decode bytes pc = .ok (.ifnonnull o, 3))  (hp : pc + 3 = pc') (k : Go p e below P (T.setTop (mkF m pc' Ls (rest)))) : Go p e below P (T.setTop (mkF m pc Ls (.null :: rest))) := by
  subst hp; exact Go.on (fun t => XS.ifnonnullNo X.here B.1 rfl (hb B.2.1 hd) rfl) k
theorem b_icmp_eq (B : Ctx p s m meth c Z own nm bytes maxL ret) (X : Stand p l e R s m args below meth c T locs cells slots) {x y : Int32} {o : Int} {py pn : Nat} (hd : decode bytes pc = .ok (.if_icmp .eq o, 3)) (ho : 0 ≤ (pc : Int) + o) (hy : ((pc : Int) + o).toNat = py) (hn : pc + 3 = pn) (k1 : x = y → Go p e below P (T.setTop (mkF m py Ls (rest)))) (k2 : ¬ x = y → Go p e below P (T.setTop (mkF m pn Ls (rest)))) : Go p e below P (T.setTop (mkF m pc Ls (.int y :: .int x :: rest))) := by
  by_cases q : x = y
  · exact s_icmpY B X hd (teq q).1 ho hy (k1 q)
  · exact s_icmpN B X hd (feq q).1 hn (k2 q)
theorem b_if_eq (B : Ctx p s m meth c Z own nm bytes maxL ret) (X : Stand p l e R s m args below meth c T locs cells slots) {x : Int32} {o : Int} {py pn : Nat} (hd : decode bytes pc = .ok (.ifCond .eq o, 3)) (ho : 0 ≤ (pc : Int) + o) (hy : ((pc : Int) + o).toNat = py) (hn : pc + 3 = pn) (k1 : x = 0 → Go p e below P (T.setTop (mkF m py Ls (rest)))) (k2 : ¬ x = 0 → Go p e below P (T.setTop (mkF m pn Ls (rest)))) : Go p e below P (T.setTop (mkF m pc Ls (.int x :: rest))) := by
  by_cases q : x = 0
  · exact s_ifY B X hd ((if0 _ _).trans (teq q).1) ho hy (k1 q)
  · exact s_ifN B X hd ((if0 _ _).trans (feq q).1) hn (k2 q)
theorem b_icmp_ne (B : Ctx p s m meth c Z own nm bytes maxL ret) (X : Stand p l e R s m args below meth c T locs cells slots) {x y : Int32} {o : Int} {py pn : Nat} (hd : decode bytes pc = .ok (.if_icmp .ne o, 3)) (ho : 0 ≤ (pc : Int) + o) (hy : ((pc : Int) + o).toNat = py) (hn : pc + 3 = pn) (k1 : ¬ x = y → Go p e below P (T.setTop (mkF m py Ls (rest)))) (k2 : x = y → Go p e below P (T.setTop (mkF m pn Ls (rest)))) : Go p e below P (T.setTop (mkF m pc Ls (.int y :: .int x :: rest))) := by
  by_cases q : x = y
  · exact s_icmpN B X hd (teq q).2 hn (k2 q)
  · exact s_icmpY B X hd (feq q).2 ho hy (k1 q)
theorem b_if_ne (B : Ctx p s m meth c Z own nm bytes maxL ret) (X : Stand p l e R s m args below meth c T locs cells slots) {x : Int32} {o : Int} {py pn : Nat} (hd : decode bytes pc = .ok (.ifCond .ne o, 3)) (ho : 0 ≤ (pc : Int) + o) (hy : ((pc : Int) + o).toNat = py) (hn : pc + 3 = pn) (k1 : ¬ x = 0 → Go p e below P (T.setTop (mkF m py Ls (rest)))) (k2 : x = 0 → Go p e below P (T.setTop (mkF m pn Ls (rest)))) : Go p e below P (T.setTop (mkF m pc Ls (.int x :: rest))) := by
  by_cases q : x = 0
  · exact s_ifN B X hd ((if0 _ _).trans (teq q).2) hn (k2 q)
  · exact s_ifY B X hd ((if0 _ _).trans (feq q).2) ho hy (k1 q)
theorem b_icmp_lt (B : Ctx p s m meth c Z own nm bytes maxL ret) (X : Stand p l e R s m args below meth c T locs cells slots) {x y : Int32} {o : Int} {py pn : Nat} (hd : decode bytes pc = .ok (.if_icmp .lt o, 3)) (ho : 0 ≤ (pc : Int) + o) (hy : ((pc : Int) + o).toNat = py) (hn : pc + 3 = pn) (k1 : x < y → Go p e below P (T.setTop (mkF m py Ls (rest)))) (k2 : ¬ x < y → Go p e below P (T.setTop (mkF m pn Ls (rest)))) : Go p e below P (T.setTop (mkF m pc Ls (.int y :: .int x :: rest))) := by
  by_cases q : x < y
  · exact s_icmpY B X hd (tlt q).1 ho hy (k1 q)
  · exact s_icmpN B X hd (flt q).1 hn (k2 q)
theorem b_if_lt (B : Ctx p s m meth c Z own nm bytes maxL ret) (X : Stand p l e R s m args below meth c T locs cells slots) {x : Int32} {o : Int} {py pn : Nat} (hd : decode bytes pc = .ok (.ifCond .lt o, 3)) (ho : 0 ≤ (pc : Int) + o) (hy : ((pc : Int) + o).toNat = py) (hn : pc + 3 = pn) (k1 : x < 0 → Go p e below P (T.setTop (mkF m py Ls (rest)))) (k2 : ¬ x < 0 → Go p e below P (T.setTop (mkF m pn Ls (rest)))) : Go p e below P (T.setTop (mkF m pc Ls (.int x :: rest))) := by
  by_cases q : x < 0
  · exact s_ifY B X hd ((if0 _ _).trans (tlt q).1) ho hy (k1 q)
  · exact s_ifN B X hd ((if0 _ _).trans (flt q).1) hn (k2 q)
theorem b_icmp_ge (B : Ctx p s m meth c Z own nm bytes maxL ret) (X : Stand p l e R s m args below meth c T locs cells slots) {x y : Int32} {o : Int} {py pn : Nat} (hd : decode bytes pc = .ok (.if_icmp .ge o, 3)) (ho : 0 ≤ (pc : Int) + o) (hy : ((pc : Int) + o).toNat = py) (hn : pc + 3 = pn) (k1 : ¬ x < y → Go p e below P (T.setTop (mkF m py Ls (rest)))) (k2 : x < y → Go p e below P (T.setTop (mkF m pn Ls (rest)))) : Go p e below P (T.setTop (mkF m pc Ls (.int y :: .int x :: rest))) := by
  by_cases q : x < y
  · exact s_icmpN B X hd (tlt q).2.1 hn (k2 q)
  · exact s_icmpY B X hd (flt q).2.1 ho hy (k1 q)
theorem b_if_ge (B : Ctx p s m meth c Z own nm bytes maxL ret) (X : Stand p l e R s m args below meth c T locs cells slots) {x : Int32} {o : Int} {py pn : Nat} (hd : decode bytes pc = .ok (.ifCond .ge o, 3)) (ho : 0 ≤ (pc : Int) + o) (hy : ((pc : Int) + o).toNat = py) (hn : pc + 3 = pn) (k1 : ¬ x < 0 → Go p e below P (T.setTop (mkF m py Ls (rest)))) (k2 : x < 0 → Go p e below P (T.setTop (mkF m pn Ls (rest)))) : Go p e below P (T.setTop (mkF m pc Ls (.int x :: rest))) := by
  by_cases q : x < 0
  · exact s_ifN B X hd ((if0 _ _).trans (tlt q).2.1) hn (k2 q)
  · exact s_ifY B X hd ((if0 _ _).trans (flt q).2.1) ho hy (k1 q)
theorem b_icmp_gt (B : Ctx p s m meth c Z own nm bytes maxL ret) (X : Stand p l e R s m args below meth c T locs cells slots) {x y : Int32} {o : Int} {py pn : Nat} (hd : decode bytes pc = .ok (.if_icmp .gt o, 3)) (ho : 0 ≤ (pc : Int) + o) (hy : ((pc : Int) + o).toNat = py) (hn : pc + 3 = pn) (k1 : y < x → Go p e below P (T.setTop (mkF m py Ls (rest)))) (k2 : ¬ y < x → Go p e below P (T.setTop (mkF m pn Ls (rest)))) : Go p e below P (T.setTop (mkF m pc Ls (.int y :: .int x :: rest))) := by
  by_cases q : y < x
  · exact s_icmpY B X hd (tlt q).2.2.1 ho hy (k1 q)
  · exact s_icmpN B X hd (flt q).2.2.1 hn (k2 q)
theorem b_if_gt (B : Ctx p s m meth c Z own nm bytes maxL ret) (X : Stand p l e R s m args below meth c T locs cells slots) {x : Int32} {o : Int} {py pn : Nat} (hd : decode bytes pc = .ok (.ifCond .gt o, 3)) (ho : 0 ≤ (pc : Int) + o) (hy : ((pc : Int) + o).toNat = py) (hn : pc + 3 = pn) (k1 : 0 < x → Go p e below P (T.setTop (mkF m py Ls (rest)))) (k2 : ¬ 0 < x → Go p e below P (T.setTop (mkF m pn Ls (rest)))) : Go p e below P (T.setTop (mkF m pc Ls (.int x :: rest))) := by
  by_cases q : 0 < x
  · exact s_ifY B X hd ((if0 _ _).trans (tlt q).2.2.1) ho hy (k1 q)
  · exact s_ifN B X hd ((if0 _ _).trans (flt q).2.2.1) hn (k2 q)
theorem b_icmp_le (B : Ctx p s m meth c Z own nm bytes maxL ret) (X : Stand p l e R s m args below meth c T locs cells slots) {x y : Int32} {o : Int} {py pn : Nat} (hd : decode bytes pc = .ok (.if_icmp .le o, 3)) (ho : 0 ≤ (pc : Int) + o) (hy : ((pc : Int) + o).toNat = py) (hn : pc + 3 = pn) (k1 : ¬ y < x → Go p e below P (T.setTop (mkF m py Ls (rest)))) (k2 : y < x → Go p e below P (T.setTop (mkF m pn Ls (rest)))) : Go p e below P (T.setTop (mkF m pc Ls (.int y :: .int x :: rest))) := by
  by_cases q : y < x
  · exact s_icmpN B X hd (tlt q).2.2.2 hn (k2 q)
  · exact s_icmpY B X hd (flt q).2.2.2 ho hy (k1 q)
theorem b_if_le (B : Ctx p s m meth c Z own nm bytes maxL ret) (X : Stand p l e R s m args below meth c T locs cells slots) {x : Int32} {o : Int} {py pn : Nat} (hd : decode bytes pc = .ok (.ifCond .le o, 3)) (ho : 0 ≤ (pc : Int) + o) (hy : ((pc : Int) + o).toNat = py) (hn : pc + 3 = pn) (k1 : ¬ 0 < x → Go p e below P (T.setTop (mkF m py Ls (rest)))) (k2 : 0 < x → Go p e below P (T.setTop (mkF m pn Ls (rest)))) : Go p e below P (T.setTop (mkF m pc Ls (.int x :: rest))) := by
  by_cases q : 0 < x
  · exact s_ifN B X hd ((if0 _ _).trans (tlt q).2.2.2) hn (k2 q)
  · exact s_ifY B X hd ((if0 _ _).trans (flt q).2.2.2) ho hy (k1 q)
theorem b_lcmp_eq (B : Ctx p s m meth c Z own nm bytes maxL ret) (X : Stand p l e R s m args below meth c T locs cells slots) {x y : Int64} {pc0 : Nat} {o : Int} {py pn : Nat} (hd0 : decode bytes pc0 = .ok (.lcmp, 1)) (hp0 : pc0 + 1 = pc) (hd : decode bytes pc = .ok (.ifCond .eq o, 3)) (ho : 0 ≤ (pc : Int) + o) (hy : ((pc : Int) + o).toNat = py) (hn : pc + 3 = pn) (k1 : x = y → Go p e below P (T.setTop (mkF m py Ls (rest)))) (k2 : ¬ x = y → Go p e below P (T.setTop (mkF m pn Ls (rest)))) : Go p e below P (T.setTop (mkF m pc0 Ls (.long y :: .long x :: rest))) := by
  by_cases q : x = y
  · exact s_lcmp B X hd0 hp0 (s_ifY B X hd ((if0 _ _).trans (teq ((lw_eq x y).mpr q)).1) ho hy (k1 q))
  · exact s_lcmp B X hd0 hp0 (s_ifN B X hd ((if0 _ _).trans (feq (fun z => q ((lw_eq x y).mp z))).1) hn (k2 q))
theorem b_lcmp_ne (B : Ctx p s m meth c Z own nm bytes maxL ret) (X : Stand p l e R s m args below meth c T locs cells slots) {x y : Int64} {pc0 : Nat} {o : Int} {py pn : Nat} (hd0 : decode bytes pc0 = .ok (.lcmp, 1)) (hp0 : pc0 + 1 = pc) (hd : decode bytes pc = .ok (.ifCond .ne o, 3)) (ho : 0 ≤ (pc : Int) + o) (hy : ((pc : Int) + o).toNat = py) (hn : pc + 3 = pn) (k1 : ¬ x = y → Go p e below P (T.setTop (mkF m py Ls (rest)))) (k2 : x = y → Go p e below P (T.setTop (mkF m pn Ls (rest)))) : Go p e below P (T.setTop (mkF m pc0 Ls (.long y :: .long x :: rest))) := by
  by_cases q : x = y
  · exact s_lcmp B X hd0 hp0 (s_ifN B X hd ((if0 _ _).trans (teq ((lw_eq x y).mpr q)).2) hn (k2 q))
  · exact s_lcmp B X hd0 hp0 (s_ifY B X hd ((if0 _ _).trans (feq (fun z => q ((lw_eq x y).mp z))).2) ho hy (k1 q))
theorem b_lcmp_lt (B : Ctx p s m meth c Z own nm bytes maxL ret) (X : Stand p l e R s m args below meth c T locs cells slots) {x y : Int64} {pc0 : Nat} {o : Int} {py pn : Nat} (hd0 : decode bytes pc0 = .ok (.lcmp, 1)) (hp0 : pc0 + 1 = pc) (hd : decode bytes pc = .ok (.ifCond .lt o, 3)) (ho : 0 ≤ (pc : Int) + o) (hy : ((pc : Int) + o).toNat = py) (hn : pc + 3 = pn) (k1 : x < y → Go p e below P (T.setTop (mkF m py Ls (rest)))) (k2 : ¬ x < y → Go p e below P (T.setTop (mkF m pn Ls (rest)))) : Go p e below P (T.setTop (mkF m pc0 Ls (.long y :: .long x :: rest))) := by
  by_cases q : x < y
  · exact s_lcmp B X hd0 hp0 (s_ifY B X hd ((if0 _ _).trans (tlt ((lw_lt x y).mpr q)).1) ho hy (k1 q))
  · exact s_lcmp B X hd0 hp0 (s_ifN B X hd ((if0 _ _).trans (flt (fun z => q ((lw_lt x y).mp z))).1) hn (k2 q))
theorem b_lcmp_ge (B : Ctx p s m meth c Z own nm bytes maxL ret) (X : Stand p l e R s m args below meth c T locs cells slots) {x y : Int64} {pc0 : Nat} {o : Int} {py pn : Nat} (hd0 : decode bytes pc0 = .ok (.lcmp, 1)) (hp0 : pc0 + 1 = pc) (hd : decode bytes pc = .ok (.ifCond .ge o, 3)) (ho : 0 ≤ (pc : Int) + o) (hy : ((pc : Int) + o).toNat = py) (hn : pc + 3 = pn) (k1 : ¬ x < y → Go p e below P (T.setTop (mkF m py Ls (rest)))) (k2 : x < y → Go p e below P (T.setTop (mkF m pn Ls (rest)))) : Go p e below P (T.setTop (mkF m pc0 Ls (.long y :: .long x :: rest))) := by
  by_cases q : x < y
  · exact s_lcmp B X hd0 hp0 (s_ifN B X hd ((if0 _ _).trans (tlt ((lw_lt x y).mpr q)).2.1) hn (k2 q))
  · exact s_lcmp B X hd0 hp0 (s_ifY B X hd ((if0 _ _).trans (flt (fun z => q ((lw_lt x y).mp z))).2.1) ho hy (k1 q))
theorem b_lcmp_gt (B : Ctx p s m meth c Z own nm bytes maxL ret) (X : Stand p l e R s m args below meth c T locs cells slots) {x y : Int64} {pc0 : Nat} {o : Int} {py pn : Nat} (hd0 : decode bytes pc0 = .ok (.lcmp, 1)) (hp0 : pc0 + 1 = pc) (hd : decode bytes pc = .ok (.ifCond .gt o, 3)) (ho : 0 ≤ (pc : Int) + o) (hy : ((pc : Int) + o).toNat = py) (hn : pc + 3 = pn) (k1 : y < x → Go p e below P (T.setTop (mkF m py Ls (rest)))) (k2 : ¬ y < x → Go p e below P (T.setTop (mkF m pn Ls (rest)))) : Go p e below P (T.setTop (mkF m pc0 Ls (.long y :: .long x :: rest))) := by
  by_cases q : y < x
  · exact s_lcmp B X hd0 hp0 (s_ifY B X hd ((if0 _ _).trans (tlt ((lw_gt x y).mpr q)).2.2.1) ho hy (k1 q))
  · exact s_lcmp B X hd0 hp0 (s_ifN B X hd ((if0 _ _).trans (flt (fun z => q ((lw_gt x y).mp z))).2.2.1) hn (k2 q))
theorem b_lcmp_le (B : Ctx p s m meth c Z own nm bytes maxL ret) (X : Stand p l e R s m args below meth c T locs cells slots) {x y : Int64} {pc0 : Nat} {o : Int} {py pn : Nat} (hd0 : decode bytes pc0 = .ok (.lcmp, 1)) (hp0 : pc0 + 1 = pc) (hd : decode bytes pc = .ok (.ifCond .le o, 3)) (ho : 0 ≤ (pc : Int) + o) (hy : ((pc : Int) + o).toNat = py) (hn : pc + 3 = pn) (k1 : ¬ y < x → Go p e below P (T.setTop (mkF m py Ls (rest)))) (k2 : y < x → Go p e below P (T.setTop (mkF m pn Ls (rest)))) : Go p e below P (T.setTop (mkF m pc0 Ls (.long y :: .long x :: rest))) := by
  by_cases q : y < x
  · exact s_lcmp B X hd0 hp0 (s_ifN B X hd ((if0 _ _).trans (tlt ((lw_gt x y).mpr q)).2.2.2) hn (k2 q))
  · exact s_lcmp B X hd0 hp0 (s_ifY B X hd ((if0 _ _).trans (flt (fun z => q ((lw_gt x y).mp z))).2.2.2) ho hy (k1 q))
theorem b_acmp_eq (B : Ctx p s m meth c Z own nm bytes maxL ret) (X : Stand p l e R s m args below meth c T locs cells slots) {a b : Addr} {o : Int} {py pn : Nat} (hd : decode bytes pc = .ok (.if_acmp .eq o, 3)) (ho : 0 ≤ (pc : Int) + o) (hy : ((pc : Int) + o).toNat = py) (hn : pc + 3 = pn) (k1 : a = b → Go p e below P (T.setTop (mkF m py Ls (rest)))) (k2 : ¬ a = b → Go p e below P (T.setTop (mkF m pn Ls (rest)))) : Go p e below P (T.setTop (mkF m pc Ls (.ref b :: .ref a :: rest))) := by
  by_cases q : a = b
  · exact Go.on (fun t => Jvm.RoadKit.acmp X B.1 rfl rfl rfl (same := true) rfl (hb B.2.1 hd) rfl (decide_eq_true (congrArg Value.ref q)) ho (by simp [acV, hy])) (k1 q)
  · exact Go.on (fun t => Jvm.RoadKit.acmp X B.1 rfl rfl rfl (same := false) rfl (hb B.2.1 hd) rfl (decide_eq_false fun z => q (Value.ref.inj z)) ho (by simp [acV, hn])) (k2 q)
theorem b_acmp_ne (B : Ctx p s m meth c Z own nm bytes maxL ret) (X : Stand p l e R s m args below meth c T locs cells slots) {a b : Addr} {o : Int} {py pn : Nat} (hd : decode bytes pc = .ok (.if_acmp .ne o, 3)) (ho : 0 ≤ (pc : Int) + o) (hy : ((pc : Int) + o).toNat = py) (hn : pc + 3 = pn) (k1 : ¬ a = b → Go p e below P (T.setTop (mkF m py Ls (rest)))) (k2 : a = b → Go p e below P (T.setTop (mkF m pn Ls (rest)))) : Go p e below P (T.setTop (mkF m pc Ls (.ref b :: .ref a :: rest))) := by
  by_cases q : a = b
  · exact Go.on (fun t => Jvm.RoadKit.acmp X B.1 rfl rfl rfl (same := true) rfl (hb B.2.1 hd) rfl (decide_eq_true (congrArg Value.ref q)) ho (by simp [acV, hn])) (k2 q)
  · exact Go.on (fun t => Jvm.RoadKit.acmp X B.1 rfl rfl rfl (same := false) rfl (hb B.2.1 hd) rfl (decide_eq_false fun z => q (Value.ref.inj z)) ho (by simp [acV, hy])) (k1 q)
theorem b_ifnull (B : Ctx p s m meth c Z own nm bytes maxL ret) (X : Stand p l e R s m args below meth c T locs cells slots) {v : Value} {o : Int} {py pn : Nat} (hv : v.isRef = true) (hd : decode bytes pc = .ok (.ifnull o, 3)) (ho : 0 ≤ (pc : Int) + o) (hy : ((pc : Int) + o).toNat = py) (hn : pc + 3 = pn) (k1 : v = .null → Go p e below P (T.setTop (mkF m py Ls (rest)))) (k2 : ¬ v = .null → Go p e below P (T.setTop (mkF m pn Ls (rest)))) : Go p e below P (T.setTop (mkF m pc Ls (v :: rest))) := by
  rcases ref_cases hv with rfl | ⟨a, rfl⟩
  · exact s_ifnullY B X hd ho hy (k1 rfl)
  · exact s_ifnullN B X hd hn (k2 nofun)
theorem b_ifnonnull (B : Ctx p s m meth c Z own nm bytes maxL ret) (X : Stand p l e R s m args below meth c T locs cells slots) {v : Value} {o : Int} {py pn : Nat} (hv : v.isRef = true) (hd : decode bytes pc = .ok (.ifnonnull o, 3)) (ho : 0 ≤ (pc : Int) + o) (hy : ((pc : Int) + o).toNat = py) (hn : pc + 3 = pn) (k1 : ¬ v = .null → Go p e below P (T.setTop (mkF m py Ls (rest)))) (k2 : v = .null → Go p e below P (T.setTop (mkF m pn Ls (rest)))) : Go p e below P (T.setTop (mkF m pc Ls (v :: rest))) := by
  rcases ref_cases hv with rfl | ⟨a, rfl⟩
  · exact s_ifnonnullN B X hd hn (k2 rfl)
  · exact s_ifnonnullY B X hd ho hy (k1 nofun)
theorem s_ldc (B : Ctx p s m meth c Z own nm bytes maxL ret) (X : Stand p l e R s m args below meth c T locs cells slots) {i : Nat} {v : Int32} (w : (Jvm.Cond.constant own i v).before a0 Z = true) (hd : decode bytes pc = .ok (.ldc i, 2)) (hp : pc + 2 = pc') (k : Go p e below P (T.setTop (mkF m pc' Ls (.int v :: rest)))) : Go p e below P (T.setTop (mkF m pc Ls (rest))) := by
  subst hp; exact Go.on (fun t => X.ldcI B.1 B.2.2.2.1 (mv B.2.2.2.2.2.2.2 w) rfl (hb B.2.1 hd)) k
theorem s_ldc2 (B : Ctx p s m meth c Z own nm bytes maxL ret) (X : Stand p l e R s m args below meth c T locs cells slots) {i : Nat} {v : Int64} (w : (Jvm.Cond.constantLong own i v).before a0 Z = true) (hd : decode bytes pc = .ok (.ldc2_w i, 3)) (hp : pc + 3 = pc') (k : Go p e below P (T.setTop (mkF m pc' Ls (.long v :: rest)))) : Go p e below P (T.setTop (mkF m pc Ls (rest))) := by
  subst hp; exact Go.on (fun t => X.ldc2J B.1 B.2.2.2.1 (mv B.2.2.2.2.2.2.2 w) rfl (hb B.2.1 hd)) k
theorem s_getS (B : Ctx p s m meth c Z own nm bytes maxL ret) (X : Stand p l e R s m args below meth c T locs cells slots) {i : Nat} {R0 O n d : String} {v : Value} (eT : T.heap = h) (w : (Jvm.Cond.fieldLink own i R0 n d).before a0 Z = true) (via : Via Z R0 O n d) (F : Sta Z h O n d v) (hd : decode bytes pc = .ok (.getstatic i, 3)) (hp : pc + 3 = pc') (k : ∀ T', Stand p l e R s m args below meth c T' locs cells slots → T'.heap = h → Go p e below P (T'.setTop (mkF m pc' Ls (v :: rest)))) : Go p e below P (T.setTop (mkF m pc Ls (rest))) := by
  subst hp
  obtain ⟨T', X', e', st⟩ := getS X B.1 B.2.2.2.2.2.2.2 (host := "") B.2.2.2.1 w via eT F (g := mkF m pc Ls rest) rfl (hb B.2.1 hd)
  exact Go.on st (k T' X' e')
theorem s_getF (B : Ctx p s m meth c Z own nm bytes maxL ret) (X : Stand p l e R s m args below meth c T locs cells slots) {i : Nat} {R0 O n d host : String} {a : Addr} {v : Value} (eT : T.heap = h) (w : (Jvm.Cond.fieldLink own i R0 n d).before a0 Z = true ∨ (Jvm.Cond.fieldLinkNest own i R0 n d host).before a0 Z = true) (via : Via Z R0 O n d) (F : Fld Z h a O n d v) (hd : decode bytes pc = .ok (.getfield i, 3)) (hp : pc + 3 = pc') (k : ∀ T', Stand p l e R s m args below meth c T' locs cells slots → T'.heap = h → Go p e below P (T'.setTop (mkF m pc' Ls (v :: rest)))) : Go p e below P (T.setTop (mkF m pc Ls (.ref a :: rest))) := by
  subst hp
  obtain ⟨T', X', e', st⟩ := getF X B.1 B.2.2.2.2.2.2.2 B.2.2.2.1 w via eT F (g := mkF m pc Ls (.ref a :: rest)) rfl rfl (hb B.2.1 hd)
  exact Go.on st (k T' X' e')
theorem r_nar (B : Ctx p s m meth c Z own nm bytes maxL ret) (X : Stand p l e R s m args below meth c T locs cells slots) {Q : Option Value → Heap → List Loc → Prop} {kc kn : Nat} {z : Int32} {t : FieldType} (ht : t = .boolean ∨ t = .byte ∨ t = .char ∨ t = .short) (hr : ret = some t) (hd : decode bytes pc = .ok (.ireturn, 1)) (hq : Q (some (.int (nar t z))) T.heap locs) (hc : cells ≤ kc) (hs : slots ≤ kn) : Go p e below (OEnds s Q kc kn) (T.setTop (mkF m pc Ls (.int z :: rest))) := by
  obtain ⟨fs, hl, hrun, hended, hW, hsame⟩ := X.leave (v := (some (.int (nar t z)))) (fun h => by rw [B.2.2.2.2.2.1, hr] at h; first | rfl | cases h) B.2.2.2.2.2.2.1
  exact ⟨_, _, retN X B.1 (by rw [B.2.2.2.2.2.1, hr]) ht (hb B.2.1 hd) hl, hrun, hended, _, _, rfl, hq, ⟨_, rfl⟩, hW, hsame.mono hc hs⟩
theorem r_int (B : Ctx p s m meth c Z own nm bytes maxL ret) (X : Stand p l e R s m args below meth c T locs cells slots) {Q : Option Value → Heap → List Loc → Prop} {kc kn : Nat} {z : Int32} (hr : ret = some .int) (hd : decode bytes pc = .ok (.ireturn, 1)) (hq : Q (some (.int z)) T.heap locs) (hc : cells ≤ kc) (hs : slots ≤ kn) : Go p e below (OEnds s Q kc kn) (T.setTop (mkF m pc Ls (.int z :: rest))) := by
  obtain ⟨fs, hl, hrun, hended, hW, hsame⟩ := X.leave (v := (some (.int z))) (fun h => by rw [B.2.2.2.2.2.1, hr] at h; first | rfl | cases h) B.2.2.2.2.2.2.1
  exact ⟨_, _, retOut X B.1 (t := .int) (by rw [B.2.2.2.2.2.1, hr]) rfl (Or.inl ⟨rfl, Or.inl rfl, _, rfl⟩) (hb B.2.1 hd) hl, hrun, hended, _, _, rfl, hq, ⟨_, rfl⟩, hW, hsame.mono hc hs⟩
theorem r_long (B : Ctx p s m meth c Z own nm bytes maxL ret) (X : Stand p l e R s m args below meth c T locs cells slots) {Q : Option Value → Heap → List Loc → Prop} {kc kn : Nat} {z : Int64} (hr : ret = some .long) (hd : decode bytes pc = .ok (.lreturn, 1)) (hq : Q (some (.long z)) T.heap locs) (hc : cells ≤ kc) (hs : slots ≤ kn) : Go p e below (OEnds s Q kc kn) (T.setTop (mkF m pc Ls (.long z :: rest))) := by
  obtain ⟨fs, hl, hrun, hended, hW, hsame⟩ := X.leave (v := (some (.long z))) (fun h => by rw [B.2.2.2.2.2.1, hr] at h; first | rfl | cases h) B.2.2.2.2.2.2.1
  exact ⟨_, _, retOut X B.1 (t := .long) (by rw [B.2.2.2.2.2.1, hr]) rfl (Or.inr (Or.inl ⟨rfl, rfl, _, rfl⟩)) (hb B.2.1 hd) hl, hrun, hended, _, _, rfl, hq, ⟨_, rfl⟩, hW, hsame.mono hc hs⟩
theorem r_ref (B : Ctx p s m meth c Z own nm bytes maxL ret) (X : Stand p l e R s m args below meth c T locs cells slots) {Q : Option Value → Heap → List Loc → Prop} {kc kn : Nat} {v : Value} {t : FieldType} (ht : t.isReference = true) (hn : narrow t v = v) (hv : v.isRef = true) (hr : ret = some t) (hd : decode bytes pc = .ok (.areturn, 1)) (hq : Q (some v) T.heap locs) (hc : cells ≤ kc) (hs : slots ≤ kn) : Go p e below (OEnds s Q kc kn) (T.setTop (mkF m pc Ls (v :: rest))) := by
  obtain ⟨fs, hl, hrun, hended, hW, hsame⟩ := X.leave (v := (some v)) (fun h => by rw [B.2.2.2.2.2.1, hr] at h; first | rfl | cases h) B.2.2.2.2.2.2.1
  exact ⟨_, _, retOut X B.1 (t := t) (by rw [B.2.2.2.2.2.1, hr]) hn (Or.inr (Or.inr (Or.inr (Or.inr ⟨rfl, ht, hv⟩)))) (hb B.2.1 hd) hl, hrun, hended, _, _, rfl, hq, ⟨_, rfl⟩, hW, hsame.mono hc hs⟩
theorem r_void (B : Ctx p s m meth c Z own nm bytes maxL ret) (X : Stand p l e R s m args below meth c T locs cells slots) {Q : Option Value → Heap → List Loc → Prop} {kc kn : Nat} (hr : ret = none) (hd : decode bytes pc = .ok (.return_, 1)) (hq : Q none T.heap locs) (hc : cells ≤ kc) (hs : slots ≤ kn) : Go p e below (OEnds s Q kc kn) (T.setTop (mkF m pc Ls [])) := by
  obtain ⟨fs, hl, hrun, hended, hW, hsame⟩ := X.leave (v := none) (fun _ => rfl) B.2.2.2.2.2.2.1
  exact ⟨_, _, X.returnOut B.1 (by rw [B.2.2.2.2.2.1, hr]) (hb B.2.1 hd) hl, hrun, hended, _, _, rfl, hq, ⟨_, rfl⟩, hW, hsame.mono hc hs⟩
theorem c_virtual (B : Ctx p s m meth c Z own nm bytes maxL ret) (X : Stand p l e R s m args below meth c T locs cells slots) {y : MethodName} {bs : ByteArray} {mx : Nat} {rt : Option FieldType} {rm : Room} {i W : Nat} {argsL under : List Value} {Q : Option Value → Heap → List Loc → Prop} {st : List Value} {C : String} {b : Addr} (eT : T.heap = h) (w1 : (Jvm.Cond.methodLink own i y).before a0 Z = true) (w2 : (Jvm.Cond.declares y).before a0 Z = true) (w3 : (Jvm.Cond.selects C y y).before a0 Z = true) (w4 : (Jvm.Cond.instanceMethod y).before a0 Z = true) (wc : (Jvm.Cond.code y bs mx rt).before a0 Z = true) (wz : (Jvm.Cond.initialized y.cls).before a0 Z = true) (hy : y.cls ≠ "java/lang/invoke/MethodHandle" ∧ y.cls ≠ "java/lang/invoke/VarHandle") (hM : OMeets l Z y bs mx rt [] rm (.ref b :: argsL).toArray h Q) (E : Exa Z h b C) (hlen : ∀ sig, parseMethodDescriptor y.desc = some sig → argsL.length = sig.parameters.length) (hst : st = argsL.reverse ++ .ref b :: under) (hW : (under.map fun v => v.category).sum = W) (hf : rm.frames + 1 ≤ R.frames) (hlo : W + (mx + 11) + rm.locals ≤ R.locals) (hce : cells + rm.cells ≤ R.cells) (hsl : slots + rm.slots ≤ R.slots) (hsz : Ls.size = maxL) (hd : decode bytes pc = .ok (.invokevirtual i, 3)) (hp : pc + 3 = pc') (k : ∀ v T' L, Stand p l e R s m args below meth c T' (locs ++ L) (cells + rm.cells) (slots + rm.slots) → Q v T'.heap L → Go p e below P (T'.setTop (mkF m pc' Ls (v.toList ++ under)))) : Go p e below P (T.setTop (mkF m pc Ls st)) := by
  subst hp hst
  obtain ⟨cq, kq, qa, qb, qc⟩ := isOf B.2.2.2.2.2.2.2 eT E
  obtain ⟨v, _, ⟨T', L', k', n'⟩, -, X', ⟨Lc, hQ, l', y', z'⟩, st'⟩ := X.virtualBack B.1 (y := y) B.2.2.2.1 (mvT B.2.2.2.2.2.2.2 w1) (mvT B.2.2.2.2.2.2.2 w2) (notFace_of_selects (args := #[]) (mvT B.2.2.2.2.2.2.2 w3)) (mvT B.2.2.2.2.2.2.2 w3) (mvT B.2.2.2.2.2.2.2 w4) hy (z := y) (backOf (W := W) hM B.2.2.2.2.2.2.2 wc wz hf hlo) qa qc (g := mkF m pc Ls (argsL.reverse ++ .ref b :: under)) rfl (by rw [B.2.2.1]; exact hsz) (Steps.refl _) (argsL := argsL) (rest := under) hlen rfl (by show 2 * 0 + _ ≤ _; rw [Nat.mul_zero, Nat.zero_add]; exact Nat.le_of_eq hW) (hb B.2.1 hd) (fun _ _ => ⟨rfl, eT, hce, hsl⟩)
  dsimp only [Pt.U, Pt.locs, Pt.cells, Pt.slots] at X' l' y' z' st' hQ
  subst l' y' z'
  exact Go.on (fun t q => st'.trans q) (k v T' Lc X' hQ)
theorem c_static (B : Ctx p s m meth c Z own nm bytes maxL ret) (X : Stand p l e R s m args below meth c T locs cells slots) {y : MethodName} {bs : ByteArray} {mx : Nat} {rt : Option FieldType} {rm : Room} {i W : Nat} {argsL under : List Value} {Q : Option Value → Heap → List Loc → Prop} {st : List Value} (eT : T.heap = h) (w1 : (Jvm.Cond.methodLink own i y).before a0 Z = true) (w2 : (Jvm.Cond.static y).before a0 Z = true) (wc : (Jvm.Cond.code y bs mx rt).before a0 Z = true) (wz : (Jvm.Cond.initialized y.cls).before a0 Z = true) (hy : y.cls ≠ "java/lang/invoke/MethodHandle" ∧ y.cls ≠ "java/lang/invoke/VarHandle") (hM : OMeets l Z y bs mx rt [] rm argsL.toArray h Q) (hlen : ∀ sig, parseMethodDescriptor y.desc = some sig → argsL.length = sig.parameters.length) (hst : st = argsL.reverse ++ under) (hW : (under.map fun v => v.category).sum = W) (hf : rm.frames + 1 ≤ R.frames) (hlo : W + (mx + 11) + rm.locals ≤ R.locals) (hce : cells + rm.cells ≤ R.cells) (hsl : slots + rm.slots ≤ R.slots) (hsz : Ls.size = maxL) (hd : decode bytes pc = .ok (.invokestatic i, 3)) (hp : pc + 3 = pc') (k : ∀ v T' L, Stand p l e R s m args below meth c T' (locs ++ L) (cells + rm.cells) (slots + rm.slots) → Q v T'.heap L → Go p e below P (T'.setTop (mkF m pc' Ls (v.toList ++ under)))) : Go p e below P (T.setTop (mkF m pc Ls st)) := by
  subst hp hst
  obtain ⟨v, _, ⟨T', L', k', n'⟩, -, X', ⟨Lc, hQ, l', y', z'⟩, st'⟩ := Jvm.LawKit.callS X B.1 (y := y) B.2.2.2.1 (mvT B.2.2.2.2.2.2.2 w1) (mvT B.2.2.2.2.2.2.2 w2) (mvT B.2.2.2.2.2.2.2 wz) (mvT B.2.2.2.2.2.2.2 wc) hy (backOf (W := W) hM B.2.2.2.2.2.2.2 wc wz hf hlo) (g := mkF m pc Ls (argsL.reverse ++ under)) rfl (by rw [B.2.2.1]; exact hsz) (argsL := argsL) (rest := under) hlen rfl (by show 2 * 0 + _ ≤ _; rw [Nat.mul_zero, Nat.zero_add]; exact Nat.le_of_eq hW) (hb B.2.1 hd) (fun _ _ => ⟨rfl, eT, hce, hsl⟩)
  dsimp only [Pt.U, Pt.locs, Pt.cells, Pt.slots] at X' l' y' z' st' hQ
  subst l' y' z'
  exact Go.on st' (k v T' Lc X' hQ)
theorem c_init (B : Ctx p s m meth c Z own nm bytes maxL ret) (X : Stand p l e R s m args below meth c T locs cells slots) {y : MethodName} {bs : ByteArray} {mx : Nat} {rm : Room} {i W : Nat} {argsL under : List Value} {Q : Option Value → Heap → List Loc → Prop} {st : List Value} {b : Addr} (eT : T.heap = h) (hy1 : y.name = "<init>") (w1 : (Jvm.Cond.methodLink own i y).before a0 Z = true) (w2 : (Jvm.Cond.instanceMethod y).before a0 Z = true) (wc : (Jvm.Cond.code y bs mx none).before a0 Z = true) (wz : (Jvm.Cond.initialized y.cls).before a0 Z = true) (hy : y.cls ≠ "java/lang/invoke/MethodHandle" ∧ y.cls ≠ "java/lang/invoke/VarHandle") (hM : OMeets l Z y bs mx none [] rm (.ref b :: argsL).toArray h Q) (hlen : ∀ sig, parseMethodDescriptor y.desc = some sig → argsL.length = sig.parameters.length) (hst : st = argsL.reverse ++ .ref b :: under) (hW : (under.map fun v => v.category).sum = W) (hf : rm.frames + 1 ≤ R.frames) (hlo : W + (mx + 11) + rm.locals ≤ R.locals) (hce : cells + rm.cells ≤ R.cells) (hsl : slots + rm.slots ≤ R.slots) (hsz : Ls.size = maxL) (hd : decode bytes pc = .ok (.invokespecial i, 3)) (hp : pc + 3 = pc') (k : ∀ v T' L, Stand p l e R s m args below meth c T' (locs ++ L) (cells + rm.cells) (slots + rm.slots) → Q v T'.heap L → Go p e below P (T'.setTop (mkF m pc' Ls (v.toList ++ under)))) : Go p e below P (T.setTop (mkF m pc Ls st)) := by
  subst hp hst
  obtain ⟨v, _, ⟨T', L', k', n'⟩, -, X', ⟨Lc, hQ, l', y', z'⟩, st'⟩ := X.specialBack B.1 (y := y) hy1 B.2.2.2.1 (mvT B.2.2.2.2.2.2.2 w1) (mvT B.2.2.2.2.2.2.2 w2) (mvT B.2.2.2.2.2.2.2 wc) hy (backOf (W := W) hM B.2.2.2.2.2.2.2 wc wz hf hlo) (g := mkF m pc Ls (argsL.reverse ++ .ref b :: under)) rfl (by rw [B.2.2.1]; exact hsz) (Steps.refl _) (a := b) (argsL := argsL) (rest := under) hlen rfl (by show 2 * 0 + _ ≤ _; rw [Nat.mul_zero, Nat.zero_add]; exact Nat.le_of_eq hW) (hb B.2.1 hd) (fun _ _ => ⟨rfl, eT, hce, hsl⟩)
  dsimp only [Pt.U, Pt.locs, Pt.cells, Pt.slots] at X' l' y' z' st' hQ
  subst l' y' z'
  exact Go.on (fun t q => st'.trans q) (k v T' Lc X' hQ)
theorem p_virtual (B : Ctx p s m meth c Z own nm bytes maxL ret) (X : Stand p l e R s m args below meth c T locs cells slots) {y : MethodName} {bs : ByteArray} {mx : Nat} {rt : Option FieldType} {rm : Room} {i W : Nat} {argsL under : List Value} {st : List Value} {C : String} {b : Addr} {r : Option Value} (eT : T.heap = h) (w1 : (Jvm.Cond.methodLink own i y).before a0 Z = true) (w2 : (Jvm.Cond.declares y).before a0 Z = true) (w3 : (Jvm.Cond.selects C y y).before a0 Z = true) (w4 : (Jvm.Cond.instanceMethod y).before a0 Z = true) (wc : (Jvm.Cond.code y bs mx rt).before a0 Z = true) (wz : (Jvm.Cond.initialized y.cls).before a0 Z = true) (hy : y.cls ≠ "java/lang/invoke/MethodHandle" ∧ y.cls ≠ "java/lang/invoke/VarHandle") (hM : OMeets l Z y bs mx rt [] rm (.ref b :: argsL).toArray h (PureQ r h)) (E : Exa Z h b C) (hlen : ∀ sig, parseMethodDescriptor y.desc = some sig → argsL.length = sig.parameters.length) (hst : st = argsL.reverse ++ .ref b :: under) (hW : (under.map fun v => v.category).sum = W) (hf : rm.frames + 1 ≤ R.frames) (hlo : W + (mx + 11) + rm.locals ≤ R.locals) (hce : rm.cells = 0) (hsl : rm.slots = 0) (hc0 : cells ≤ R.cells) (hs0 : slots ≤ R.slots) (hsz : Ls.size = maxL) (hd : decode bytes pc = .ok (.invokevirtual i, 3)) (hp : pc + 3 = pc') (k : ∀ T', Stand p l e R s m args below meth c T' locs cells slots → T'.heap = h → Go p e below P (T'.setTop (mkF m pc' Ls (r.toList ++ under)))) : Go p e below P (T.setTop (mkF m pc Ls st)) := by
  refine c_virtual B X eT w1 w2 w3 w4 wc wz hy hM E hlen hst hW hf hlo (by omega) (by omega) hsz hd hp ?_
  intro v T' L X' hQ
  obtain ⟨rfl, rfl, e'⟩ := hQ
  rw [hce, hsl, List.append_nil] at X'
  exact k T' X' e'
theorem p_static (B : Ctx p s m meth c Z own nm bytes maxL ret) (X : Stand p l e R s m args below meth c T locs cells slots) {y : MethodName} {bs : ByteArray} {mx : Nat} {rt : Option FieldType} {rm : Room} {i W : Nat} {argsL under : List Value} {st : List Value}  {r : Option Value} (eT : T.heap = h) (w1 : (Jvm.Cond.methodLink own i y).before a0 Z = true) (w2 : (Jvm.Cond.static y).before a0 Z = true) (wc : (Jvm.Cond.code y bs mx rt).before a0 Z = true) (wz : (Jvm.Cond.initialized y.cls).before a0 Z = true) (hy : y.cls ≠ "java/lang/invoke/MethodHandle" ∧ y.cls ≠ "java/lang/invoke/VarHandle") (hM : OMeets l Z y bs mx rt [] rm argsL.toArray h (PureQ r h))  (hlen : ∀ sig, parseMethodDescriptor y.desc = some sig → argsL.length = sig.parameters.length) (hst : st = argsL.reverse ++ under) (hW : (under.map fun v => v.category).sum = W) (hf : rm.frames + 1 ≤ R.frames) (hlo : W + (mx + 11) + rm.locals ≤ R.locals) (hce : rm.cells = 0) (hsl : rm.slots = 0) (hc0 : cells ≤ R.cells) (hs0 : slots ≤ R.slots) (hsz : Ls.size = maxL) (hd : decode bytes pc = .ok (.invokestatic i, 3)) (hp : pc + 3 = pc') (k : ∀ T', Stand p l e R s m args below meth c T' locs cells slots → T'.heap = h → Go p e below P (T'.setTop (mkF m pc' Ls (r.toList ++ under)))) : Go p e below P (T.setTop (mkF m pc Ls st)) := by
  refine c_static B X eT w1 w2 wc wz hy hM hlen hst hW hf hlo (by omega) (by omega) hsz hd hp ?_
  intro v T' L X' hQ
  obtain ⟨rfl, rfl, e'⟩ := hQ
  rw [hce, hsl, List.append_nil] at X'
  exact k T' X' e'
theorem p_init (B : Ctx p s m meth c Z own nm bytes maxL ret) (X : Stand p l e R s m args below meth c T locs cells slots) {y : MethodName} {bs : ByteArray} {mx : Nat} {rm : Room} {i W : Nat} {argsL under : List Value} {st : List Value} {b : Addr} (eT : T.heap = h) (hy1 : y.name = "<init>") (w1 : (Jvm.Cond.methodLink own i y).before a0 Z = true) (w2 : (Jvm.Cond.instanceMethod y).before a0 Z = true) (wc : (Jvm.Cond.code y bs mx none).before a0 Z = true) (wz : (Jvm.Cond.initialized y.cls).before a0 Z = true) (hy : y.cls ≠ "java/lang/invoke/MethodHandle" ∧ y.cls ≠ "java/lang/invoke/VarHandle") (hM : OMeets l Z y bs mx none [] rm (.ref b :: argsL).toArray h (PureQ none h)) (hlen : ∀ sig, parseMethodDescriptor y.desc = some sig → argsL.length = sig.parameters.length) (hst : st = argsL.reverse ++ .ref b :: under) (hW : (under.map fun v => v.category).sum = W) (hf : rm.frames + 1 ≤ R.frames) (hlo : W + (mx + 11) + rm.locals ≤ R.locals) (hce : rm.cells = 0) (hsl : rm.slots = 0) (hc0 : cells ≤ R.cells) (hs0 : slots ≤ R.slots) (hsz : Ls.size = maxL) (hd : decode bytes pc = .ok (.invokespecial i, 3)) (hp : pc + 3 = pc') (k : ∀ T', Stand p l e R s m args below meth c T' locs cells slots → T'.heap = h → Go p e below P (T'.setTop (mkF m pc' Ls under))) : Go p e below P (T.setTop (mkF m pc Ls st)) := by
  refine c_init B X eT hy1 w1 w2 wc wz hy hM hlen hst hW hf hlo (by omega) (by omega) hsz hd hp ?_
  intro v T' L X' hQ
  obtain ⟨rfl, rfl, e'⟩ := hQ
  rw [hce, hsl, List.append_nil] at X'
  exact k T' X' e'
theorem c_virtualUp (B : Ctx p s m meth c Z own nm bytes maxL ret) (X : Stand p l e R s m args below meth c T locs cells slots) {y z : MethodName} {bs : ByteArray} {mx : Nat} {rt : Option FieldType} {rm : Room} {i W : Nat} {argsL under : List Value} {Q : Option Value → Heap → List Loc → Prop} {st : List Value} {C owner : String} {b : Addr} (eT : T.heap = h) (w1 : (Jvm.Cond.methodLink own i y).before a0 Z = true) (ws : (Jvm.Cond.sameMethod y.cls owner y.name y.desc).before a0 Z = true) (w2 : (Jvm.Cond.declares ⟨owner, y.name, y.desc⟩).before a0 Z = true) (w3 : (Jvm.Cond.selects C y z).before a0 Z = true) (w4 : (Jvm.Cond.instanceMethod z).before a0 Z = true) (wc : (Jvm.Cond.code z bs mx rt).before a0 Z = true) (wz : (Jvm.Cond.initialized z.cls).before a0 Z = true) (hy : owner ≠ "java/lang/invoke/MethodHandle" ∧ owner ≠ "java/lang/invoke/VarHandle") (hM : OMeets l Z z bs mx rt [] rm (.ref b :: argsL).toArray h Q) (E : Exa Z h b C) (hlen : ∀ sig, parseMethodDescriptor y.desc = some sig → argsL.length = sig.parameters.length) (hst : st = argsL.reverse ++ .ref b :: under) (hW : (under.map fun v => v.category).sum = W) (hf : rm.frames + 1 ≤ R.frames) (hlo : W + (mx + 11) + rm.locals ≤ R.locals) (hce : cells + rm.cells ≤ R.cells) (hsl : slots + rm.slots ≤ R.slots) (hsz : Ls.size = maxL) (hd : decode bytes pc = .ok (.invokevirtual i, 3)) (hp : pc + 3 = pc') (k : ∀ v T' L, Stand p l e R s m args below meth c T' (locs ++ L) (cells + rm.cells) (slots + rm.slots) → Q v T'.heap L → Go p e below P (T'.setTop (mkF m pc' Ls (v.toList ++ under)))) : Go p e below P (T.setTop (mkF m pc Ls st)) := by
  subst hp hst
  obtain ⟨cq, kq, qa, qb, qc⟩ := isOf B.2.2.2.2.2.2.2 eT E
  obtain ⟨v, _, ⟨T', L', k', n'⟩, -, X', ⟨Lc, hQ, l', y', z'⟩, st'⟩ := X.virtualBackUp B.1 (x := y) (y := z) B.2.2.2.1 (mvT B.2.2.2.2.2.2.2 w1) (mvT B.2.2.2.2.2.2.2 ws) (mvT B.2.2.2.2.2.2.2 w2) hy (mvT B.2.2.2.2.2.2.2 w3) (mvT B.2.2.2.2.2.2.2 w4) (backOf (W := W) hM B.2.2.2.2.2.2.2 wc wz hf hlo) qa qc (g := mkF m pc Ls (argsL.reverse ++ .ref b :: under)) rfl (by rw [B.2.2.1]; exact hsz) (Steps.refl _) (argsL := argsL) (rest := under) hlen rfl (by show 2 * 0 + _ ≤ _; rw [Nat.mul_zero, Nat.zero_add]; exact Nat.le_of_eq hW) (hb B.2.1 hd) (fun _ _ => ⟨rfl, eT, hce, hsl⟩)
  dsimp only [Pt.U, Pt.locs, Pt.cells, Pt.slots] at X' l' y' z' st' hQ
  subst l' y' z'
  exact Go.on (fun t q => st'.trans q) (k v T' Lc X' hQ)
theorem p_virtualUp (B : Ctx p s m meth c Z own nm bytes maxL ret) (X : Stand p l e R s m args below meth c T locs cells slots) {y z : MethodName} {bs : ByteArray} {mx : Nat} {rt : Option FieldType} {rm : Room} {i W : Nat} {argsL under : List Value} {st : List Value} {C owner : String} {b : Addr} {r : Option Value} (eT : T.heap = h) (w1 : (Jvm.Cond.methodLink own i y).before a0 Z = true) (ws : (Jvm.Cond.sameMethod y.cls owner y.name y.desc).before a0 Z = true) (w2 : (Jvm.Cond.declares ⟨owner, y.name, y.desc⟩).before a0 Z = true) (w3 : (Jvm.Cond.selects C y z).before a0 Z = true) (w4 : (Jvm.Cond.instanceMethod z).before a0 Z = true) (wc : (Jvm.Cond.code z bs mx rt).before a0 Z = true) (wz : (Jvm.Cond.initialized z.cls).before a0 Z = true) (hy : owner ≠ "java/lang/invoke/MethodHandle" ∧ owner ≠ "java/lang/invoke/VarHandle") (hM : OMeets l Z z bs mx rt [] rm (.ref b :: argsL).toArray h (PureQ r h)) (E : Exa Z h b C) (hlen : ∀ sig, parseMethodDescriptor y.desc = some sig → argsL.length = sig.parameters.length) (hst : st = argsL.reverse ++ .ref b :: under) (hW : (under.map fun v => v.category).sum = W) (hf : rm.frames + 1 ≤ R.frames) (hlo : W + (mx + 11) + rm.locals ≤ R.locals) (hce : rm.cells = 0) (hsl : rm.slots = 0) (hc0 : cells ≤ R.cells) (hs0 : slots ≤ R.slots) (hsz : Ls.size = maxL) (hd : decode bytes pc = .ok (.invokevirtual i, 3)) (hp : pc + 3 = pc') (k : ∀ T', Stand p l e R s m args below meth c T' locs cells slots → T'.heap = h → Go p e below P (T'.setTop (mkF m pc' Ls (r.toList ++ under)))) : Go p e below P (T.setTop (mkF m pc Ls st)) := by
  refine c_virtualUp B X eT w1 ws w2 w3 w4 wc wz hy hM E hlen hst hW hf hlo (by omega) (by omega) hsz hd hp ?_
  intro v T' L X' hQ
  obtain ⟨rfl, rfl, e'⟩ := hQ
  rw [hce, hsl, List.append_nil] at X'
  exact k T' X' e'
end Kit
end Jvm.OwnKit

namespace Jvm.OwnKit
open Sem ClassFile Op Lib Jvm.Stand Jvm.Free Jvm.LawKit Jvm.RoadKit
section Heap
variable {p : Program} {l : Launch} {e : Env} {R : Room} {s : State} {m : MethodId} {args : Array Value} {below : List Frame} {meth : Method} {c : Code} {T : State} {locs : List Loc} {cells slots : Nat} {Z : State} {a0 : Array Value} {h h' : Heap} {own nm : String} {bytes : ByteArray} {maxL : Nat} {ret : Option FieldType} {P : Outcome → State → Prop} {pc pc' : Nat} {Ls Ls' : Array Slot} {rest : List Value} {a b : Addr} {k : ClassId} {ty : FieldType} {n i : Nat} {f g : Nat → Value} {v w : Value} {sl : Nat} {ws : List Addr}
/-- an array at a: n places, place i holds f i -/
def Ary (Z : State) (h : Heap) (a : Addr) (k : ClassId) (ty : FieldType) (n : Nat) (f : Nat → Value) : Prop := ∃ c : Cell, Arr Z h a c ty ∧ c.cls = k ∧ c.slots.size = n ∧ n < 2 ^ 31 ∧ ∀ i, i < n → c.slots[i]? = some (f i)
def upd (f : Nat → Value) (j : Nat) (v : Value) : Nat → Value := fun i => if i = j then v else f i
def lst (L : List Value) (d : Value) : Nat → Value := fun i => L.getD i d
theorem Ary.lt (F : Ary Z h a k ty n f) : a < h.size := by obtain ⟨c, A, -⟩ := F; exact A.lt
theorem Ary.ext (E : Ext h h') (F : Ary Z h a k ty n f) : Ary Z h' a k ty n f := by obtain ⟨c, A, r⟩ := F; exact ⟨c, A.ext E, r⟩
theorem Ary.other (W : Wr h h' b sl v) (F : Ary Z h a k ty n f) (q : a ≠ b) : Ary Z h' a k ty n f := by obtain ⟨c, A, r⟩ := F; exact ⟨c, A.other W q, r⟩
theorem Ary.keep (F : Ary Z h a k ty n f) (K : Keep h h' ws) (q : a ∉ ws) : Ary Z h' a k ty n f := by obtain ⟨c, A, r⟩ := F; exact ⟨c, ⟨K.2.1 a c A.1 q, A.2⟩, r⟩
theorem Ary.congr (F : Ary Z h a k ty n f) (q : ∀ i, i < n → f i = g i) : Ary Z h a k ty n g := by obtain ⟨c, A, r1, r2, r3, r4⟩ := F; exact ⟨c, A, r1, r2, r3, fun i hi => by rw [r4 i hi, q i hi]⟩
theorem upd_lst {L : List Value} {d v : Value} {j : Nat} (hj : j < L.length) {L' : List Value} (e : L.set j v = L') : upd (lst L d) j v = lst L' d := by
  subst e; funext i
  simp only [upd, lst, List.getD_eq_getElem?_getD, List.getElem?_set]
  by_cases q : i = j
  · subst q; simp [hj]
  · simp [q, Ne.symm q]
theorem Ary.same {j : Nat} (W : Wr h h' a j v) (F : Ary Z h a k ty n f) : Ary Z h' a k ty n (upd f j v) := by
  obtain ⟨c, A, r1, r2, r3, r4⟩ := F
  obtain ⟨cell, w1, w2, w3, -⟩ := id W
  cases w1.symm.trans A.1
  refine ⟨_, A.same W, r1, by rw [sz_set]; exact r2, r3, fun i hi => ?_⟩
  by_cases q : i = j
  · subst q; simp [Cell.setSlot, upd, w3]
  · simp only [Cell.setSlot, upd, if_neg q]; rw [Array.getElem?_setIfInBounds_ne (Ne.symm q)]; exact r4 i hi
theorem Ary.of_new {x : Int32} {N : Nat} (A : Arr Z h a (newA k ty x) ty) (hx : ¬ x < 0) (hN : x.toNatClampNeg = N) : Ary Z h a k ty N (fun _ => defaultValue ty) := by
  subst hN
  refine ⟨_, A, rfl, sz_new _ _ _, (back32 hx).2, fun i hi => ?_⟩
  simp [newA, hi]
theorem Ary.of_rep (F : Ary Z h a k ty n (fun _ => v)) {L : List Value} (q : ∀ i, i < n → L.getD i v = v) : Ary Z h a k ty n (lst L v) := F.congr fun i hi => (q i hi).symm

theorem Ary.sto {C : String} {y : Addr} (F : Ary Z h a k ty n f) (O : Ovr Z k C) (I : Ins Z h y C true) : Sto Z h a (.ref y) := by obtain ⟨c, A, r, -⟩ := F; exact Sto.of A (r ▸ O) I
theorem Ary.full {L : List Value} {j : Nat} {L' : List Value} (F : Ary Z h a k ty n (upd (lst L w) j v)) (hj : j < L.length) (e : L.set j v = L') : Ary Z h a k ty n (lst L' w) := by rw [← upd_lst (d := w) hj e]; exact F
theorem Ary.stoA {C : String} {y : Addr} {t0 : FieldType} (F : Ary Z h a k ty n f) (O : OvrA Z k t0 C) (I : Ins Z h y C true) : Sto Z h a (.ref y) := by obtain ⟨c, A, r, -⟩ := F; exact Sto.ofVA A r O I
theorem old_le {n0 : Nat} (O : Old Z n0 h) : n0 ≤ h.size := O.1 ▸ O.2.1
theorem s_new (B : Ctx p s m meth c Z own nm bytes maxL ret) (X : Stand p l e R s m args below meth c T locs cells slots) {C : String} {i0 n0 : Nat} (eT : T.heap = h) (w : (Jvm.Cond.classLink own i0 C).before a0 Z = true) (wi : (Jvm.Cond.instantiable C n0).before a0 Z = true) (wz : (Jvm.Cond.initialized C).before a0 Z = true) (hc : cells + 1 ≤ R.cells) (hl : slots + n0 ≤ R.slots) (hd : decode bytes pc = .ok (.new i0, 3)) (hp : pc + 3 = pc') (k : ∀ T' h' a, a = h.size → Stand p l e R s m args below meth c T' locs (cells + 1) (slots + n0) → T'.heap = h' → Ext h h' → Exa Z h' a C → (∀ {O nm d : String} {ty : FieldType}, Laid Z a0 C O nm d → parseFieldDescriptor d = some ty → Fld Z h' a O nm d (defaultValue ty)) → Go p e below P (T'.setTop (mkF m pc' Ls (.ref a :: rest)))) : Go p e below P (T.setTop (mkF m pc Ls (rest))) := by
  subst hp
  obtain ⟨T', h', X', e', E, A, D, -, st⟩ := newO X B.1 B.2.2.2.2.2.2.2 B.2.2.2.1 w wi wz eT (g := mkF m pc Ls rest) rfl (hb B.2.1 hd) hc hl
  exact Go.on st (k T' h' _ rfl X' e' E A D)
theorem s_initO (B : Ctx p s m meth c Z own nm bytes maxL ret) (X : Stand p l e R s m args below meth c T locs cells slots) {i0 W : Nat} {a : Addr} (eT : T.heap = h) (w1 : (Jvm.Cond.methodLink own i0 Lib.objectInit).before a0 Z = true) (w2 : (Jvm.Cond.instanceMethod Lib.objectInit).before a0 Z = true) (w3 : (Jvm.Cond.code Lib.objectInit ⟨#[0xb1]⟩ 1 none).before a0 Z = true) (hW : (rest.map fun v => v.category).sum = W) (hf : 1 ≤ R.frames) (hl : W + 12 ≤ R.locals) (hsz : Ls.size = maxL) (hd : decode bytes pc = .ok (.invokespecial i0, 3)) (hp : pc + 3 = pc') (k : ∀ T', Stand p l e R s m args below meth c T' locs cells slots → T'.heap = h → Go p e below P (T'.setTop (mkF m pc' Ls (rest)))) : Go p e below P (T.setTop (mkF m pc Ls (.ref a :: rest))) := by
  subst hp
  obtain ⟨T', X', e', st⟩ := initO X B.1 B.2.2.2.2.2.2.2 B.2.2.2.1 w1 w2 w3 eT (g := mkF m pc Ls (.ref a :: rest)) rfl (by rw [B.2.2.1]; exact hsz) rfl (hb B.2.1 hd) hf (W := W) (by show 2 * 0 + _ ≤ _; rw [Nat.mul_zero, Nat.zero_add]; exact Nat.le_of_eq hW) hl
  exact Go.on st (k T' X' e')
theorem s_putF (B : Ctx p s m meth c Z own nm bytes maxL ret) (X : Stand p l e R s m args below meth c T locs cells slots) {i0 kk : Nat} {R0 O n d host C : String} {ty : FieldType} {a : Addr} {v old : Value} (eT : T.heap = h) (w : (Jvm.Cond.fieldLink own i0 R0 n d).before a0 Z = true ∨ (Jvm.Cond.fieldLinkNest own i0 R0 n d host).before a0 Z = true) (via : Via Z R0 O n d) (F : Fld Z h a O n d old) (E : Exa Z h a C) (L : (Jvm.Cond.lays C O n d).before a0 Z = true ∨ ((Jvm.Cond.laysFinal C O n d).before a0 Z = true ∧ own = O ∧ nm = "<init>")) (wi : (Jvm.Cond.instantiable C kk).before a0 Z = true) (hty : parseFieldDescriptor d = some ty) (hn : narrow ty v = v) (hf : fits ty v = true) (hd : decode bytes pc = .ok (.putfield i0, 3)) (hp : pc + 3 = pc') (k : ∀ T' h', Stand p l e R s m args below meth c T' (locs ++ [⟨a, Jvm.RoadKit.slotOf Z O n d⟩]) cells slots → T'.heap = h' → Wr h h' a (Jvm.RoadKit.slotOf Z O n d) v → Go p e below P (T'.setTop (mkF m pc' Ls (rest)))) : Go p e below P (T.setTop (mkF m pc Ls (v :: .ref a :: rest))) := by
  subst hp
  obtain ⟨T', h', X', e', W, st⟩ := putF X B.1 B.2.2.2.2.2.2.2 B.2.2.2.1 w via eT F E (L.imp id fun q => ⟨q.1, q.2.1, by rw [B.2.2.2.2.1]; exact q.2.2⟩) wi hty hn hf (g := mkF m pc Ls (v :: .ref a :: rest)) rfl rfl (hb B.2.1 hd)
  exact Go.on st (k T' h' X' e' W)
theorem s_putFN (B : Ctx p s m meth c Z own nm bytes maxL ret) (X : Stand p l e R s m args below meth c T locs cells slots) {i0 kk : Nat} {R0 O n d C : String} {ty : FieldType} {a : Addr} {v v' old : Value} (eT : T.heap = h) (w : (Jvm.Cond.fieldLink own i0 R0 n d).before a0 Z = true) (via : Via Z R0 O n d) (F : Fld Z h a O n d old) (E : Exa Z h a C) (L : (Jvm.Cond.lays C O n d).before a0 Z = true ∨ ((Jvm.Cond.laysFinal C O n d).before a0 Z = true ∧ own = O ∧ nm = "<init>")) (wi : (Jvm.Cond.instantiable C kk).before a0 Z = true) (hty : parseFieldDescriptor d = some ty) (hn : narrow ty v = v') (hf : fits ty v' = true) (hd : decode bytes pc = .ok (.putfield i0, 3)) (hp : pc + 3 = pc') (k : ∀ T' h', Stand p l e R s m args below meth c T' (locs ++ [⟨a, Jvm.RoadKit.slotOf Z O n d⟩]) cells slots → T'.heap = h' → Wr h h' a (Jvm.RoadKit.slotOf Z O n d) v' → Go p e below P (T'.setTop (mkF m pc' Ls (rest)))) : Go p e below P (T.setTop (mkF m pc Ls (v :: .ref a :: rest))) := by
  subst hp
  obtain ⟨T', h', X', e', W, st⟩ := putFN X B.1 B.2.2.2.2.2.2.2 B.2.2.2.1 w via eT F E (L.imp id fun q => ⟨q.1, q.2.1, by rw [B.2.2.2.2.1]; exact q.2.2⟩) wi hty hn hf (g := mkF m pc Ls (v :: .ref a :: rest)) rfl rfl (hb B.2.1 hd)
  exact Go.on st (k T' h' X' e' W)
theorem s_newP (B : Ctx p s m meth c Z own nm bytes maxL ret) (X : Stand p l e R s m args below meth c T locs cells slots) {aty : ArrayType} {x : Int32} {N : Nat} (eT : T.heap = h) (w : (Jvm.Cond.arrayClass (newarray.typeOf aty)).before a0 Z = true) (hn : ¬ x < 0) (hN : x.toNatClampNeg = N) {cap : Nat} (hcap : N ≤ cap) (hb8 : cap * 8 ≤ 536870912) (hc : cells + 1 ≤ R.cells) (hl : slots + cap ≤ R.slots) (hd : decode bytes pc = .ok (.newarray aty, 2)) (hp : pc + 2 = pc') (k : ∀ T' h' a kA, a = h.size → Stand p l e R s m args below meth c T' locs (cells + 1) (slots + cap) → T'.heap = h' → Ext h h' → Ary Z h' a kA (newarray.typeOf aty) N (fun _ => defaultValue (newarray.typeOf aty)) → Go p e below P (T'.setTop (mkF m pc' Ls (.ref a :: rest)))) : Go p e below P (T.setTop (mkF m pc Ls (.int x :: rest))) := by
  subst hp
  obtain ⟨T', h', cA, X', e', E, A, st⟩ := newP X B.1 B.2.2.2.2.2.2.2 w eT (g := mkF m pc Ls (.int x :: rest)) rfl (hb B.2.1 hd) rfl hn (cap := cap) (hN ▸ hcap) hb8 hc hl
  exact Go.on st (k T' h' _ cA rfl X' e' E (Ary.of_new A hn hN))
theorem s_newR (B : Ctx p s m meth c Z own nm bytes maxL ret) (X : Stand p l e R s m args below meth c T locs cells slots) {i0 : Nat} {C : String} {x : Int32} {N : Nat} (eT : T.heap = h) (w1 : (Jvm.Cond.classLink own i0 C).before a0 Z = true) (w2 : (Jvm.Cond.arrayOver (.object C)).before a0 Z = true) (hn : ¬ x < 0) (hN : x.toNatClampNeg = N) {cap : Nat} (hcap : N ≤ cap) (hb8 : cap * 8 ≤ 536870912) (hc : cells + 1 ≤ R.cells) (hl : slots + cap ≤ R.slots) (hd : decode bytes pc = .ok (.anewarray i0, 3)) (hp : pc + 3 = pc') (k : ∀ T' h' a kA, a = h.size → Stand p l e R s m args below meth c T' locs (cells + 1) (slots + cap) → T'.heap = h' → Ext h h' → Ary Z h' a kA (.object C) N (fun _ => .null) → Ovr Z kA C → Go p e below P (T'.setTop (mkF m pc' Ls (.ref a :: rest)))) : Go p e below P (T.setTop (mkF m pc Ls (.int x :: rest))) := by
  subst hp
  obtain ⟨T', h', cA, X', e', E, A, O, st⟩ := newR X B.1 B.2.2.2.2.2.2.2 B.2.2.2.1 w1 w2 eT (g := mkF m pc Ls (.int x :: rest)) rfl (hb B.2.1 hd) rfl hn (cap := cap) (hN ▸ hcap) hb8 hc hl
  exact Go.on st (k T' h' _ cA rfl X' e' E (Ary.of_new A hn hN) O)
theorem s_newRA (B : Ctx p s m meth c Z own nm bytes maxL ret) (X : Stand p l e R s m args below meth c T locs cells slots) {i0 : Nat} {C : String} {ty : FieldType} {x : Int32} {N : Nat} (eT : T.heap = h) (hC : (FieldType.array ty).toString = C) (w1 : (Jvm.Cond.classLink own i0 C).before a0 Z = true) (w2 : (Jvm.Cond.arrayOver (.array ty)).before a0 Z = true) (hn : ¬ x < 0) (hN : x.toNatClampNeg = N) {cap : Nat} (hcap : N ≤ cap) (hb8 : cap * 8 ≤ 536870912) (hc : cells + 1 ≤ R.cells) (hl : slots + cap ≤ R.slots) (hd : decode bytes pc = .ok (.anewarray i0, 3)) (hp : pc + 3 = pc') (k : ∀ T' h' a kA, a = h.size → Stand p l e R s m args below meth c T' locs (cells + 1) (slots + cap) → T'.heap = h' → Ext h h' → Ary Z h' a kA (.array ty) N (fun _ => .null) → OvrA Z kA ty C → Go p e below P (T'.setTop (mkF m pc' Ls (.ref a :: rest)))) : Go p e below P (T.setTop (mkF m pc Ls (.int x :: rest))) := by
  subst hp
  obtain ⟨T', h', cA, X', e', E, A, -, O, st⟩ := newRA X B.1 B.2.2.2.2.2.2.2 B.2.2.2.1 hC w1 w2 eT (g := mkF m pc Ls (.int x :: rest)) rfl (hb B.2.1 hd) rfl hn (cap := cap) (hN ▸ hcap) hb8 hc hl rfl
  exact Go.on st (k T' h' _ cA rfl X' e' E (Ary.of_new A hn hN) O)
theorem s_stI (B : Ctx p s m meth c Z own nm bytes maxL ret) (X : Stand p l e R s m args below meth c T locs cells slots) {a : Addr} {x : Int32} {j : Int32} {jn N : Nat} {f : Nat → Value} {kA : ClassId} (eT : T.heap = h) (A : Ary Z h a kA .int N f) (hj : ¬ j < 0) (hjn : j.toNatClampNeg = jn) (hlt : jn < N) (hd : decode bytes pc = .ok (.iastore, 1)) (hp : pc + 1 = pc') (k : ∀ T' h', Stand p l e R s m args below meth c T' (locs ++ [⟨a, jn⟩]) cells slots → T'.heap = h' → Wr h h' a jn (.int x) → Ary Z h' a kA .int N (upd f jn (.int x)) → Go p e below P (T'.setTop (mkF m pc' Ls (rest)))) : Go p e below P (T.setTop (mkF m pc Ls (.int x :: .int j :: .ref a :: rest))) := by
  subst hp
  subst hjn
  obtain ⟨cl, A1, q1, q2, q3, q4⟩ := id A
  obtain ⟨T', h', X', e', W, st⟩ := stI X B.1 B.2.2.2.2.2.2.2 eT A1 (j := j) (by rw [q2]; intro z; rcases z with z | z; exact hj z; omega) (g := mkF m pc Ls (.int x :: .int j :: .ref a :: rest)) rfl rfl (hb B.2.1 hd)
  exact Go.on st (k T' h' X' e' W (A.same W))
theorem s_stJ (B : Ctx p s m meth c Z own nm bytes maxL ret) (X : Stand p l e R s m args below meth c T locs cells slots) {a : Addr} {x : Int64} {j : Int32} {jn N : Nat} {f : Nat → Value} {kA : ClassId} (eT : T.heap = h) (A : Ary Z h a kA .long N f) (hj : ¬ j < 0) (hjn : j.toNatClampNeg = jn) (hlt : jn < N) (hd : decode bytes pc = .ok (.lastore, 1)) (hp : pc + 1 = pc') (k : ∀ T' h', Stand p l e R s m args below meth c T' (locs ++ [⟨a, jn⟩]) cells slots → T'.heap = h' → Wr h h' a jn (.long x) → Ary Z h' a kA .long N (upd f jn (.long x)) → Go p e below P (T'.setTop (mkF m pc' Ls (rest)))) : Go p e below P (T.setTop (mkF m pc Ls (.long x :: .int j :: .ref a :: rest))) := by
  subst hp
  subst hjn
  obtain ⟨cl, A1, q1, q2, q3, q4⟩ := id A
  obtain ⟨T', h', X', e', W, st⟩ := stJ X B.1 B.2.2.2.2.2.2.2 eT A1 (j := j) (by rw [q2]; intro z; rcases z with z | z; exact hj z; omega) (g := mkF m pc Ls (.long x :: .int j :: .ref a :: rest)) rfl rfl (hb B.2.1 hd)
  exact Go.on st (k T' h' X' e' W (A.same W))
theorem s_stB (B : Ctx p s m meth c Z own nm bytes maxL ret) (X : Stand p l e R s m args below meth c T locs cells slots) {a : Addr} {x : Int32} {j : Int32} {jn N : Nat} {f : Nat → Value} {kA : ClassId} (eT : T.heap = h) (A : Ary Z h a kA .byte N f) (hj : ¬ j < 0) (hjn : j.toNatClampNeg = jn) (hlt : jn < N) (hd : decode bytes pc = .ok (.bastore, 1)) (hp : pc + 1 = pc') (k : ∀ T' h', Stand p l e R s m args below meth c T' (locs ++ [⟨a, jn⟩]) cells slots → T'.heap = h' → Wr h h' a jn (.int (nar .byte x)) → Ary Z h' a kA .byte N (upd f jn (.int (nar .byte x))) → Go p e below P (T'.setTop (mkF m pc' Ls (rest)))) : Go p e below P (T.setTop (mkF m pc Ls (.int x :: .int j :: .ref a :: rest))) := by
  subst hp
  subst hjn
  obtain ⟨cl, A1, q1, q2, q3, q4⟩ := id A
  obtain ⟨T', h', X', e', W, st⟩ := stB X B.1 B.2.2.2.2.2.2.2 eT A1 (j := j) (by rw [q2]; intro z; rcases z with z | z; exact hj z; omega) (g := mkF m pc Ls (.int x :: .int j :: .ref a :: rest)) rfl rfl (hb B.2.1 hd)
  exact Go.on st (k T' h' X' e' W (A.same W))
theorem s_stZ (B : Ctx p s m meth c Z own nm bytes maxL ret) (X : Stand p l e R s m args below meth c T locs cells slots) {a : Addr} {x : Int32} {j : Int32} {jn N : Nat} {f : Nat → Value} {kA : ClassId} (eT : T.heap = h) (A : Ary Z h a kA .boolean N f) (hj : ¬ j < 0) (hjn : j.toNatClampNeg = jn) (hlt : jn < N) (hd : decode bytes pc = .ok (.bastore, 1)) (hp : pc + 1 = pc') (k : ∀ T' h', Stand p l e R s m args below meth c T' (locs ++ [⟨a, jn⟩]) cells slots → T'.heap = h' → Wr h h' a jn (.int (nar .boolean x)) → Ary Z h' a kA .boolean N (upd f jn (.int (nar .boolean x))) → Go p e below P (T'.setTop (mkF m pc' Ls (rest)))) : Go p e below P (T.setTop (mkF m pc Ls (.int x :: .int j :: .ref a :: rest))) := by
  subst hp
  subst hjn
  obtain ⟨cl, A1, q1, q2, q3, q4⟩ := id A
  obtain ⟨T', h', X', e', W, st⟩ := stZ X B.1 B.2.2.2.2.2.2.2 eT A1 (j := j) (by rw [q2]; intro z; rcases z with z | z; exact hj z; omega) (g := mkF m pc Ls (.int x :: .int j :: .ref a :: rest)) rfl rfl (hb B.2.1 hd)
  exact Go.on st (k T' h' X' e' W (A.same W))
theorem s_stC (B : Ctx p s m meth c Z own nm bytes maxL ret) (X : Stand p l e R s m args below meth c T locs cells slots) {a : Addr} {x : Int32} {j : Int32} {jn N : Nat} {f : Nat → Value} {kA : ClassId} (eT : T.heap = h) (A : Ary Z h a kA .char N f) (hj : ¬ j < 0) (hjn : j.toNatClampNeg = jn) (hlt : jn < N) (hd : decode bytes pc = .ok (.castore, 1)) (hp : pc + 1 = pc') (k : ∀ T' h', Stand p l e R s m args below meth c T' (locs ++ [⟨a, jn⟩]) cells slots → T'.heap = h' → Wr h h' a jn (.int (nar .char x)) → Ary Z h' a kA .char N (upd f jn (.int (nar .char x))) → Go p e below P (T'.setTop (mkF m pc' Ls (rest)))) : Go p e below P (T.setTop (mkF m pc Ls (.int x :: .int j :: .ref a :: rest))) := by
  subst hp
  subst hjn
  obtain ⟨cl, A1, q1, q2, q3, q4⟩ := id A
  obtain ⟨T', h', X', e', W, st⟩ := stC X B.1 B.2.2.2.2.2.2.2 eT A1 (j := j) (by rw [q2]; intro z; rcases z with z | z; exact hj z; omega) (g := mkF m pc Ls (.int x :: .int j :: .ref a :: rest)) rfl rfl (hb B.2.1 hd)
  exact Go.on st (k T' h' X' e' W (A.same W))
theorem s_stR (B : Ctx p s m meth c Z own nm bytes maxL ret) (X : Stand p l e R s m args below meth c T locs cells slots) {a : Addr} {v : Value} {ty : FieldType} {j : Int32} {jn N : Nat} {f : Nat → Value} {kA : ClassId} (eT : T.heap = h) (A : Ary Z h a kA ty N f) (hty : ty.isReference = true) (S : Sto Z h a v) (hj : ¬ j < 0) (hjn : j.toNatClampNeg = jn) (hlt : jn < N) (hd : decode bytes pc = .ok (.aastore, 1)) (hp : pc + 1 = pc') (k : ∀ T' h', Stand p l e R s m args below meth c T' (locs ++ [⟨a, jn⟩]) cells slots → T'.heap = h' → Wr h h' a jn v → Ary Z h' a kA ty N (upd f jn v) → Go p e below P (T'.setTop (mkF m pc' Ls (rest)))) : Go p e below P (T.setTop (mkF m pc Ls (v :: .int j :: .ref a :: rest))) := by
  subst hp
  subst hjn
  obtain ⟨cl, A1, q1, q2, q3, q4⟩ := id A
  obtain ⟨T', h', X', e', W, st⟩ := stR X B.1 B.2.2.2.2.2.2.2 eT A1 (j := j) (by rw [q2]; intro z; rcases z with z | z; exact hj z; omega) hty S (g := mkF m pc Ls (v :: .int j :: .ref a :: rest)) rfl rfl (hb B.2.1 hd)
  exact Go.on st (k T' h' X' e' W (A.same W))
theorem s_ldI (B : Ctx p s m meth c Z own nm bytes maxL ret) (X : Stand p l e R s m args below meth c T locs cells slots) {a : Addr} {v : Value} {j : Int32} {jn N : Nat} {f : Nat → Value} {kA : ClassId} (eT : T.heap = h) (A : Ary Z h a kA .int N f) (hj : ¬ j < 0) (hjn : j.toNatClampNeg = jn) (hlt : jn < N) (hv : f jn = v) (hd : decode bytes pc = .ok (.iaload, 1)) (hp : pc + 1 = pc') (k : Go p e below P (T.setTop (mkF m pc' Ls (v :: rest)))) : Go p e below P (T.setTop (mkF m pc Ls (.int j :: .ref a :: rest))) := by
  subst hp hjn hv
  obtain ⟨cl, A1, q1, q2, q3, q4⟩ := A
  exact Go.on (X.iaload B.1 (j := j) (by rw [eT]; exact A1.1) (State.isArrayOf_alike B.2.2.2.2.2.2.2.alike A1.2.1) A1.2.2 (by rw [q2]; intro z; rcases z with z | z; exact hj z; omega) (q4 _ hlt) (g := mkF m pc Ls (.int j :: .ref a :: rest)) rfl rfl (hb B.2.1 hd)) k
theorem s_ldJ (B : Ctx p s m meth c Z own nm bytes maxL ret) (X : Stand p l e R s m args below meth c T locs cells slots) {a : Addr} {v : Value} {j : Int32} {jn N : Nat} {f : Nat → Value} {kA : ClassId} (eT : T.heap = h) (A : Ary Z h a kA .long N f) (hj : ¬ j < 0) (hjn : j.toNatClampNeg = jn) (hlt : jn < N) (hv : f jn = v) (hd : decode bytes pc = .ok (.laload, 1)) (hp : pc + 1 = pc') (k : Go p e below P (T.setTop (mkF m pc' Ls (v :: rest)))) : Go p e below P (T.setTop (mkF m pc Ls (.int j :: .ref a :: rest))) := by
  subst hp hjn hv
  obtain ⟨cl, A1, q1, q2, q3, q4⟩ := A
  exact Go.on (X.laload B.1 (j := j) (by rw [eT]; exact A1.1) (State.isArrayOf_alike B.2.2.2.2.2.2.2.alike A1.2.1) A1.2.2 (by rw [q2]; intro z; rcases z with z | z; exact hj z; omega) (q4 _ hlt) (g := mkF m pc Ls (.int j :: .ref a :: rest)) rfl rfl (hb B.2.1 hd)) k
theorem s_ldB (B : Ctx p s m meth c Z own nm bytes maxL ret) (X : Stand p l e R s m args below meth c T locs cells slots) {a : Addr} {v : Value} {j : Int32} {jn N : Nat} {f : Nat → Value} {kA : ClassId} (eT : T.heap = h) (A : Ary Z h a kA .byte N f) (hj : ¬ j < 0) (hjn : j.toNatClampNeg = jn) (hlt : jn < N) (hv : f jn = v) (hd : decode bytes pc = .ok (.baload, 1)) (hp : pc + 1 = pc') (k : Go p e below P (T.setTop (mkF m pc' Ls (v :: rest)))) : Go p e below P (T.setTop (mkF m pc Ls (.int j :: .ref a :: rest))) := by
  subst hp hjn hv
  obtain ⟨cl, A1, q1, q2, q3, q4⟩ := A
  exact Go.on (X.baloadBytes B.1 (j := j) (by rw [eT]; exact A1.1) (State.isArrayOf_alike B.2.2.2.2.2.2.2.alike A1.2.1) A1.2.2 (by rw [q2]; intro z; rcases z with z | z; exact hj z; omega) (q4 _ hlt) (g := mkF m pc Ls (.int j :: .ref a :: rest)) rfl rfl (hb B.2.1 hd)) k
theorem s_ldZ (B : Ctx p s m meth c Z own nm bytes maxL ret) (X : Stand p l e R s m args below meth c T locs cells slots) {a : Addr} {v : Value} {j : Int32} {jn N : Nat} {f : Nat → Value} {kA : ClassId} (eT : T.heap = h) (A : Ary Z h a kA .boolean N f) (hj : ¬ j < 0) (hjn : j.toNatClampNeg = jn) (hlt : jn < N) (hv : f jn = v) (hd : decode bytes pc = .ok (.baload, 1)) (hp : pc + 1 = pc') (k : Go p e below P (T.setTop (mkF m pc' Ls (v :: rest)))) : Go p e below P (T.setTop (mkF m pc Ls (.int j :: .ref a :: rest))) := by
  subst hp hjn hv
  obtain ⟨cl, A1, q1, q2, q3, q4⟩ := A
  exact Go.on (X.baloadBooleans B.1 (j := j) (by rw [eT]; exact A1.1) (State.isArrayOf_alike B.2.2.2.2.2.2.2.alike A1.2.1) A1.2.2 (by rw [q2]; intro z; rcases z with z | z; exact hj z; omega) (q4 _ hlt) (g := mkF m pc Ls (.int j :: .ref a :: rest)) rfl rfl (hb B.2.1 hd)) k
theorem s_ldC (B : Ctx p s m meth c Z own nm bytes maxL ret) (X : Stand p l e R s m args below meth c T locs cells slots) {a : Addr} {v : Value} {j : Int32} {jn N : Nat} {f : Nat → Value} {kA : ClassId} (eT : T.heap = h) (A : Ary Z h a kA .char N f) (hj : ¬ j < 0) (hjn : j.toNatClampNeg = jn) (hlt : jn < N) (hv : f jn = v) (hd : decode bytes pc = .ok (.caload, 1)) (hp : pc + 1 = pc') (k : Go p e below P (T.setTop (mkF m pc' Ls (v :: rest)))) : Go p e below P (T.setTop (mkF m pc Ls (.int j :: .ref a :: rest))) := by
  subst hp hjn hv
  obtain ⟨cl, A1, q1, q2, q3, q4⟩ := A
  exact Go.on (X.caload B.1 (j := j) (by rw [eT]; exact A1.1) (State.isArrayOf_alike B.2.2.2.2.2.2.2.alike A1.2.1) A1.2.2 (by rw [q2]; intro z; rcases z with z | z; exact hj z; omega) (q4 _ hlt) (g := mkF m pc Ls (.int j :: .ref a :: rest)) rfl rfl (hb B.2.1 hd)) k
theorem s_ldR (B : Ctx p s m meth c Z own nm bytes maxL ret) (X : Stand p l e R s m args below meth c T locs cells slots) {a : Addr} {v : Value} {ty : FieldType} {j : Int32} {jn N : Nat} {f : Nat → Value} {kA : ClassId} (eT : T.heap = h) (A : Ary Z h a kA ty N f) (hty : ty.isReference = true) (hj : ¬ j < 0) (hjn : j.toNatClampNeg = jn) (hlt : jn < N) (hv : f jn = v) (hd : decode bytes pc = .ok (.aaload, 1)) (hp : pc + 1 = pc') (k : Go p e below P (T.setTop (mkF m pc' Ls (v :: rest)))) : Go p e below P (T.setTop (mkF m pc Ls (.int j :: .ref a :: rest))) := by
  subst hp hjn hv
  obtain ⟨cl, A1, q1, q2, q3, q4⟩ := A
  exact Go.on (X.aaload B.1 (j := j) (by rw [eT]; exact A1.1) (State.isArrayOf_alike B.2.2.2.2.2.2.2.alike A1.2.1) hty A1.2.2 (by rw [q2]; intro z; rcases z with z | z; exact hj z; omega) (q4 _ hlt) (g := mkF m pc Ls (.int j :: .ref a :: rest)) rfl rfl (hb B.2.1 hd)) k
theorem s_len (B : Ctx p s m meth c Z own nm bytes maxL ret) (X : Stand p l e R s m args below meth c T locs cells slots) {a : Addr} {v : Int32} {ty : FieldType} {N : Nat} {f : Nat → Value} {kA : ClassId} (eT : T.heap = h) (A : Ary Z h a kA ty N f) (hv : N.toInt32 = v) (hd : decode bytes pc = .ok (.arraylength, 1)) (hp : pc + 1 = pc') (k : Go p e below P (T.setTop (mkF m pc' Ls (.int v :: rest)))) : Go p e below P (T.setTop (mkF m pc Ls (.ref a :: rest))) := by
  subst hp hv
  obtain ⟨cl, A1, q1, q2, q3, q4⟩ := A
  subst q2
  exact Go.on (X.arraylength B.1 (by rw [eT]; exact A1.1) (State.isArrayOf_alike B.2.2.2.2.2.2.2.alike A1.2.1) (g := mkF m pc Ls (.ref a :: rest)) rfl rfl (hb B.2.1 hd)) k
theorem s_castY (B : Ctx p s m meth c Z own nm bytes maxL ret) (X : Stand p l e R s m args below meth c T locs cells slots) {i0 : Nat} {K : String} {a : Addr} (eT : T.heap = h) (w : (Jvm.Cond.classLink own i0 K).before a0 Z = true) (F : Ins Z h a K true) (hd : decode bytes pc = .ok (.checkcast i0, 3)) (hp : pc + 3 = pc') (k : ∀ T', Stand p l e R s m args below meth c T' locs cells slots → T'.heap = h → Go p e below P (T'.setTop (mkF m pc' Ls (.ref a :: rest)))) : Go p e below P (T.setTop (mkF m pc Ls (.ref a :: rest))) := by
  subst hp
  obtain ⟨T', X', e', st⟩ := castY X B.1 B.2.2.2.2.2.2.2 B.2.2.2.1 w eT F (g := mkF m pc Ls (.ref a :: rest)) rfl rfl (hb B.2.1 hd)
  exact Go.on st (k T' X' e')
theorem s_instY (B : Ctx p s m meth c Z own nm bytes maxL ret) (X : Stand p l e R s m args below meth c T locs cells slots) {i0 : Nat} {K : String} {a : Addr} (eT : T.heap = h) (w : (Jvm.Cond.classLink own i0 K).before a0 Z = true) (F : Ins Z h a K true) (hd : decode bytes pc = .ok (.instanceof i0, 3)) (hp : pc + 3 = pc') (k : ∀ T', Stand p l e R s m args below meth c T' locs cells slots → T'.heap = h → Go p e below P (T'.setTop (mkF m pc' Ls (.int 1 :: rest)))) : Go p e below P (T.setTop (mkF m pc Ls (.ref a :: rest))) := by
  subst hp
  obtain ⟨T', X', e', st⟩ := instY X B.1 B.2.2.2.2.2.2.2 B.2.2.2.1 w eT F (g := mkF m pc Ls (.ref a :: rest)) rfl rfl (hb B.2.1 hd)
  exact Go.on st (k T' X' e')
theorem s_tswIn (B : Ctx p s m meth c Z own nm bytes maxL ret) (X : Stand p l e R s m args below meth c T locs cells slots) {df lo hi : Int} {offs : Array Int} {len : Nat} {o : Int} {x : Int32} (hd : decode bytes pc = .ok (.tableswitch df lo hi offs, len)) (hin : ¬ (x.toInt < lo ∨ x.toInt > hi)) (hoff : offs[(x.toInt - lo).toNat]? = some o) (ho : 0 ≤ (pc : Int) + o) (hp : ((pc : Int) + o).toNat = pc') (k : Go p e below P (T.setTop (mkF m pc' Ls (rest)))) : Go p e below P (T.setTop (mkF m pc Ls (.int x :: rest))) := Go.on (fun t => XS.tswIn (g := mkF m pc Ls (.int x :: rest)) X.here B.1 rfl (pc0 := pc) rfl (hb B.2.1 hd) (i := x) (rest := rest) rfl hin hoff ho hp) k
theorem s_tswOut (B : Ctx p s m meth c Z own nm bytes maxL ret) (X : Stand p l e R s m args below meth c T locs cells slots) {df lo hi : Int} {offs : Array Int} {len : Nat} {x : Int32} (hd : decode bytes pc = .ok (.tableswitch df lo hi offs, len)) (hout : x.toInt < lo ∨ x.toInt > hi) (ho : 0 ≤ (pc : Int) + df) (hp : ((pc : Int) + df).toNat = pc') (k : Go p e below P (T.setTop (mkF m pc' Ls (rest)))) : Go p e below P (T.setTop (mkF m pc Ls (.int x :: rest))) := Go.on (fun t => XS.tswOut (g := mkF m pc Ls (.int x :: rest)) X.here B.1 rfl (pc0 := pc) rfl (hb B.2.1 hd) (i := x) (rest := rest) rfl hout ho hp) k
end Heap
end Jvm.OwnKit

namespace Jvm.OwnKit
open Sem ClassFile Op Lib Jvm.Stand Jvm.Free Jvm.LawKit Jvm.RoadKit
section Start
variable {args : Array Value} {s : State} {t u : Term}
theorem eqI_v {k : Int32} (h : (Jvm.Cond.eq t (.int k)).value args s none s [] = some true) : t.eval args s none [] s = some (.int k) := by
  cases ht : t.eval args s none [] s with
  | none => simp [Cond.value, ht] at h
  | some x => cases x <;> simp [Cond.value, ht, Term.eval] at h ⊢; exact h
theorem eqJ_v {k : Int64} (h : (Jvm.Cond.eq t (.long k)).value args s none s [] = some true) : t.eval args s none [] s = some (.long k) := by
  cases ht : t.eval args s none [] s with
  | none => simp [Cond.value, ht] at h
  | some x => cases x <;> simp [Cond.value, ht, Term.eval] at h ⊢; exact h
theorem eqR_v {a : Addr} (hu : u.eval args s none [] s = some (.ref a)) (h : (Jvm.Cond.eq t u).value args s none s [] = some true) : t.eval args s none [] s = some (.ref a) := by
  cases ht : t.eval args s none [] s with
  | none => simp [Cond.value, ht] at h
  | some x => cases x <;> simp [Cond.value, ht, hu] at h ⊢; exact h
end Start
end Jvm.OwnKit

namespace Jvm.OwnKit
open Sem ClassFile Op Lib Jvm.Stand Jvm.Free Jvm.LawKit Jvm.RoadKit
section Tab
variable {args : Array Value} {s : State} {t : Term} {a : Addr} {c : Cell} {ty : FieldType} {i n : Nat} {C : Jvm.Cond}
theorem tab_len {N : Int32} (ht : t.eval args s none [] s = some (.ref a)) (A : Arr s s.heap a c ty) (h : (Jvm.Cond.eq (.length t) (.int N)).value args s none s [] = some true) (hn : N.toNatClampNeg = n) : c.slots.size = n ∧ n < 2 ^ 31 := by
  have e := eqI_v h
  have hat := A.fin (Vm.Alike.refl s.vm)
  simp only [Term.eval, ht, Option.bind_eq_bind, Option.bind_some, hat] at e
  split at e
  · rename_i q
    have e2 : c.slots.size.toInt32 = N := by simpa using e
    have e3 := len_toInt q
    rw [e2] at e3
    have e4 : N.toNatClampNeg = c.slots.size := by simp only [Int32.toNatClampNeg]; rw [e3]; rfl
    rw [hn] at e4
    exact ⟨e4.symm, e4 ▸ q⟩
  · cases e
theorem tab_all (ht : t.eval args s none [] s = some (.ref a)) (A : Arr s s.heap a c ty) (h : (Jvm.Cond.all t C).value args s none s [] = some true) (hi : i < c.slots.size) : C.value args s none s [i] = some true := Cond.all_elim ht (A.fin (Vm.Alike.refl _)) h i hi
theorem tab_or {D : Jvm.Cond} (h : (Jvm.Cond.or C D).value args s none s [i] = some true) (hc : C.value args s none s [i] = some false) : D.value args s none s [i] = some true := by
  simp only [Cond.value, hc] at h; exact h
theorem tab_lo {k : Int32} (hi : i < 2 ^ 31) (q : k.toInt ≤ i) : (Jvm.Cond.lt (.index 0) (.int k)).value args s none s [i] = some false := by
  have e := len_toInt hi
  simp only [Cond.value, Term.index_eval, Term.int_eval]
  exact congrArg some (decide_eq_false fun z => by rw [Int32.lt_iff_toInt_lt, e] at z; omega)
theorem tab_hi {k : Int32} (hi : i < 2 ^ 31) (q : i < k.toInt) : (Jvm.Cond.le (.int k) (.index 0)).value args s none s [i] = some false := by
  have e := len_toInt hi
  simp only [Cond.value, Term.index_eval, Term.int_eval]
  exact congrArg some (decide_eq_false fun z => by rw [Int32.le_iff_toInt_le, e] at z; omega)
theorem tab_el {v : Value} {j : Term} (ht : t.eval args s none [i] s = some (.ref a)) (A : Arr s s.heap a c ty) (hi : i < 2 ^ 31) (h : (Term.elem t (.index 0)).eval args s none [i] s = some v) : c.slots[i]? = some v := by
  have e := (elem_in h ht (Term.index_eval i) A.1).2
  have e3 := len_toInt hi
  rwa [show i.toInt32.toNatClampNeg = i by simp only [Int32.toNatClampNeg]; rw [e3]; rfl] at e
theorem tab_at {v : Value} {k : Int32} (ht : t.eval args s none [] s = some (.ref a)) (A : Arr s s.heap a c ty) (h : (Term.elem t (.int k)).eval args s none [] s = some v) (hk : k.toNatClampNeg = i) : c.slots[i]? = some v := by
  have e := (elem_in h ht rfl A.1).2
  rwa [hk] at e
theorem eqI_i {k : Int32} {t : Term} (h : (Jvm.Cond.eq t (.int k)).value args s none s [i] = some true) : t.eval args s none [i] s = some (.int k) := by
  cases ht : t.eval args s none [i] s with
  | none => simp [Cond.value, ht] at h
  | some x => cases x <;> simp [Cond.value, ht, Term.eval] at h ⊢; exact h
theorem tab_nat (hi : i < 2 ^ 31) : i.toInt32.toNatClampNeg = i := by
  have e3 := len_toInt hi
  simp only [Int32.toNatClampNeg]; rw [e3]; rfl
theorem tab_sub {t : Term} {k : Int32} (h : (Jvm.Cond.eq t (.sub (.index 0) (.int k))).value args s none s [i] = some true) : ∃ z, t.eval args s none [i] s = some (.int z) ∧ z = i.toInt32 - k := by
  cases ht : t.eval args s none [i] s with
  | none => simp [Cond.value, ht] at h
  | some x => cases x <;> simp [Cond.value, ht, Term.eval] at h ⊢; exact h
theorem tab_lng {t : Term} (h : (Jvm.Cond.eq (.op1 .i2l t) (.op2 .ladd (.op1 .i2l (.index 0)) (.long 4))).value args s none s [i] = some true) : ∃ z, t.eval args s none [i] s = some (.int z) ∧ z.toInt64 = i.toInt32.toInt64 + 4 := by
  cases ht : t.eval args s none [i] s with
  | none => simp [Cond.value, ht, Term.eval] at h
  | some x => cases x <;> simp [Cond.value, ht, Term.eval, Unary.apply, Binary.apply] at h ⊢; exact h
theorem tab_neg {z k : Int32} {n : Int} {P : Prop} (hi : i < 2 ^ 31) (e : z = i.toInt32 - k) (hk : k.toInt = n) (h : 0 ≤ (i : Int) - n ∧ 0 ≤ n) (hP : P) : z = -1 ↔ ¬ P := by
  have e3 := len_toInt hi; have e4 := c_isub i.toInt32 k; have r := rng32 (i.toInt32 - k); have m : (-1 : Int32).toInt = -1 := by decide
  constructor
  · intro q; rw [q] at e; rw [← e, m, e3, hk] at e4; omega
  · intro q; exact absurd hP q
theorem tab_neg4 {z : Int32} {P : Prop} (hi : i < 2 ^ 31) (e : z.toInt64 = i.toInt32.toInt64 + 4) (hP : P) : z = -1 ↔ ¬ P := by
  have e3 := len_toInt hi; have e4 := c_ladd i.toInt32.toInt64 4; have m : (-1 : Int32).toInt64.toInt = -1 := by decide
  have m4 : (4 : Int64).toInt = 4 := by decide
  constructor
  · intro q; rw [q] at e; rw [← e, m, c_i2l, e3, m4] at e4; omega
  · intro q; exact absurd hP q
end Tab
end Jvm.OwnKit

namespace Jvm.Pilot.@@N@@
open Jvm Jvm.ClassFile Sem Op Lib Jvm.Free Jvm.Stand Jvm.LawKit Jvm.RoadKit Jvm.OwnKit Bundle Jvm.Pilot.@@N@@.Jvm.D
theorem tw0 {Z : State} {a0 : Array Value} (hw : ∀ d ∈ tables_1, d.before a0 Z = true) : (Jvm.Cond.methodLink "com/example/hidden_shift/hiddenshift/coder/Base64RunRfc3501PinLaw" (7 : Nat) ({ cls := "com/example/hidden_shift/hiddenshift/coder/Base64Run", name := "rfc3501", desc := "()Lcom/example/hidden_shift/hiddenshift/coder/Base64Run;" } : Jvm.MethodName)).before a0 Z = true := hw _ (List.mem_of_getElem? (i := 0) rfl)
theorem tw1 {Z : State} {a0 : Array Value} (hw : ∀ d ∈ tables_1, d.before a0 Z = true) : (Jvm.Cond.static ({ cls := "com/example/hidden_shift/hiddenshift/coder/Base64Run", name := "rfc3501", desc := "()Lcom/example/hidden_shift/hiddenshift/coder/Base64Run;" } : Jvm.MethodName)).before a0 Z = true := hw _ (List.mem_of_getElem? (i := 1) rfl)
theorem tw2 {Z : State} {a0 : Array Value} (hw : ∀ d ∈ tables_1, d.before a0 Z = true) : (Jvm.Cond.initialized "com/example/hidden_shift/hiddenshift/coder/Base64Run").before a0 Z = true := hw _ (List.mem_of_getElem? (i := 2) rfl)
theorem tw3 {Z : State} {a0 : Array Value} (hw : ∀ d ∈ tables_1, d.before a0 Z = true) : (Jvm.Cond.code ({ cls := "com/example/hidden_shift/hiddenshift/coder/Base64Run", name := "rfc3501", desc := "()Lcom/example/hidden_shift/hiddenshift/coder/Base64Run;" } : Jvm.MethodName) prog_14_method_3_code (0 : Nat) (Option.some (Jvm.ClassFile.FieldType.object "com/example/hidden_shift/hiddenshift/coder/Base64Run"))).before a0 Z = true := hw _ (List.mem_of_getElem? (i := 3) rfl)
theorem tw4 {Z : State} {a0 : Array Value} (hw : ∀ d ∈ tables_1, d.before a0 Z = true) : (Jvm.Cond.classLink "com/example/hidden_shift/hiddenshift/coder/Base64Run" (10 : Nat) "com/example/hidden_shift/hiddenshift/coder/Base64Run").before a0 Z = true := hw _ (List.mem_of_getElem? (i := 4) rfl)
theorem tw5 {Z : State} {a0 : Array Value} (hw : ∀ d ∈ tables_1, d.before a0 Z = true) : (Jvm.Cond.instantiable "com/example/hidden_shift/hiddenshift/coder/Base64Run" (11 : Nat)).before a0 Z = true := hw _ (List.mem_of_getElem? (i := 5) rfl)
theorem tw6 {Z : State} {a0 : Array Value} (hw : ∀ d ∈ tables_1, d.before a0 Z = true) : (Jvm.Cond.fieldLink "com/example/hidden_shift/hiddenshift/coder/Base64Run" (36 : Nat) "com/example/hidden_shift/hiddenshift/table/Base64Alphabet" "IMAP" "Lcom/example/hidden_shift/hiddenshift/table/Base64Alphabet;").before a0 Z = true := hw _ (List.mem_of_getElem? (i := 6) rfl)
theorem tw7 {Z : State} {a0 : Array Value} (hw : ∀ d ∈ tables_1, d.before a0 Z = true) : (Jvm.Cond.initialized "com/example/hidden_shift/hiddenshift/table/Base64Alphabet").before a0 Z = true := hw _ (List.mem_of_getElem? (i := 7) rfl)
theorem tw8 {Z : State} {a0 : Array Value} (hw : ∀ d ∈ tables_1, d.before a0 Z = true) : (Jvm.Cond.laysStatic "com/example/hidden_shift/hiddenshift/table/Base64Alphabet" "IMAP" "Lcom/example/hidden_shift/hiddenshift/table/Base64Alphabet;").before a0 Z = true := hw _ (List.mem_of_getElem? (i := 8) rfl)
theorem tw9 {Z : State} {a0 : Array Value} (hw : ∀ d ∈ tables_1, d.before a0 Z = true) : (Jvm.Cond.fieldLink "com/example/hidden_shift/hiddenshift/coder/Base64Run" (39 : Nat) "com/example/hidden_shift/hiddenshift/table/DirectCharacters" "IMAP" "Lcom/example/hidden_shift/hiddenshift/table/DirectCharacters;").before a0 Z = true := hw _ (List.mem_of_getElem? (i := 9) rfl)
theorem tw10 {Z : State} {a0 : Array Value} (hw : ∀ d ∈ tables_1, d.before a0 Z = true) : (Jvm.Cond.initialized "com/example/hidden_shift/hiddenshift/table/DirectCharacters").before a0 Z = true := hw _ (List.mem_of_getElem? (i := 10) rfl)
theorem tw11 {Z : State} {a0 : Array Value} (hw : ∀ d ∈ tables_1, d.before a0 Z = true) : (Jvm.Cond.laysStatic "com/example/hidden_shift/hiddenshift/table/DirectCharacters" "IMAP" "Lcom/example/hidden_shift/hiddenshift/table/DirectCharacters;").before a0 Z = true := hw _ (List.mem_of_getElem? (i := 11) rfl)
theorem tw12 {Z : State} {a0 : Array Value} (hw : ∀ d ∈ tables_1, d.before a0 Z = true) : (Jvm.Cond.methodLink "com/example/hidden_shift/hiddenshift/coder/Base64Run" (33 : Nat) ({ cls := "com/example/hidden_shift/hiddenshift/coder/Base64Run", name := "<init>", desc := "(Lcom/example/hidden_shift/hiddenshift/table/Base64Alphabet;Lcom/example/hidden_shift/hiddenshift/table/DirectCharacters;ZCZ)V" } : Jvm.MethodName)).before a0 Z = true := hw _ (List.mem_of_getElem? (i := 12) rfl)
theorem tw13 {Z : State} {a0 : Array Value} (hw : ∀ d ∈ tables_1, d.before a0 Z = true) : (Jvm.Cond.instanceMethod ({ cls := "com/example/hidden_shift/hiddenshift/coder/Base64Run", name := "<init>", desc := "(Lcom/example/hidden_shift/hiddenshift/table/Base64Alphabet;Lcom/example/hidden_shift/hiddenshift/table/DirectCharacters;ZCZ)V" } : Jvm.MethodName)).before a0 Z = true := hw _ (List.mem_of_getElem? (i := 13) rfl)
theorem tw14 {Z : State} {a0 : Array Value} (hw : ∀ d ∈ tables_1, d.before a0 Z = true) : (Jvm.Cond.code ({ cls := "com/example/hidden_shift/hiddenshift/coder/Base64Run", name := "<init>", desc := "(Lcom/example/hidden_shift/hiddenshift/table/Base64Alphabet;Lcom/example/hidden_shift/hiddenshift/table/DirectCharacters;ZCZ)V" } : Jvm.MethodName) prog_14_method_1_code (6 : Nat) (Option.none : Option Jvm.ClassFile.FieldType)).before a0 Z = true := hw _ (List.mem_of_getElem? (i := 14) rfl)
theorem tw15 {Z : State} {a0 : Array Value} (hw : ∀ d ∈ tables_1, d.before a0 Z = true) : (Jvm.Cond.methodLink "com/example/hidden_shift/hiddenshift/coder/Base64Run" (3 : Nat) ({ cls := "java/lang/Object", name := "<init>", desc := "()V" } : Jvm.MethodName)).before a0 Z = true := hw _ (List.mem_of_getElem? (i := 15) rfl)
theorem tw16 {Z : State} {a0 : Array Value} (hw : ∀ d ∈ tables_1, d.before a0 Z = true) : (Jvm.Cond.instanceMethod ({ cls := "java/lang/Object", name := "<init>", desc := "()V" } : Jvm.MethodName)).before a0 Z = true := hw _ (List.mem_of_getElem? (i := 16) rfl)
theorem tw17 {Z : State} {a0 : Array Value} (hw : ∀ d ∈ tables_1, d.before a0 Z = true) : (Jvm.Cond.code ({ cls := "java/lang/Object", name := "<init>", desc := "()V" } : Jvm.MethodName) object_method_1_code (1 : Nat) (Option.none : Option Jvm.ClassFile.FieldType)).before a0 Z = true := hw _ (List.mem_of_getElem? (i := 17) rfl)
theorem tw18 {Z : State} {a0 : Array Value} (hw : ∀ d ∈ tables_1, d.before a0 Z = true) : (Jvm.Cond.fieldLink "com/example/hidden_shift/hiddenshift/coder/Base64Run" (9 : Nat) "com/example/hidden_shift/hiddenshift/coder/Base64Run" "alphabet" "Lcom/example/hidden_shift/hiddenshift/table/Base64Alphabet;").before a0 Z = true := hw _ (List.mem_of_getElem? (i := 18) rfl)
theorem tw19 {Z : State} {a0 : Array Value} (hw : ∀ d ∈ tables_1, d.before a0 Z = true) : (Jvm.Cond.laysFinal "com/example/hidden_shift/hiddenshift/coder/Base64Run" "com/example/hidden_shift/hiddenshift/coder/Base64Run" "alphabet" "Lcom/example/hidden_shift/hiddenshift/table/Base64Alphabet;").before a0 Z = true := hw _ (List.mem_of_getElem? (i := 19) rfl)
theorem tw20 {Z : State} {a0 : Array Value} (hw : ∀ d ∈ tables_1, d.before a0 Z = true) : (Jvm.Cond.fieldLink "com/example/hidden_shift/hiddenshift/coder/Base64Run" (15 : Nat) "com/example/hidden_shift/hiddenshift/coder/Base64Run" "barredUnits" "Lcom/example/hidden_shift/hiddenshift/table/DirectCharacters;").before a0 Z = true := hw _ (List.mem_of_getElem? (i := 20) rfl)
theorem tw21 {Z : State} {a0 : Array Value} (hw : ∀ d ∈ tables_1, d.before a0 Z = true) : (Jvm.Cond.laysFinal "com/example/hidden_shift/hiddenshift/coder/Base64Run" "com/example/hidden_shift/hiddenshift/coder/Base64Run" "barredUnits" "Lcom/example/hidden_shift/hiddenshift/table/DirectCharacters;").before a0 Z = true := hw _ (List.mem_of_getElem? (i := 21) rfl)
theorem tw22 {Z : State} {a0 : Array Value} (hw : ∀ d ∈ tables_1, d.before a0 Z = true) : (Jvm.Cond.fieldLink "com/example/hidden_shift/hiddenshift/coder/Base64Run" (19 : Nat) "com/example/hidden_shift/hiddenshift/coder/Base64Run" "closedByDashOnly" "Z").before a0 Z = true := hw _ (List.mem_of_getElem? (i := 22) rfl)
theorem tw23 {Z : State} {a0 : Array Value} (hw : ∀ d ∈ tables_1, d.before a0 Z = true) : (Jvm.Cond.laysFinal "com/example/hidden_shift/hiddenshift/coder/Base64Run" "com/example/hidden_shift/hiddenshift/coder/Base64Run" "closedByDashOnly" "Z").before a0 Z = true := hw _ (List.mem_of_getElem? (i := 23) rfl)
theorem tw24 {Z : State} {a0 : Array Value} (hw : ∀ d ∈ tables_1, d.before a0 Z = true) : (Jvm.Cond.fieldLink "com/example/hidden_shift/hiddenshift/coder/Base64Run" (23 : Nat) "com/example/hidden_shift/hiddenshift/coder/Base64Run" "shift" "B").before a0 Z = true := hw _ (List.mem_of_getElem? (i := 24) rfl)
theorem tw25 {Z : State} {a0 : Array Value} (hw : ∀ d ∈ tables_1, d.before a0 Z = true) : (Jvm.Cond.laysFinal "com/example/hidden_shift/hiddenshift/coder/Base64Run" "com/example/hidden_shift/hiddenshift/coder/Base64Run" "shift" "B").before a0 Z = true := hw _ (List.mem_of_getElem? (i := 25) rfl)
theorem tw26 {Z : State} {a0 : Array Value} (hw : ∀ d ∈ tables_1, d.before a0 Z = true) : (Jvm.Cond.fieldLink "com/example/hidden_shift/hiddenshift/coder/Base64Run" (27 : Nat) "com/example/hidden_shift/hiddenshift/coder/Base64Run" "runsMayAdjoin" "Z").before a0 Z = true := hw _ (List.mem_of_getElem? (i := 26) rfl)
theorem tw27 {Z : State} {a0 : Array Value} (hw : ∀ d ∈ tables_1, d.before a0 Z = true) : (Jvm.Cond.laysFinal "com/example/hidden_shift/hiddenshift/coder/Base64Run" "com/example/hidden_shift/hiddenshift/coder/Base64Run" "runsMayAdjoin" "Z").before a0 Z = true := hw _ (List.mem_of_getElem? (i := 27) rfl)
theorem tw28 {Z : State} {a0 : Array Value} (hw : ∀ d ∈ tables_1, d.before a0 Z = true) : (Jvm.Cond.methodLink "com/example/hidden_shift/hiddenshift/coder/Base64RunRfc3501PinLaw" (13 : Nat) ({ cls := "com/example/hidden_shift/hiddenshift/coder/Base64Run", name := "isOpen", desc := "()Z" } : Jvm.MethodName)).before a0 Z = true := hw _ (List.mem_of_getElem? (i := 28) rfl)
theorem tw29 {Z : State} {a0 : Array Value} (hw : ∀ d ∈ tables_1, d.before a0 Z = true) : (Jvm.Cond.declares ({ cls := "com/example/hidden_shift/hiddenshift/coder/Base64Run", name := "isOpen", desc := "()Z" } : Jvm.MethodName)).before a0 Z = true := hw _ (List.mem_of_getElem? (i := 29) rfl)
theorem tw30 {Z : State} {a0 : Array Value} (hw : ∀ d ∈ tables_1, d.before a0 Z = true) : (Jvm.Cond.instanceMethod ({ cls := "com/example/hidden_shift/hiddenshift/coder/Base64Run", name := "isOpen", desc := "()Z" } : Jvm.MethodName)).before a0 Z = true := hw _ (List.mem_of_getElem? (i := 30) rfl)
theorem tw31 {Z : State} {a0 : Array Value} (hw : ∀ d ∈ tables_1, d.before a0 Z = true) : (Jvm.Cond.selects "com/example/hidden_shift/hiddenshift/coder/Base64Run" ({ cls := "com/example/hidden_shift/hiddenshift/coder/Base64Run", name := "isOpen", desc := "()Z" } : Jvm.MethodName) ({ cls := "com/example/hidden_shift/hiddenshift/coder/Base64Run", name := "isOpen", desc := "()Z" } : Jvm.MethodName)).before a0 Z = true := hw _ (List.mem_of_getElem? (i := 31) rfl)
theorem tw32 {Z : State} {a0 : Array Value} (hw : ∀ d ∈ tables_1, d.before a0 Z = true) : (Jvm.Cond.code ({ cls := "com/example/hidden_shift/hiddenshift/coder/Base64Run", name := "isOpen", desc := "()Z" } : Jvm.MethodName) prog_14_method_4_code (1 : Nat) (Option.some Jvm.ClassFile.FieldType.boolean)).before a0 Z = true := hw _ (List.mem_of_getElem? (i := 32) rfl)
theorem tw33 {Z : State} {a0 : Array Value} (hw : ∀ d ∈ tables_1, d.before a0 Z = true) : (Jvm.Cond.fieldLink "com/example/hidden_shift/hiddenshift/coder/Base64Run" (43 : Nat) "com/example/hidden_shift/hiddenshift/coder/Base64Run" "open" "Z").before a0 Z = true := hw _ (List.mem_of_getElem? (i := 33) rfl)
theorem tw34 {Z : State} {a0 : Array Value} (hw : ∀ d ∈ tables_1, d.before a0 Z = true) : (Jvm.Cond.lays "com/example/hidden_shift/hiddenshift/coder/Base64Run" "com/example/hidden_shift/hiddenshift/coder/Base64Run" "open" "Z").before a0 Z = true := hw _ (List.mem_of_getElem? (i := 34) rfl)
theorem tw35 {Z : State} {a0 : Array Value} (hw : ∀ d ∈ tables_1, d.before a0 Z = true) : (Jvm.Cond.methodLink "com/example/hidden_shift/hiddenshift/coder/Base64RunRfc3501PinLaw" (17 : Nat) ({ cls := "com/example/hidden_shift/hiddenshift/coder/Base64Run", name := "mayEnd", desc := "()Z" } : Jvm.MethodName)).before a0 Z = true := hw _ (List.mem_of_getElem? (i := 35) rfl)
theorem tw36 {Z : State} {a0 : Array Value} (hw : ∀ d ∈ tables_1, d.before a0 Z = true) : (Jvm.Cond.declares ({ cls := "com/example/hidden_shift/hiddenshift/coder/Base64Run", name := "mayEnd", desc := "()Z" } : Jvm.MethodName)).before a0 Z = true := hw _ (List.mem_of_getElem? (i := 36) rfl)
theorem tw37 {Z : State} {a0 : Array Value} (hw : ∀ d ∈ tables_1, d.before a0 Z = true) : (Jvm.Cond.instanceMethod ({ cls := "com/example/hidden_shift/hiddenshift/coder/Base64Run", name := "mayEnd", desc := "()Z" } : Jvm.MethodName)).before a0 Z = true := hw _ (List.mem_of_getElem? (i := 37) rfl)
theorem tw38 {Z : State} {a0 : Array Value} (hw : ∀ d ∈ tables_1, d.before a0 Z = true) : (Jvm.Cond.selects "com/example/hidden_shift/hiddenshift/coder/Base64Run" ({ cls := "com/example/hidden_shift/hiddenshift/coder/Base64Run", name := "mayEnd", desc := "()Z" } : Jvm.MethodName) ({ cls := "com/example/hidden_shift/hiddenshift/coder/Base64Run", name := "mayEnd", desc := "()Z" } : Jvm.MethodName)).before a0 Z = true := hw _ (List.mem_of_getElem? (i := 38) rfl)
theorem tw39 {Z : State} {a0 : Array Value} (hw : ∀ d ∈ tables_1, d.before a0 Z = true) : (Jvm.Cond.code ({ cls := "com/example/hidden_shift/hiddenshift/coder/Base64Run", name := "mayEnd", desc := "()Z" } : Jvm.MethodName) prog_14_method_15_code (1 : Nat) (Option.some Jvm.ClassFile.FieldType.boolean)).before a0 Z = true := hw _ (List.mem_of_getElem? (i := 39) rfl)
theorem tw40 {Z : State} {a0 : Array Value} (hw : ∀ d ∈ tables_1, d.before a0 Z = true) : (Jvm.Cond.methodLink "com/example/hidden_shift/hiddenshift/coder/Base64Run" (177 : Nat) ({ cls := "com/example/hidden_shift/hiddenshift/coder/Base64Run", name := "leftoverIsClean", desc := "()Z" } : Jvm.MethodName)).before a0 Z = true := hw _ (List.mem_of_getElem? (i := 40) rfl)
theorem tw41 {Z : State} {a0 : Array Value} (hw : ∀ d ∈ tables_1, d.before a0 Z = true) : (Jvm.Cond.declares ({ cls := "com/example/hidden_shift/hiddenshift/coder/Base64Run", name := "leftoverIsClean", desc := "()Z" } : Jvm.MethodName)).before a0 Z = true := hw _ (List.mem_of_getElem? (i := 41) rfl)
theorem tw42 {Z : State} {a0 : Array Value} (hw : ∀ d ∈ tables_1, d.before a0 Z = true) : (Jvm.Cond.instanceMethod ({ cls := "com/example/hidden_shift/hiddenshift/coder/Base64Run", name := "leftoverIsClean", desc := "()Z" } : Jvm.MethodName)).before a0 Z = true := hw _ (List.mem_of_getElem? (i := 42) rfl)
theorem tw43 {Z : State} {a0 : Array Value} (hw : ∀ d ∈ tables_1, d.before a0 Z = true) : (Jvm.Cond.selects "com/example/hidden_shift/hiddenshift/coder/Base64Run" ({ cls := "com/example/hidden_shift/hiddenshift/coder/Base64Run", name := "leftoverIsClean", desc := "()Z" } : Jvm.MethodName) ({ cls := "com/example/hidden_shift/hiddenshift/coder/Base64Run", name := "leftoverIsClean", desc := "()Z" } : Jvm.MethodName)).before a0 Z = true := hw _ (List.mem_of_getElem? (i := 43) rfl)
theorem tw44 {Z : State} {a0 : Array Value} (hw : ∀ d ∈ tables_1, d.before a0 Z = true) : (Jvm.Cond.code ({ cls := "com/example/hidden_shift/hiddenshift/coder/Base64Run", name := "leftoverIsClean", desc := "()Z" } : Jvm.MethodName) prog_14_method_16_code (1 : Nat) (Option.some Jvm.ClassFile.FieldType.boolean)).before a0 Z = true := hw _ (List.mem_of_getElem? (i := 44) rfl)
theorem tw45 {Z : State} {a0 : Array Value} (hw : ∀ d ∈ tables_1, d.before a0 Z = true) : (Jvm.Cond.fieldLink "com/example/hidden_shift/hiddenshift/coder/Base64Run" (46 : Nat) "com/example/hidden_shift/hiddenshift/coder/Base64Run" "bits" "I").before a0 Z = true := hw _ (List.mem_of_getElem? (i := 45) rfl)
theorem tw46 {Z : State} {a0 : Array Value} (hw : ∀ d ∈ tables_1, d.before a0 Z = true) : (Jvm.Cond.lays "com/example/hidden_shift/hiddenshift/coder/Base64Run" "com/example/hidden_shift/hiddenshift/coder/Base64Run" "bits" "I").before a0 Z = true := hw _ (List.mem_of_getElem? (i := 46) rfl)
theorem tw47 {Z : State} {a0 : Array Value} (hw : ∀ d ∈ tables_1, d.before a0 Z = true) : (Jvm.Cond.fieldLink "com/example/hidden_shift/hiddenshift/coder/Base64Run" (50 : Nat) "com/example/hidden_shift/hiddenshift/coder/Base64Run" "bitCount" "I").before a0 Z = true := hw _ (List.mem_of_getElem? (i := 47) rfl)
theorem tw48 {Z : State} {a0 : Array Value} (hw : ∀ d ∈ tables_1, d.before a0 Z = true) : (Jvm.Cond.lays "com/example/hidden_shift/hiddenshift/coder/Base64Run" "com/example/hidden_shift/hiddenshift/coder/Base64Run" "bitCount" "I").before a0 Z = true := hw _ (List.mem_of_getElem? (i := 48) rfl)
theorem tw49 {Z : State} {a0 : Array Value} (hw : ∀ d ∈ tables_1, d.before a0 Z = true) : (Jvm.Cond.methodLink "com/example/hidden_shift/hiddenshift/coder/Base64Run" (164 : Nat) ({ cls := "com/example/hidden_shift/hiddenshift/coder/Base64Run", name := "isClean", desc := "(II)Z" } : Jvm.MethodName)).before a0 Z = true := hw _ (List.mem_of_getElem? (i := 49) rfl)
theorem tw50 {Z : State} {a0 : Array Value} (hw : ∀ d ∈ tables_1, d.before a0 Z = true) : (Jvm.Cond.static ({ cls := "com/example/hidden_shift/hiddenshift/coder/Base64Run", name := "isClean", desc := "(II)Z" } : Jvm.MethodName)).before a0 Z = true := hw _ (List.mem_of_getElem? (i := 50) rfl)
theorem tw51 {Z : State} {a0 : Array Value} (hw : ∀ d ∈ tables_1, d.before a0 Z = true) : (Jvm.Cond.code ({ cls := "com/example/hidden_shift/hiddenshift/coder/Base64Run", name := "isClean", desc := "(II)Z" } : Jvm.MethodName) prog_14_method_17_code (2 : Nat) (Option.some Jvm.ClassFile.FieldType.boolean)).before a0 Z = true := hw _ (List.mem_of_getElem? (i := 51) rfl)
theorem tw52 {Z : State} {a0 : Array Value} (hw : ∀ d ∈ tables_1, d.before a0 Z = true) : (Jvm.Cond.fieldLink "com/example/hidden_shift/hiddenshift/coder/Base64Run" (53 : Nat) "com/example/hidden_shift/hiddenshift/coder/Base64Run" "highSurrogate" "C").before a0 Z = true := hw _ (List.mem_of_getElem? (i := 52) rfl)
theorem tw53 {Z : State} {a0 : Array Value} (hw : ∀ d ∈ tables_1, d.before a0 Z = true) : (Jvm.Cond.lays "com/example/hidden_shift/hiddenshift/coder/Base64Run" "com/example/hidden_shift/hiddenshift/coder/Base64Run" "highSurrogate" "C").before a0 Z = true := hw _ (List.mem_of_getElem? (i := 53) rfl)
theorem tw54 {Z : State} {a0 : Array Value} (hw : ∀ d ∈ tables_1, d.before a0 Z = true) : (Jvm.Cond.methodLink "com/example/hidden_shift/hiddenshift/coder/Base64RunRfc3501PinLaw" (20 : Nat) ({ cls := "com/example/hidden_shift/hiddenshift/coder/Base64Run", name := "holdsHighSurrogate", desc := "()Z" } : Jvm.MethodName)).before a0 Z = true := hw _ (List.mem_of_getElem? (i := 54) rfl)
theorem tw55 {Z : State} {a0 : Array Value} (hw : ∀ d ∈ tables_1, d.before a0 Z = true) : (Jvm.Cond.declares ({ cls := "com/example/hidden_shift/hiddenshift/coder/Base64Run", name := "holdsHighSurrogate", desc := "()Z" } : Jvm.MethodName)).before a0 Z = true := hw _ (List.mem_of_getElem? (i := 55) rfl)
theorem tw56 {Z : State} {a0 : Array Value} (hw : ∀ d ∈ tables_1, d.before a0 Z = true) : (Jvm.Cond.instanceMethod ({ cls := "com/example/hidden_shift/hiddenshift/coder/Base64Run", name := "holdsHighSurrogate", desc := "()Z" } : Jvm.MethodName)).before a0 Z = true := hw _ (List.mem_of_getElem? (i := 56) rfl)
theorem tw57 {Z : State} {a0 : Array Value} (hw : ∀ d ∈ tables_1, d.before a0 Z = true) : (Jvm.Cond.selects "com/example/hidden_shift/hiddenshift/coder/Base64Run" ({ cls := "com/example/hidden_shift/hiddenshift/coder/Base64Run", name := "holdsHighSurrogate", desc := "()Z" } : Jvm.MethodName) ({ cls := "com/example/hidden_shift/hiddenshift/coder/Base64Run", name := "holdsHighSurrogate", desc := "()Z" } : Jvm.MethodName)).before a0 Z = true := hw _ (List.mem_of_getElem? (i := 57) rfl)
theorem tw58 {Z : State} {a0 : Array Value} (hw : ∀ d ∈ tables_1, d.before a0 Z = true) : (Jvm.Cond.code ({ cls := "com/example/hidden_shift/hiddenshift/coder/Base64Run", name := "holdsHighSurrogate", desc := "()Z" } : Jvm.MethodName) prog_14_method_18_code (1 : Nat) (Option.some Jvm.ClassFile.FieldType.boolean)).before a0 Z = true := hw _ (List.mem_of_getElem? (i := 58) rfl)
theorem tw59 {Z : State} {a0 : Array Value} (hw : ∀ d ∈ tables_1, d.before a0 Z = true) : (Jvm.Cond.methodLink "com/example/hidden_shift/hiddenshift/coder/Base64RunRfc3501PinLaw" (23 : Nat) ({ cls := "com/example/hidden_shift/hiddenshift/coder/Base64Run", name := "isDigit", desc := "(B)Z" } : Jvm.MethodName)).before a0 Z = true := hw _ (List.mem_of_getElem? (i := 59) rfl)
theorem tw60 {Z : State} {a0 : Array Value} (hw : ∀ d ∈ tables_1, d.before a0 Z = true) : (Jvm.Cond.declares ({ cls := "com/example/hidden_shift/hiddenshift/coder/Base64Run", name := "isDigit", desc := "(B)Z" } : Jvm.MethodName)).before a0 Z = true := hw _ (List.mem_of_getElem? (i := 60) rfl)
theorem tw61 {Z : State} {a0 : Array Value} (hw : ∀ d ∈ tables_1, d.before a0 Z = true) : (Jvm.Cond.instanceMethod ({ cls := "com/example/hidden_shift/hiddenshift/coder/Base64Run", name := "isDigit", desc := "(B)Z" } : Jvm.MethodName)).before a0 Z = true := hw _ (List.mem_of_getElem? (i := 61) rfl)
theorem tw62 {Z : State} {a0 : Array Value} (hw : ∀ d ∈ tables_1, d.before a0 Z = true) : (Jvm.Cond.selects "com/example/hidden_shift/hiddenshift/coder/Base64Run" ({ cls := "com/example/hidden_shift/hiddenshift/coder/Base64Run", name := "isDigit", desc := "(B)Z" } : Jvm.MethodName) ({ cls := "com/example/hidden_shift/hiddenshift/coder/Base64Run", name := "isDigit", desc := "(B)Z" } : Jvm.MethodName)).before a0 Z = true := hw _ (List.mem_of_getElem? (i := 62) rfl)
theorem tw63 {Z : State} {a0 : Array Value} (hw : ∀ d ∈ tables_1, d.before a0 Z = true) : (Jvm.Cond.code ({ cls := "com/example/hidden_shift/hiddenshift/coder/Base64Run", name := "isDigit", desc := "(B)Z" } : Jvm.MethodName) prog_14_method_7_code (2 : Nat) (Option.some Jvm.ClassFile.FieldType.boolean)).before a0 Z = true := hw _ (List.mem_of_getElem? (i := 63) rfl)
theorem tw64 {Z : State} {a0 : Array Value} (hw : ∀ d ∈ tables_1, d.before a0 Z = true) : (Jvm.Cond.methodLink "com/example/hidden_shift/hiddenshift/coder/Base64Run" (63 : Nat) ({ cls := "com/example/hidden_shift/hiddenshift/table/Base64Alphabet", name := "valueOf", desc := "(B)I" } : Jvm.MethodName)).before a0 Z = true := hw _ (List.mem_of_getElem? (i := 64) rfl)
theorem tw65 {Z : State} {a0 : Array Value} (hw : ∀ d ∈ tables_1, d.before a0 Z = true) : (Jvm.Cond.declares ({ cls := "com/example/hidden_shift/hiddenshift/table/Base64Alphabet", name := "valueOf", desc := "(B)I" } : Jvm.MethodName)).before a0 Z = true := hw _ (List.mem_of_getElem? (i := 65) rfl)
theorem tw66 {Z : State} {a0 : Array Value} (hw : ∀ d ∈ tables_1, d.before a0 Z = true) : (Jvm.Cond.instanceMethod ({ cls := "com/example/hidden_shift/hiddenshift/table/Base64Alphabet", name := "valueOf", desc := "(B)I" } : Jvm.MethodName)).before a0 Z = true := hw _ (List.mem_of_getElem? (i := 66) rfl)
theorem tw67 {Z : State} {a0 : Array Value} (hw : ∀ d ∈ tables_1, d.before a0 Z = true) : (Jvm.Cond.selects "com/example/hidden_shift/hiddenshift/table/Base64Alphabet" ({ cls := "com/example/hidden_shift/hiddenshift/table/Base64Alphabet", name := "valueOf", desc := "(B)I" } : Jvm.MethodName) ({ cls := "com/example/hidden_shift/hiddenshift/table/Base64Alphabet", name := "valueOf", desc := "(B)I" } : Jvm.MethodName)).before a0 Z = true := hw _ (List.mem_of_getElem? (i := 67) rfl)
theorem tw68 {Z : State} {a0 : Array Value} (hw : ∀ d ∈ tables_1, d.before a0 Z = true) : (Jvm.Cond.code ({ cls := "com/example/hidden_shift/hiddenshift/table/Base64Alphabet", name := "valueOf", desc := "(B)I" } : Jvm.MethodName) prog_23_method_4_code (2 : Nat) (Option.some Jvm.ClassFile.FieldType.int)).before a0 Z = true := hw _ (List.mem_of_getElem? (i := 68) rfl)
theorem tw69 {Z : State} {a0 : Array Value} (hw : ∀ d ∈ tables_1, d.before a0 Z = true) : (Jvm.Cond.fieldLink "com/example/hidden_shift/hiddenshift/table/Base64Alphabet" (3 : Nat) "com/example/hidden_shift/hiddenshift/table/Base64Alphabet" "UTF7" "Lcom/example/hidden_shift/hiddenshift/table/Base64Alphabet;").before a0 Z = true := hw _ (List.mem_of_getElem? (i := 69) rfl)
theorem tw70 {Z : State} {a0 : Array Value} (hw : ∀ d ∈ tables_1, d.before a0 Z = true) : (Jvm.Cond.laysStatic "com/example/hidden_shift/hiddenshift/table/Base64Alphabet" "UTF7" "Lcom/example/hidden_shift/hiddenshift/table/Base64Alphabet;").before a0 Z = true := hw _ (List.mem_of_getElem? (i := 70) rfl)
theorem tw71 {Z : State} {a0 : Array Value} (hw : ∀ d ∈ tables_1, d.before a0 Z = true) : (Jvm.Cond.fieldLink "com/example/hidden_shift/hiddenshift/table/Base64Alphabet" (35 : Nat) "com/example/hidden_shift/hiddenshift/table/Base64Alphabet$Tables" "IMAP_VALUES" "[B").before a0 Z = true := hw _ (List.mem_of_getElem? (i := 71) rfl)
theorem tw72 {Z : State} {a0 : Array Value} (hw : ∀ d ∈ tables_1, d.before a0 Z = true) : (Jvm.Cond.initialized "com/example/hidden_shift/hiddenshift/table/Base64Alphabet$Tables").before a0 Z = true := hw _ (List.mem_of_getElem? (i := 72) rfl)
theorem tw73 {Z : State} {a0 : Array Value} (hw : ∀ d ∈ tables_1, d.before a0 Z = true) : (Jvm.Cond.laysStatic "com/example/hidden_shift/hiddenshift/table/Base64Alphabet$Tables" "IMAP_VALUES" "[B").before a0 Z = true := hw _ (List.mem_of_getElem? (i := 73) rfl)
theorem tw74 {Z : State} {a0 : Array Value} (hw : ∀ d ∈ tables_1, d.before a0 Z = true) : (Jvm.Cond.methodLink "com/example/hidden_shift/hiddenshift/coder/Base64RunRfc3501PinLaw" (27 : Nat) ({ cls := "com/example/hidden_shift/hiddenshift/coder/Base64RunRfc3501PinLaw", name := "imapDigit", desc := "(I)Z" } : Jvm.MethodName)).before a0 Z = true := hw _ (List.mem_of_getElem? (i := 74) rfl)
theorem tw75 {Z : State} {a0 : Array Value} (hw : ∀ d ∈ tables_1, d.before a0 Z = true) : (Jvm.Cond.static ({ cls := "com/example/hidden_shift/hiddenshift/coder/Base64RunRfc3501PinLaw", name := "imapDigit", desc := "(I)Z" } : Jvm.MethodName)).before a0 Z = true := hw _ (List.mem_of_getElem? (i := 75) rfl)
theorem tw76 {Z : State} {a0 : Array Value} (hw : ∀ d ∈ tables_1, d.before a0 Z = true) : (Jvm.Cond.initialized "com/example/hidden_shift/hiddenshift/coder/Base64RunRfc3501PinLaw").before a0 Z = true := hw _ (List.mem_of_getElem? (i := 76) rfl)
theorem tw77 {Z : State} {a0 : Array Value} (hw : ∀ d ∈ tables_1, d.before a0 Z = true) : (Jvm.Cond.code ({ cls := "com/example/hidden_shift/hiddenshift/coder/Base64RunRfc3501PinLaw", name := "imapDigit", desc := "(I)Z" } : Jvm.MethodName) method_2_code (1 : Nat) (Option.some Jvm.ClassFile.FieldType.boolean)).before a0 Z = true := hw _ (List.mem_of_getElem? (i := 77) rfl)
theorem tw78 {Z : State} {a0 : Array Value} (hw : ∀ d ∈ tables_1, d.before a0 Z = true) : (Jvm.Cond.methodLink "com/example/hidden_shift/hiddenshift/coder/Base64RunRfc3501PinLaw" (33 : Nat) ({ cls := "com/example/hidden_shift/hiddenshift/coder/Base64Run", name := "open", desc := "()V" } : Jvm.MethodName)).before a0 Z = true := hw _ (List.mem_of_getElem? (i := 78) rfl)
theorem tw79 {Z : State} {a0 : Array Value} (hw : ∀ d ∈ tables_1, d.before a0 Z = true) : (Jvm.Cond.declares ({ cls := "com/example/hidden_shift/hiddenshift/coder/Base64Run", name := "open", desc := "()V" } : Jvm.MethodName)).before a0 Z = true := hw _ (List.mem_of_getElem? (i := 79) rfl)
theorem tw80 {Z : State} {a0 : Array Value} (hw : ∀ d ∈ tables_1, d.before a0 Z = true) : (Jvm.Cond.instanceMethod ({ cls := "com/example/hidden_shift/hiddenshift/coder/Base64Run", name := "open", desc := "()V" } : Jvm.MethodName)).before a0 Z = true := hw _ (List.mem_of_getElem? (i := 80) rfl)
theorem tw81 {Z : State} {a0 : Array Value} (hw : ∀ d ∈ tables_1, d.before a0 Z = true) : (Jvm.Cond.selects "com/example/hidden_shift/hiddenshift/coder/Base64Run" ({ cls := "com/example/hidden_shift/hiddenshift/coder/Base64Run", name := "open", desc := "()V" } : Jvm.MethodName) ({ cls := "com/example/hidden_shift/hiddenshift/coder/Base64Run", name := "open", desc := "()V" } : Jvm.MethodName)).before a0 Z = true := hw _ (List.mem_of_getElem? (i := 81) rfl)
theorem tw82 {Z : State} {a0 : Array Value} (hw : ∀ d ∈ tables_1, d.before a0 Z = true) : (Jvm.Cond.code ({ cls := "com/example/hidden_shift/hiddenshift/coder/Base64Run", name := "open", desc := "()V" } : Jvm.MethodName) prog_14_method_5_code (1 : Nat) (Option.none : Option Jvm.ClassFile.FieldType)).before a0 Z = true := hw _ (List.mem_of_getElem? (i := 82) rfl)
theorem tw83 {Z : State} {a0 : Array Value} (hw : ∀ d ∈ tables_1, d.before a0 Z = true) : (Jvm.Cond.methodLink "com/example/hidden_shift/hiddenshift/coder/Base64RunRfc3501PinLaw" (36 : Nat) ({ cls := "com/example/hidden_shift/hiddenshift/coder/Base64Run", name := "close", desc := "()V" } : Jvm.MethodName)).before a0 Z = true := hw _ (List.mem_of_getElem? (i := 83) rfl)
theorem tw84 {Z : State} {a0 : Array Value} (hw : ∀ d ∈ tables_1, d.before a0 Z = true) : (Jvm.Cond.declares ({ cls := "com/example/hidden_shift/hiddenshift/coder/Base64Run", name := "close", desc := "()V" } : Jvm.MethodName)).before a0 Z = true := hw _ (List.mem_of_getElem? (i := 84) rfl)
theorem tw85 {Z : State} {a0 : Array Value} (hw : ∀ d ∈ tables_1, d.before a0 Z = true) : (Jvm.Cond.instanceMethod ({ cls := "com/example/hidden_shift/hiddenshift/coder/Base64Run", name := "close", desc := "()V" } : Jvm.MethodName)).before a0 Z = true := hw _ (List.mem_of_getElem? (i := 85) rfl)
theorem tw86 {Z : State} {a0 : Array Value} (hw : ∀ d ∈ tables_1, d.before a0 Z = true) : (Jvm.Cond.selects "com/example/hidden_shift/hiddenshift/coder/Base64Run" ({ cls := "com/example/hidden_shift/hiddenshift/coder/Base64Run", name := "close", desc := "()V" } : Jvm.MethodName) ({ cls := "com/example/hidden_shift/hiddenshift/coder/Base64Run", name := "close", desc := "()V" } : Jvm.MethodName)).before a0 Z = true := hw _ (List.mem_of_getElem? (i := 86) rfl)
theorem tw87 {Z : State} {a0 : Array Value} (hw : ∀ d ∈ tables_1, d.before a0 Z = true) : (Jvm.Cond.code ({ cls := "com/example/hidden_shift/hiddenshift/coder/Base64Run", name := "close", desc := "()V" } : Jvm.MethodName) prog_14_method_6_code (1 : Nat) (Option.none : Option Jvm.ClassFile.FieldType)).before a0 Z = true := hw _ (List.mem_of_getElem? (i := 87) rfl)
theorem tw88 {Z : State} {a0 : Array Value} (hw : ∀ d ∈ tables_1, d.before a0 Z = true) : (Jvm.Cond.fieldLink "com/example/hidden_shift/hiddenshift/coder/Base64Run" (57 : Nat) "com/example/hidden_shift/hiddenshift/coder/Base64Run" "digitAdded" "Z").before a0 Z = true := hw _ (List.mem_of_getElem? (i := 88) rfl)
theorem tw89 {Z : State} {a0 : Array Value} (hw : ∀ d ∈ tables_1, d.before a0 Z = true) : (Jvm.Cond.lays "com/example/hidden_shift/hiddenshift/coder/Base64Run" "com/example/hidden_shift/hiddenshift/coder/Base64Run" "digitAdded" "Z").before a0 Z = true := hw _ (List.mem_of_getElem? (i := 89) rfl)
theorem tw90 {Z : State} {a0 : Array Value} (hw : ∀ d ∈ tables_1, d.before a0 Z = true) : (Jvm.Cond.fieldLink "com/example/hidden_shift/hiddenshift/coder/Base64Run" (60 : Nat) "com/example/hidden_shift/hiddenshift/coder/Base64Run" "digitBroke" "Z").before a0 Z = true := hw _ (List.mem_of_getElem? (i := 90) rfl)
theorem tw91 {Z : State} {a0 : Array Value} (hw : ∀ d ∈ tables_1, d.before a0 Z = true) : (Jvm.Cond.lays "com/example/hidden_shift/hiddenshift/coder/Base64Run" "com/example/hidden_shift/hiddenshift/coder/Base64Run" "digitBroke" "Z").before a0 Z = true := hw _ (List.mem_of_getElem? (i := 91) rfl)
abbrev mn0 : MethodName := ⟨"com/example/hidden_shift/hiddenshift/table/Base64Alphabet", "valueOf", "(B)I"⟩
abbrev mn1 : MethodName := ⟨"com/example/hidden_shift/hiddenshift/coder/Base64Run", "isDigit", "(B)Z"⟩
abbrev mn2 : MethodName := ⟨"com/example/hidden_shift/hiddenshift/coder/Base64RunRfc3501PinLaw", "imapDigit", "(I)Z"⟩
abbrev mn3 : MethodName := ⟨"com/example/hidden_shift/hiddenshift/coder/Base64Run", "<init>", "(Lcom/example/hidden_shift/hiddenshift/table/Base64Alphabet;Lcom/example/hidden_shift/hiddenshift/table/DirectCharacters;ZCZ)V"⟩
abbrev mn4 : MethodName := ⟨"com/example/hidden_shift/hiddenshift/coder/Base64Run", "rfc3501", "()Lcom/example/hidden_shift/hiddenshift/coder/Base64Run;"⟩
abbrev mn5 : MethodName := ⟨"com/example/hidden_shift/hiddenshift/coder/Base64Run", "isOpen", "()Z"⟩
abbrev mn6 : MethodName := ⟨"com/example/hidden_shift/hiddenshift/coder/Base64Run", "isClean", "(II)Z"⟩
abbrev mn7 : MethodName := ⟨"com/example/hidden_shift/hiddenshift/coder/Base64Run", "leftoverIsClean", "()Z"⟩
abbrev mn8 : MethodName := ⟨"com/example/hidden_shift/hiddenshift/coder/Base64Run", "mayEnd", "()Z"⟩
abbrev mn9 : MethodName := ⟨"com/example/hidden_shift/hiddenshift/coder/Base64Run", "holdsHighSurrogate", "()Z"⟩
abbrev mn10 : MethodName := ⟨"com/example/hidden_shift/hiddenshift/coder/Base64Run", "open", "()V"⟩
abbrev mn11 : MethodName := ⟨"com/example/hidden_shift/hiddenshift/coder/Base64Run", "close", "()V"⟩
theorem pd_7 : parseMethodDescriptor "()V" = some ⟨[], none⟩ := by decide +kernel
theorem pd_6 : parseMethodDescriptor "(I)Z" = some ⟨[.int], some .boolean⟩ := by decide +kernel
theorem pd_5 : parseMethodDescriptor "(B)Z" = some ⟨[.byte], some .boolean⟩ := by decide +kernel
theorem pd_4 : parseMethodDescriptor "(II)Z" = some ⟨[.int, .int], some .boolean⟩ := by decide +kernel
theorem pd_3 : parseMethodDescriptor "()Z" = some ⟨[], some .boolean⟩ := by decide +kernel
theorem pd_2 : parseMethodDescriptor "()Lcom/example/hidden_shift/hiddenshift/coder/Base64Run;" = some ⟨[], some (.object "com/example/hidden_shift/hiddenshift/coder/Base64Run")⟩ := by decide +kernel
theorem pd_1 : parseMethodDescriptor "(Lcom/example/hidden_shift/hiddenshift/table/Base64Alphabet;Lcom/example/hidden_shift/hiddenshift/table/DirectCharacters;ZCZ)V" = some ⟨[(.object "com/example/hidden_shift/hiddenshift/table/Base64Alphabet"), (.object "com/example/hidden_shift/hiddenshift/table/DirectCharacters"), .boolean, .char, .boolean], none⟩ := by decide +kernel
theorem pd_0 : parseMethodDescriptor "(B)I" = some ⟨[.byte], some .int⟩ := by decide +kernel
def dgP (i : Int) : Prop := (65 ≤ i ∧ i ≤ 90) ∨ (97 ≤ i ∧ i ≤ 122) ∨ (48 ≤ i ∧ i ≤ 57) ∨ i = 43 ∨ i = 44
instance (i : Int) : Decidable (dgP i) := by unfold dgP; infer_instance
def DigT (Z : State) (h : Heap) (w : Addr) : Prop := ∃ (k : ClassId) (g : Nat → Int32), Ary Z h w k .byte 256 (fun i => .int (g i)) ∧ ∀ i : Nat, i < 256 → (g i = -1 ↔ ¬ dgP i)
theorem DigT.ext {Z : State} {h h' : Heap} {w : Addr} (E : Ext h h') (F : DigT Z h w) : DigT Z h' w := by
  obtain ⟨k, g, A, q⟩ := F
  exact ⟨k, g, A.ext E, q⟩
def OwnF (Z : State) (h : Heap) (w_Base64Alphabet_IMAP w_DirectCharacters_IMAP w_UTF7 w_IMAP_VALUES : Addr) : Prop := Sta Z h "com/example/hidden_shift/hiddenshift/table/Base64Alphabet" "IMAP" "Lcom/example/hidden_shift/hiddenshift/table/Base64Alphabet;" (.ref w_Base64Alphabet_IMAP) ∧
  Exa Z h w_Base64Alphabet_IMAP "com/example/hidden_shift/hiddenshift/table/Base64Alphabet" ∧
  Sta Z h "com/example/hidden_shift/hiddenshift/table/DirectCharacters" "IMAP" "Lcom/example/hidden_shift/hiddenshift/table/DirectCharacters;" (.ref w_DirectCharacters_IMAP) ∧
  Exa Z h w_DirectCharacters_IMAP "com/example/hidden_shift/hiddenshift/table/DirectCharacters" ∧
  Sta Z h "com/example/hidden_shift/hiddenshift/table/Base64Alphabet" "UTF7" "Lcom/example/hidden_shift/hiddenshift/table/Base64Alphabet;" (.ref w_UTF7) ∧
  Exa Z h w_UTF7 "com/example/hidden_shift/hiddenshift/table/Base64Alphabet" ∧
  Fld Z h w_Base64Alphabet_IMAP "java/lang/Enum" "ordinal" "I" (.int (1 : Int32)) ∧
  Fld Z h w_UTF7 "java/lang/Enum" "ordinal" "I" (.int (0 : Int32)) ∧
  Sta Z h "com/example/hidden_shift/hiddenshift/table/Base64Alphabet$Tables" "IMAP_VALUES" "[B" (.ref w_IMAP_VALUES) ∧
  DigT Z h w_IMAP_VALUES
theorem OwnF.ext {Z : State} {h h' : Heap} {w_Base64Alphabet_IMAP w_DirectCharacters_IMAP w_UTF7 w_IMAP_VALUES : Addr} (E : Ext h h') (F : OwnF Z h w_Base64Alphabet_IMAP w_DirectCharacters_IMAP w_UTF7 w_IMAP_VALUES) : OwnF Z h' w_Base64Alphabet_IMAP w_DirectCharacters_IMAP w_UTF7 w_IMAP_VALUES := by
  obtain ⟨S_Base64Alphabet_IMAP, E_Base64Alphabet_IMAP, S_DirectCharacters_IMAP, E_DirectCharacters_IMAP, S_UTF7, E_UTF7, F_Base64Alphabet_IMAP_ordinal, F_UTF7_ordinal, S_IMAP_VALUES, G_IMAP_VALUES⟩ := F
  exact ⟨S_Base64Alphabet_IMAP.ext E, E_Base64Alphabet_IMAP.ext E, S_DirectCharacters_IMAP.ext E, E_DirectCharacters_IMAP.ext E, S_UTF7.ext E, E_UTF7.ext E, F_Base64Alphabet_IMAP_ordinal.ext E, F_UTF7_ordinal.ext E, S_IMAP_VALUES.ext E, G_IMAP_VALUES.ext E⟩
def fdg (x : Int32) : Int32 := if dgP x.toInt then 1 else 0
theorem own_b255 (b : Int32) : ¬ (b &&& 255) < 0 ∧ (b &&& 255).toNatClampNeg < 256 ∧ ((b &&& 255).toNatClampNeg : Int) = (b &&& 255).toInt := by
  have e := c_mask b 255 8 (by decide) (by decide)
  have z : (0 : Int32).toInt = 0 := by decide
  simp only [Int32.lt_iff_toInt_lt, Int32.toNatClampNeg, z, e]; omega
theorem own_ne_w_Base64Alphabet_IMAP_w_UTF7 {Z : State} {h : Heap} {w_Base64Alphabet_IMAP w_DirectCharacters_IMAP w_UTF7 w_IMAP_VALUES : Addr} (F : OwnF Z h w_Base64Alphabet_IMAP w_DirectCharacters_IMAP w_UTF7 w_IMAP_VALUES) : ¬ w_Base64Alphabet_IMAP = w_UTF7 := by
  obtain ⟨S_Base64Alphabet_IMAP, E_Base64Alphabet_IMAP, S_DirectCharacters_IMAP, E_DirectCharacters_IMAP, S_UTF7, E_UTF7, F_Base64Alphabet_IMAP_ordinal, F_UTF7_ordinal, S_IMAP_VALUES, G_IMAP_VALUES⟩ := F
  exact F_Base64Alphabet_IMAP_ordinal.ne F_UTF7_ordinal (by decide)
theorem d10_0 : decode prog_23_method_4_code 0 = .ok (.aload_n 0, 1) := by decide +kernel
theorem d10_1 : decode prog_23_method_4_code 1 = .ok (.getstatic 3, 3) := by decide +kernel
theorem d10_4 : decode prog_23_method_4_code 4 = .ok (.if_acmp .ne 9, 3) := by decide +kernel
theorem d10_13 : decode prog_23_method_4_code 13 = .ok (.getstatic 35, 3) := by decide +kernel
theorem d10_16 : decode prog_23_method_4_code 16 = .ok (.iload_n 1, 1) := by decide +kernel
theorem d10_17 : decode prog_23_method_4_code 17 = .ok (.sipush 255, 3) := by decide +kernel
theorem d10_20 : decode prog_23_method_4_code 20 = .ok (.iand, 1) := by decide +kernel
theorem d10_21 : decode prog_23_method_4_code 21 = .ok (.baload, 1) := by decide +kernel
theorem d10_22 : decode prog_23_method_4_code 22 = .ok (.ireturn, 1) := by decide +kernel
theorem pn_rm_val : plainName "com/example/hidden_shift/hiddenshift/table/Base64Alphabet" = true := by first | (simp [plainName, overriddenIn]; done) | decide +kernel
set_option maxRecDepth 65536 in
set_option maxHeartbeats 40000000 in
theorem rm_val (l : Launch) (Z : State) (a0 : Array Value) (hw : ∀ d ∈ tables_1, d.before a0 Z = true) (b : Int32) (w_Base64Alphabet_IMAP w_DirectCharacters_IMAP w_UTF7 w_IMAP_VALUES : Addr) (h0 : Heap) (F0 : OwnF Z h0 w_Base64Alphabet_IMAP w_DirectCharacters_IMAP w_UTF7 w_IMAP_VALUES) (kT : ClassId) (g : Nat → Int32) (AT : Ary Z h0 w_IMAP_VALUES kT .byte 256 (fun i => .int (g i))) :
    OMeets l Z mn0 prog_23_method_4_code 2 (some .int) [] ({ frames := 0, cells := 0, slots := 0, locals := 0 } : Room) #[(.ref w_Base64Alphabet_IMAP), (.int b)] h0 (PureQ (some (.int (g (b &&& 255).toNatClampNeg))) h0) := by
  refine OMeets.of pn_rm_val #[.val (.ref w_Base64Alphabet_IMAP), .val (.int b)] (fun m => by first | rfl | (simp [entryFrame, mkF, argsToLocals, Value.category, maxLocals]; done)) ?_
  intro p e s m below meth c s₁ B X0 e0
  have F := F0
  obtain ⟨S_Base64Alphabet_IMAP, E_Base64Alphabet_IMAP, S_DirectCharacters_IMAP, E_DirectCharacters_IMAP, S_UTF7, E_UTF7, F_Base64Alphabet_IMAP_ordinal, F_UTF7_ordinal, S_IMAP_VALUES, G_IMAP_VALUES⟩ := F
  refine s_aloadN B X0 (pc' := 1) d10_0 rfl rfl rfl ?_
  refine s_getS B X0 (pc' := 4) e0 (tw69 hw) Via.refl S_UTF7 d10_1 rfl (fun T1 X1 e1 => ?_)
  refine b_acmp_ne B X1 (py := 13) (pn := 7) d10_4 (by decide) (by decide) rfl (fun _ => ?_) (fun q => absurd q (own_ne_w_Base64Alphabet_IMAP_w_UTF7 F0))
  refine s_getS B X1 (pc' := 16) e1 (tw71 hw) Via.refl S_IMAP_VALUES d10_13 rfl (fun T2 X2 e2 => ?_)
  refine s_iloadN B X2 (pc' := 17) d10_16 rfl rfl ?_
  refine s_sipush B X2 (pc' := 20) (v := (255 : Int32)) d10_17 rfl rfl ?_
  refine s_iand B X2 (pc' := 21) (v := (b &&& (255 : Int32))) d10_20 rfl rfl ?_
  refine s_ldB B X2 (pc' := 22) (jn := (b &&& 255).toNatClampNeg) (v := (.int (g (b &&& 255).toNatClampNeg))) e2 AT (own_b255 b).1 rfl (own_b255 b).2.1 rfl d10_21 rfl ?_
  exact r_int B X2 rfl d10_22 ⟨rfl, rfl, e2⟩ (by decide) (by decide)
theorem d9_0 : decode prog_14_method_7_code 0 = .ok (.aload_n 0, 1) := by decide +kernel
theorem d9_1 : decode prog_14_method_7_code 1 = .ok (.getfield 9, 3) := by decide +kernel
theorem d9_4 : decode prog_14_method_7_code 4 = .ok (.iload_n 1, 1) := by decide +kernel
theorem d9_5 : decode prog_14_method_7_code 5 = .ok (.invokevirtual 63, 3) := by decide +kernel
theorem d9_8 : decode prog_14_method_7_code 8 = .ok (.iconst (-1), 1) := by decide +kernel
theorem d9_9 : decode prog_14_method_7_code 9 = .ok (.if_icmp .eq 7, 3) := by decide +kernel
theorem d9_12 : decode prog_14_method_7_code 12 = .ok (.iconst 1, 1) := by decide +kernel
theorem d9_13 : decode prog_14_method_7_code 13 = .ok (.goto 4, 3) := by decide +kernel
theorem d9_16 : decode prog_14_method_7_code 16 = .ok (.iconst 0, 1) := by decide +kernel
theorem d9_17 : decode prog_14_method_7_code 17 = .ok (.ireturn, 1) := by decide +kernel
theorem pn_rm_isDigit : plainName "com/example/hidden_shift/hiddenshift/coder/Base64Run" = true := by first | (simp [plainName, overriddenIn]; done) | decide +kernel
set_option maxRecDepth 65536 in
set_option maxHeartbeats 40000000 in
theorem rm_isDigit (l : Launch) (Z : State) (a0 : Array Value) (hw : ∀ d ∈ tables_1, d.before a0 Z = true) (o : Addr) (b : Int32) (w_Base64Alphabet_IMAP w_DirectCharacters_IMAP w_UTF7 w_IMAP_VALUES : Addr) (h0 : Heap) (F0 : OwnF Z h0 w_Base64Alphabet_IMAP w_DirectCharacters_IMAP w_UTF7 w_IMAP_VALUES) (Da : Fld Z h0 o "com/example/hidden_shift/hiddenshift/coder/Base64Run" "alphabet" "Lcom/example/hidden_shift/hiddenshift/table/Base64Alphabet;" (.ref w_Base64Alphabet_IMAP)) :
    OMeets l Z mn1 prog_14_method_7_code 2 (some .boolean) [] ({ frames := 1, cells := 0, slots := 0, locals := 13 } : Room) #[(.ref o), (.int b)] h0 (PureQ (some (.int (fdg (b &&& 255)))) h0) := by
  refine OMeets.of pn_rm_isDigit #[.val (.ref o), .val (.int b)] (fun m => by first | rfl | (simp [entryFrame, mkF, argsToLocals, Value.category, maxLocals]; done)) ?_
  intro p e s m below meth c s₁ B X0 e0
  have F := F0
  obtain ⟨S_Base64Alphabet_IMAP, E_Base64Alphabet_IMAP, S_DirectCharacters_IMAP, E_DirectCharacters_IMAP, S_UTF7, E_UTF7, F_Base64Alphabet_IMAP_ordinal, F_UTF7_ordinal, S_IMAP_VALUES, G_IMAP_VALUES⟩ := F
  obtain ⟨kT, g, AT, hG⟩ := G_IMAP_VALUES
  refine s_aloadN B X0 (pc' := 1) d9_0 rfl rfl rfl ?_
  refine s_getF B X0 (pc' := 4) e0 (host := "") (Or.inl (tw18 hw)) Via.refl Da d9_1 rfl (fun T1 X1 e1 => ?_)
  refine s_iloadN B X1 (pc' := 5) d9_4 rfl rfl ?_
  refine p_virtual B X1 (y := mn0) (pc' := 8) (argsL := [(.int b)]) (under := []) (W := 0) e1 (tw64 hw) (tw65 hw) (tw67 hw) (tw66 hw) (tw68 hw) (tw7 hw) (by decide) (rm_val l Z a0 hw b w_Base64Alphabet_IMAP w_DirectCharacters_IMAP w_UTF7 w_IMAP_VALUES h0 F0 kT g AT) E_Base64Alphabet_IMAP (lenOf pd_0 rfl) rfl rfl (by decide) (by decide) rfl rfl (by decide) (by decide) rfl d9_5 rfl (fun T2 X2 e2 => ?_)
  show Go p e below _ (T2.setTop (mkF m 8 #[.val (.ref o), .val (.int b)] [(.int (g (b &&& 255).toNatClampNeg))]))
  refine s_iconst B X2 (pc' := 9) (v := (-1 : Int32)) d9_8 rfl rfl ?_
  refine b_icmp_eq B X2 (py := 16) (pn := 12) d9_9 (by decide) (by decide) rfl (fun hc9_3 => ?_) (fun hc9_3 => ?_)
  · refine s_iconst B X2 (pc' := 17) (v := (0 : Int32)) d9_16 rfl rfl ?_
    have hg := hG _ (own_b255 b).2.1
    rw [(own_b255 b).2.2] at hg
    exact r_nar B X2 (t := .boolean) (by simp) rfl d9_17 ⟨congrArg (fun z => some (Value.int z)) (show nar .boolean (0 : Int32) = fdg (b &&& 255) from (if_neg (hg.mp hc9_3)).symm), rfl, e2⟩ (by decide) (by decide)
  · refine s_iconst B X2 (pc' := 13) (v := (1 : Int32)) d9_12 rfl rfl ?_
    refine s_goto B X2 (pc' := 17) d9_13 (by decide) (by decide) ?_
    have hg := hG _ (own_b255 b).2.1
    rw [(own_b255 b).2.2] at hg
    exact r_nar B X2 (t := .boolean) (by simp) rfl d9_17 ⟨congrArg (fun z => some (Value.int z)) (show nar .boolean (1 : Int32) = fdg (b &&& 255) from (if_pos (Decidable.of_not_not fun z => hc9_3 (hg.mpr z))).symm), rfl, e2⟩ (by decide) (by decide)
theorem d11_0 : decode method_2_code 0 = .ok (.iload_n 0, 1) := by decide +kernel
theorem d11_1 : decode method_2_code 1 = .ok (.bipush 65, 2) := by decide +kernel
theorem d11_3 : decode method_2_code 3 = .ok (.if_icmp .lt 11, 3) := by decide +kernel
theorem d11_6 : decode method_2_code 6 = .ok (.iload_n 0, 1) := by decide +kernel
theorem d11_7 : decode method_2_code 7 = .ok (.bipush 90, 2) := by decide +kernel
theorem d11_9 : decode method_2_code 9 = .ok (.if_icmp .gt 5, 3) := by decide +kernel
theorem d11_12 : decode method_2_code 12 = .ok (.iconst 1, 1) := by decide +kernel
theorem d11_13 : decode method_2_code 13 = .ok (.ireturn, 1) := by decide +kernel
theorem d11_14 : decode method_2_code 14 = .ok (.iload_n 0, 1) := by decide +kernel
theorem d11_15 : decode method_2_code 15 = .ok (.bipush 97, 2) := by decide +kernel
theorem d11_17 : decode method_2_code 17 = .ok (.if_icmp .lt 11, 3) := by decide +kernel
theorem d11_20 : decode method_2_code 20 = .ok (.iload_n 0, 1) := by decide +kernel
theorem d11_21 : decode method_2_code 21 = .ok (.bipush 122, 2) := by decide +kernel
theorem d11_23 : decode method_2_code 23 = .ok (.if_icmp .gt 5, 3) := by decide +kernel
theorem d11_26 : decode method_2_code 26 = .ok (.iconst 1, 1) := by decide +kernel
theorem d11_27 : decode method_2_code 27 = .ok (.ireturn, 1) := by decide +kernel
theorem d11_28 : decode method_2_code 28 = .ok (.iload_n 0, 1) := by decide +kernel
theorem d11_29 : decode method_2_code 29 = .ok (.bipush 48, 2) := by decide +kernel
theorem d11_31 : decode method_2_code 31 = .ok (.if_icmp .lt 11, 3) := by decide +kernel
theorem d11_34 : decode method_2_code 34 = .ok (.iload_n 0, 1) := by decide +kernel
theorem d11_35 : decode method_2_code 35 = .ok (.bipush 57, 2) := by decide +kernel
theorem d11_37 : decode method_2_code 37 = .ok (.if_icmp .gt 5, 3) := by decide +kernel
theorem d11_40 : decode method_2_code 40 = .ok (.iconst 1, 1) := by decide +kernel
theorem d11_41 : decode method_2_code 41 = .ok (.ireturn, 1) := by decide +kernel
theorem d11_42 : decode method_2_code 42 = .ok (.iload_n 0, 1) := by decide +kernel
theorem d11_43 : decode method_2_code 43 = .ok (.bipush 43, 2) := by decide +kernel
theorem d11_45 : decode method_2_code 45 = .ok (.if_icmp .eq 9, 3) := by decide +kernel
theorem d11_48 : decode method_2_code 48 = .ok (.iload_n 0, 1) := by decide +kernel
theorem d11_49 : decode method_2_code 49 = .ok (.bipush 44, 2) := by decide +kernel
theorem d11_51 : decode method_2_code 51 = .ok (.if_icmp .ne 7, 3) := by decide +kernel
theorem d11_54 : decode method_2_code 54 = .ok (.iconst 1, 1) := by decide +kernel
theorem d11_55 : decode method_2_code 55 = .ok (.goto 4, 3) := by decide +kernel
theorem d11_58 : decode method_2_code 58 = .ok (.iconst 0, 1) := by decide +kernel
theorem d11_59 : decode method_2_code 59 = .ok (.ireturn, 1) := by decide +kernel
theorem pn_rm_pred : plainName "com/example/hidden_shift/hiddenshift/coder/Base64RunRfc3501PinLaw" = true := by first | (simp [plainName, overriddenIn]; done) | decide +kernel
set_option maxRecDepth 65536 in
set_option maxHeartbeats 40000000 in
theorem rm_pred (l : Launch) (Z : State) (a0 : Array Value) (hw : ∀ d ∈ tables_1, d.before a0 Z = true) (x : Int32) (h0 : Heap) :
    OMeets l Z mn2 method_2_code 1 (some .boolean) [] ({ frames := 0, cells := 0, slots := 0, locals := 0 } : Room) #[(.int x)] h0 (PureQ (some (.int (fdg x))) h0) := by
  refine OMeets.of pn_rm_pred #[.val (.int x)] (fun m => by first | rfl | (simp [entryFrame, mkF, argsToLocals, Value.category, maxLocals]; done)) ?_
  intro p e s m below meth c s₁ B X0 e0
  have seg42 : (¬ ((65 ≤ x.toInt ∧ x.toInt ≤ 90) ∨ (97 ≤ x.toInt ∧ x.toInt ≤ 122) ∨ (48 ≤ x.toInt ∧ x.toInt ≤ 57))) → Go p e below (OEnds s (PureQ (some (.int (fdg x))) h0) ({ frames := 0, cells := 0, slots := 0, locals := 0 } : Room).cells ({ frames := 0, cells := 0, slots := 0, locals := 0 } : Room).slots) (s₁.setTop (mkF m 42 #[.val (.int x)] [])) := by
    intro hs42
    refine s_iloadN B X0 (pc' := 43) d11_42 rfl rfl ?_
    refine s_bipush B X0 (pc' := 45) (v := (43 : Int32)) d11_43 rfl rfl ?_
    refine b_icmp_eq B X0 (py := 54) (pn := 48) d11_45 (by decide) (by decide) rfl (fun hc45_1 => ?_) (fun hc45_1 => ?_)
    · refine s_iconst B X0 (pc' := 55) (v := (1 : Int32)) d11_54 rfl rfl ?_
      refine s_goto B X0 (pc' := 59) d11_55 (by decide) (by decide) ?_
      simp only [Int32.lt_iff_toInt_lt, ← Int32.toInt_inj, Int32.reduceToInt] at hc45_1
      exact r_nar B X0 (t := .boolean) (by simp) rfl d11_59 ⟨congrArg (fun z => some (Value.int z)) (show nar .boolean (1 : Int32) = fdg x from (if_pos (by unfold dgP; omega)).symm), rfl, e0⟩ (by decide) (by decide)
    · refine s_iloadN B X0 (pc' := 49) d11_48 rfl rfl ?_
      refine s_bipush B X0 (pc' := 51) (v := (44 : Int32)) d11_49 rfl rfl ?_
      refine b_icmp_ne B X0 (py := 58) (pn := 54) d11_51 (by decide) (by decide) rfl (fun hc51_2 => ?_) (fun hc51_2 => ?_)
      · refine s_iconst B X0 (pc' := 59) (v := (0 : Int32)) d11_58 rfl rfl ?_
        simp only [Int32.lt_iff_toInt_lt, ← Int32.toInt_inj, Int32.reduceToInt] at hc45_1 hc51_2
        exact r_nar B X0 (t := .boolean) (by simp) rfl d11_59 ⟨congrArg (fun z => some (Value.int z)) (show nar .boolean (0 : Int32) = fdg x from (if_neg (by unfold dgP; omega)).symm), rfl, e0⟩ (by decide) (by decide)
      · refine s_iconst B X0 (pc' := 55) (v := (1 : Int32)) d11_54 rfl rfl ?_
        refine s_goto B X0 (pc' := 59) d11_55 (by decide) (by decide) ?_
        simp only [Int32.lt_iff_toInt_lt, ← Int32.toInt_inj, Int32.reduceToInt] at hc45_1 hc51_2
        exact r_nar B X0 (t := .boolean) (by simp) rfl d11_59 ⟨congrArg (fun z => some (Value.int z)) (show nar .boolean (1 : Int32) = fdg x from (if_pos (by unfold dgP; omega)).symm), rfl, e0⟩ (by decide) (by decide)
  have seg28 : (¬ ((65 ≤ x.toInt ∧ x.toInt ≤ 90) ∨ (97 ≤ x.toInt ∧ x.toInt ≤ 122))) → Go p e below (OEnds s (PureQ (some (.int (fdg x))) h0) ({ frames := 0, cells := 0, slots := 0, locals := 0 } : Room).cells ({ frames := 0, cells := 0, slots := 0, locals := 0 } : Room).slots) (s₁.setTop (mkF m 28 #[.val (.int x)] [])) := by
    intro hs28
    refine s_iloadN B X0 (pc' := 29) d11_28 rfl rfl ?_
    refine s_bipush B X0 (pc' := 31) (v := (48 : Int32)) d11_29 rfl rfl ?_
    refine b_icmp_lt B X0 (py := 42) (pn := 34) d11_31 (by decide) (by decide) rfl (fun hc31_3 => ?_) (fun hc31_3 => ?_)
    · simp only [Int32.lt_iff_toInt_lt, ← Int32.toInt_inj, Int32.reduceToInt] at hc31_3
      exact seg42 (by omega)
    · refine s_iloadN B X0 (pc' := 35) d11_34 rfl rfl ?_
      refine s_bipush B X0 (pc' := 37) (v := (57 : Int32)) d11_35 rfl rfl ?_
      refine b_icmp_gt B X0 (py := 42) (pn := 40) d11_37 (by decide) (by decide) rfl (fun hc37_4 => ?_) (fun hc37_4 => ?_)
      · simp only [Int32.lt_iff_toInt_lt, ← Int32.toInt_inj, Int32.reduceToInt] at hc31_3 hc37_4
        exact seg42 (by omega)
      · refine s_iconst B X0 (pc' := 41) (v := (1 : Int32)) d11_40 rfl rfl ?_
        simp only [Int32.lt_iff_toInt_lt, ← Int32.toInt_inj, Int32.reduceToInt] at hc31_3 hc37_4
        exact r_nar B X0 (t := .boolean) (by simp) rfl d11_41 ⟨congrArg (fun z => some (Value.int z)) (show nar .boolean (1 : Int32) = fdg x from (if_pos (by unfold dgP; omega)).symm), rfl, e0⟩ (by decide) (by decide)
  have seg14 : (¬ ((65 ≤ x.toInt ∧ x.toInt ≤ 90))) → Go p e below (OEnds s (PureQ (some (.int (fdg x))) h0) ({ frames := 0, cells := 0, slots := 0, locals := 0 } : Room).cells ({ frames := 0, cells := 0, slots := 0, locals := 0 } : Room).slots) (s₁.setTop (mkF m 14 #[.val (.int x)] [])) := by
    intro hs14
    refine s_iloadN B X0 (pc' := 15) d11_14 rfl rfl ?_
    refine s_bipush B X0 (pc' := 17) (v := (97 : Int32)) d11_15 rfl rfl ?_
    refine b_icmp_lt B X0 (py := 28) (pn := 20) d11_17 (by decide) (by decide) rfl (fun hc17_5 => ?_) (fun hc17_5 => ?_)
    · simp only [Int32.lt_iff_toInt_lt, ← Int32.toInt_inj, Int32.reduceToInt] at hc17_5
      exact seg28 (by omega)
    · refine s_iloadN B X0 (pc' := 21) d11_20 rfl rfl ?_
      refine s_bipush B X0 (pc' := 23) (v := (122 : Int32)) d11_21 rfl rfl ?_
      refine b_icmp_gt B X0 (py := 28) (pn := 26) d11_23 (by decide) (by decide) rfl (fun hc23_6 => ?_) (fun hc23_6 => ?_)
      · simp only [Int32.lt_iff_toInt_lt, ← Int32.toInt_inj, Int32.reduceToInt] at hc17_5 hc23_6
        exact seg28 (by omega)
      · refine s_iconst B X0 (pc' := 27) (v := (1 : Int32)) d11_26 rfl rfl ?_
        simp only [Int32.lt_iff_toInt_lt, ← Int32.toInt_inj, Int32.reduceToInt] at hc17_5 hc23_6
        exact r_nar B X0 (t := .boolean) (by simp) rfl d11_27 ⟨congrArg (fun z => some (Value.int z)) (show nar .boolean (1 : Int32) = fdg x from (if_pos (by unfold dgP; omega)).symm), rfl, e0⟩ (by decide) (by decide)
  refine s_iloadN B X0 (pc' := 1) d11_0 rfl rfl ?_
  refine s_bipush B X0 (pc' := 3) (v := (65 : Int32)) d11_1 rfl rfl ?_
  refine b_icmp_lt B X0 (py := 14) (pn := 6) d11_3 (by decide) (by decide) rfl (fun hc3_7 => ?_) (fun hc3_7 => ?_)
  · simp only [Int32.lt_iff_toInt_lt, ← Int32.toInt_inj, Int32.reduceToInt] at hc3_7
    exact seg14 (by omega)
  · refine s_iloadN B X0 (pc' := 7) d11_6 rfl rfl ?_
    refine s_bipush B X0 (pc' := 9) (v := (90 : Int32)) d11_7 rfl rfl ?_
    refine b_icmp_gt B X0 (py := 14) (pn := 12) d11_9 (by decide) (by decide) rfl (fun hc9_8 => ?_) (fun hc9_8 => ?_)
    · simp only [Int32.lt_iff_toInt_lt, ← Int32.toInt_inj, Int32.reduceToInt] at hc3_7 hc9_8
      exact seg14 (by omega)
    · refine s_iconst B X0 (pc' := 13) (v := (1 : Int32)) d11_12 rfl rfl ?_
      simp only [Int32.lt_iff_toInt_lt, ← Int32.toInt_inj, Int32.reduceToInt] at hc3_7 hc9_8
      exact r_nar B X0 (t := .boolean) (by simp) rfl d11_13 ⟨congrArg (fun z => some (Value.int z)) (show nar .boolean (1 : Int32) = fdg x from (if_pos (by unfold dgP; omega)).symm), rfl, e0⟩ (by decide) (by decide)
theorem d2_0 : decode prog_14_method_1_code 0 = .ok (.aload_n 0, 1) := by decide +kernel
theorem d2_1 : decode prog_14_method_1_code 1 = .ok (.invokespecial 3, 3) := by decide +kernel
theorem d2_4 : decode prog_14_method_1_code 4 = .ok (.aload_n 0, 1) := by decide +kernel
theorem d2_5 : decode prog_14_method_1_code 5 = .ok (.aload_n 1, 1) := by decide +kernel
theorem d2_6 : decode prog_14_method_1_code 6 = .ok (.putfield 9, 3) := by decide +kernel
theorem d2_9 : decode prog_14_method_1_code 9 = .ok (.aload_n 0, 1) := by decide +kernel
theorem d2_10 : decode prog_14_method_1_code 10 = .ok (.aload_n 2, 1) := by decide +kernel
theorem d2_11 : decode prog_14_method_1_code 11 = .ok (.putfield 15, 3) := by decide +kernel
theorem d2_14 : decode prog_14_method_1_code 14 = .ok (.aload_n 0, 1) := by decide +kernel
theorem d2_15 : decode prog_14_method_1_code 15 = .ok (.iload_n 3, 1) := by decide +kernel
theorem d2_16 : decode prog_14_method_1_code 16 = .ok (.putfield 19, 3) := by decide +kernel
theorem d2_19 : decode prog_14_method_1_code 19 = .ok (.aload_n 0, 1) := by decide +kernel
theorem d2_20 : decode prog_14_method_1_code 20 = .ok (.iload 4, 2) := by decide +kernel
theorem d2_22 : decode prog_14_method_1_code 22 = .ok (.i2b, 1) := by decide +kernel
theorem d2_23 : decode prog_14_method_1_code 23 = .ok (.putfield 23, 3) := by decide +kernel
theorem d2_26 : decode prog_14_method_1_code 26 = .ok (.aload_n 0, 1) := by decide +kernel
theorem d2_27 : decode prog_14_method_1_code 27 = .ok (.iload 5, 2) := by decide +kernel
theorem d2_29 : decode prog_14_method_1_code 29 = .ok (.putfield 27, 3) := by decide +kernel
theorem d2_32 : decode prog_14_method_1_code 32 = .ok (.return_, 1) := by decide +kernel
theorem pn_mm2_0 : plainName "com/example/hidden_shift/hiddenshift/coder/Base64Run" = true := by first | (simp [plainName, overriddenIn]; done) | decide +kernel
set_option maxRecDepth 65536 in
set_option maxHeartbeats 40000000 in
theorem mm2_0 (l : Launch) (Z : State) (a0 : Array Value) (hw : ∀ d ∈ tables_1, d.before a0 Z = true) (b0 : Addr) (w_Base64Alphabet_IMAP w_DirectCharacters_IMAP w_UTF7 w_IMAP_VALUES : Addr) (h0 : Heap) (FZ : OwnF Z Z.heap w_Base64Alphabet_IMAP w_DirectCharacters_IMAP w_UTF7 w_IMAP_VALUES) (O0 : Old Z Z.heap.size h0) (ge_b0 : Z.heap.size ≤ b0) (E_b0 : Exa Z h0 b0 "com/example/hidden_shift/hiddenshift/coder/Base64Run") (D_b0_alphabet : Fld Z h0 b0 "com/example/hidden_shift/hiddenshift/coder/Base64Run" "alphabet" "Lcom/example/hidden_shift/hiddenshift/table/Base64Alphabet;" .null) (D_b0_barredUnits : Fld Z h0 b0 "com/example/hidden_shift/hiddenshift/coder/Base64Run" "barredUnits" "Lcom/example/hidden_shift/hiddenshift/table/DirectCharacters;" .null) (D_b0_bitCount : Fld Z h0 b0 "com/example/hidden_shift/hiddenshift/coder/Base64Run" "bitCount" "I" (.int (0 : Int32))) (D_b0_bits : Fld Z h0 b0 "com/example/hidden_shift/hiddenshift/coder/Base64Run" "bits" "I" (.int (0 : Int32))) (D_b0_closedByDashOnly : Fld Z h0 b0 "com/example/hidden_shift/hiddenshift/coder/Base64Run" "closedByDashOnly" "Z" (.int (0 : Int32))) (D_b0_digitAdded : Fld Z h0 b0 "com/example/hidden_shift/hiddenshift/coder/Base64Run" "digitAdded" "Z" (.int (0 : Int32))) (D_b0_digitBroke : Fld Z h0 b0 "com/example/hidden_shift/hiddenshift/coder/Base64Run" "digitBroke" "Z" (.int (0 : Int32))) (D_b0_highSurrogate : Fld Z h0 b0 "com/example/hidden_shift/hiddenshift/coder/Base64Run" "highSurrogate" "C" (.int (0 : Int32))) (D_b0_open : Fld Z h0 b0 "com/example/hidden_shift/hiddenshift/coder/Base64Run" "open" "Z" (.int (0 : Int32))) (D_b0_runsMayAdjoin : Fld Z h0 b0 "com/example/hidden_shift/hiddenshift/coder/Base64Run" "runsMayAdjoin" "Z" (.int (0 : Int32))) (D_b0_shift : Fld Z h0 b0 "com/example/hidden_shift/hiddenshift/coder/Base64Run" "shift" "B" (.int (0 : Int32)))  :
    OMeets l Z mn3 prog_14_method_1_code 6 none [] ({ frames := 1, cells := 0, slots := 0, locals := 12 } : Room) #[(.ref b0), (.ref w_Base64Alphabet_IMAP), (.ref w_DirectCharacters_IMAP), (.int (1 : Int32)), (.int (38 : Int32)), (.int (0 : Int32))] h0 (fun v h L => v = none ∧ Fr Z.heap.size L ∧ Keep h0 h [b0] ∧ Fld Z h b0 "com/example/hidden_shift/hiddenshift/coder/Base64Run" "alphabet" "Lcom/example/hidden_shift/hiddenshift/table/Base64Alphabet;" (.ref w_Base64Alphabet_IMAP) ∧ Fld Z h b0 "com/example/hidden_shift/hiddenshift/coder/Base64Run" "barredUnits" "Lcom/example/hidden_shift/hiddenshift/table/DirectCharacters;" (.ref w_DirectCharacters_IMAP) ∧ Fld Z h b0 "com/example/hidden_shift/hiddenshift/coder/Base64Run" "bitCount" "I" (.int (0 : Int32)) ∧ Fld Z h b0 "com/example/hidden_shift/hiddenshift/coder/Base64Run" "bits" "I" (.int (0 : Int32)) ∧ Fld Z h b0 "com/example/hidden_shift/hiddenshift/coder/Base64Run" "closedByDashOnly" "Z" (.int (1 : Int32)) ∧ Fld Z h b0 "com/example/hidden_shift/hiddenshift/coder/Base64Run" "digitAdded" "Z" (.int (0 : Int32)) ∧ Fld Z h b0 "com/example/hidden_shift/hiddenshift/coder/Base64Run" "digitBroke" "Z" (.int (0 : Int32)) ∧ Fld Z h b0 "com/example/hidden_shift/hiddenshift/coder/Base64Run" "highSurrogate" "C" (.int (0 : Int32)) ∧ Fld Z h b0 "com/example/hidden_shift/hiddenshift/coder/Base64Run" "open" "Z" (.int (0 : Int32)) ∧ Fld Z h b0 "com/example/hidden_shift/hiddenshift/coder/Base64Run" "runsMayAdjoin" "Z" (.int (0 : Int32)) ∧ Fld Z h b0 "com/example/hidden_shift/hiddenshift/coder/Base64Run" "shift" "B" (.int (38 : Int32))) := by
  refine OMeets.of pn_mm2_0 #[.val (.ref b0), .val (.ref w_Base64Alphabet_IMAP), .val (.ref w_DirectCharacters_IMAP), .val (.int (1 : Int32)), .val (.int (38 : Int32)), .val (.int (0 : Int32))] (fun m => by first | rfl | (simp [entryFrame, mkF, argsToLocals, Value.category, maxLocals]; done)) ?_
  intro p e s m below meth c s₁ B X0 e0
  have F0 := OwnF.ext O0.2 FZ
  obtain ⟨S_Base64Alphabet_IMAP, E_Base64Alphabet_IMAP, S_DirectCharacters_IMAP, E_DirectCharacters_IMAP, S_UTF7, E_UTF7, F_Base64Alphabet_IMAP_ordinal, F_UTF7_ordinal, S_IMAP_VALUES, G_IMAP_VALUES⟩ := id F0
  refine s_aloadN B X0 (pc' := 1) d2_0 rfl rfl rfl ?_
  refine s_initO B X0 (pc' := 4) (W := 0) e0 (tw15 hw) (tw16 hw) (tw17 hw) rfl (by decide) (by decide) rfl d2_1 rfl (fun T1 X1 e1 => ?_)
  refine s_aloadN B X1 (pc' := 5) d2_4 rfl rfl rfl ?_
  refine s_aloadN B X1 (pc' := 6) d2_5 rfl rfl rfl ?_
  refine s_putF B X1 (pc' := 9) (ty := (.object "com/example/hidden_shift/hiddenshift/table/Base64Alphabet")) e1 (host := "") (Or.inl (tw18 hw)) Via.refl D_b0_alphabet E_b0 (Or.inr ⟨(tw19 hw), rfl, rfl⟩) (tw5 hw) (by decide) rfl rfl d2_6 rfl (fun T2 h2 X2 e2 W2 => ?_)
  have G2 := D_b0_alphabet.same W2
  have N2 := Fr.snoc X2 (Fr.nil _) ge_b0
  have O2 := (O0).wr W2 ge_b0
  have F2 := OwnF.ext O2.2 FZ
  have K2 := ((Keep.refl h0 [b0])).wr W2 (Or.inl (List.mem_of_getElem? (i := 0) rfl))
  show Go p e below _ (T2.setTop (mkF m 9 #[.val (.ref b0), .val (.ref w_Base64Alphabet_IMAP), .val (.ref w_DirectCharacters_IMAP), .val (.int (1 : Int32)), .val (.int (38 : Int32)), .val (.int (0 : Int32))] []))
  refine s_aloadN B X2 (pc' := 10) d2_9 rfl rfl rfl ?_
  refine s_aloadN B X2 (pc' := 11) d2_10 rfl rfl rfl ?_
  have f4 := (D_b0_barredUnits.other W2 (Or.inr (slot_ne (Or.inr (tw21 hw)) (Or.inr (tw19 hw)) (by decide) (t := (.object "com/example/hidden_shift/hiddenshift/table/DirectCharacters")) (t' := (.object "com/example/hidden_shift/hiddenshift/table/Base64Alphabet")) (by decide) (by decide))))
  have f5 := (E_b0.wr W2)
  refine s_putF B X2 (pc' := 14) (ty := (.object "com/example/hidden_shift/hiddenshift/table/DirectCharacters")) e2 (host := "") (Or.inl (tw20 hw)) Via.refl f4 f5 (Or.inr ⟨(tw21 hw), rfl, rfl⟩) (tw5 hw) (by decide) rfl rfl d2_11 rfl (fun T3 h3 X3 e3 W3 => ?_)
  have G3 := f4.same W3
  have N3 := Fr.snoc X3 N2 ge_b0
  have O3 := (O2).wr W3 ge_b0
  have F3 := OwnF.ext O3.2 FZ
  have K3 := (K2).wr W3 (Or.inl (List.mem_of_getElem? (i := 0) rfl))
  show Go p e below _ (T3.setTop (mkF m 14 #[.val (.ref b0), .val (.ref w_Base64Alphabet_IMAP), .val (.ref w_DirectCharacters_IMAP), .val (.int (1 : Int32)), .val (.int (38 : Int32)), .val (.int (0 : Int32))] []))
  refine s_aloadN B X3 (pc' := 15) d2_14 rfl rfl rfl ?_
  refine s_iloadN B X3 (pc' := 16) d2_15 rfl rfl ?_
  have f7 := ((D_b0_closedByDashOnly.other W2 (Or.inr (slot_ne (Or.inr (tw23 hw)) (Or.inr (tw19 hw)) (by decide) (t := .boolean) (t' := (.object "com/example/hidden_shift/hiddenshift/table/Base64Alphabet")) (by decide) (by decide)))).other W3 (Or.inr (slot_ne (Or.inr (tw23 hw)) (Or.inr (tw21 hw)) (by decide) (t := .boolean) (t' := (.object "com/example/hidden_shift/hiddenshift/table/DirectCharacters")) (by decide) (by decide))))
  have f8 := (f5.wr W3)
  refine s_putFN B X3 (pc' := 19) (v' := (.int (1 : Int32))) (ty := .boolean) e3 (tw22 hw) Via.refl f7 f8 (Or.inr ⟨(tw23 hw), rfl, rfl⟩) (tw5 hw) (by decide) rfl rfl d2_16 rfl (fun T6 h6 X6 e6 W6 => ?_)
  have G6 := f7.same W6
  have N6 := Fr.snoc X6 N3 ge_b0
  have O6 := (O3).wr W6 ge_b0
  have F6 := OwnF.ext O6.2 FZ
  have K6 := (K3).wr W6 (Or.inl (List.mem_of_getElem? (i := 0) rfl))
  show Go p e below _ (T6.setTop (mkF m 19 #[.val (.ref b0), .val (.ref w_Base64Alphabet_IMAP), .val (.ref w_DirectCharacters_IMAP), .val (.int (1 : Int32)), .val (.int (38 : Int32)), .val (.int (0 : Int32))] []))
  refine s_aloadN B X6 (pc' := 20) d2_19 rfl rfl rfl ?_
  refine s_iload B X6 (pc' := 22) d2_20 rfl rfl ?_
  refine s_i2b B X6 (pc' := 23) (v := (38 : Int32)) d2_22 rfl rfl ?_
  have f10 := (((D_b0_shift.other W2 (Or.inr (slot_ne (Or.inr (tw25 hw)) (Or.inr (tw19 hw)) (by decide) (t := .byte) (t' := (.object "com/example/hidden_shift/hiddenshift/table/Base64Alphabet")) (by decide) (by decide)))).other W3 (Or.inr (slot_ne (Or.inr (tw25 hw)) (Or.inr (tw21 hw)) (by decide) (t := .byte) (t' := (.object "com/example/hidden_shift/hiddenshift/table/DirectCharacters")) (by decide) (by decide)))).other W6 (Or.inr (slot_ne (Or.inr (tw25 hw)) (Or.inr (tw23 hw)) (by decide) (t := .byte) (t' := .boolean) (by decide) (by decide))))
  have f11 := (f8.wr W6)
  refine s_putFN B X6 (pc' := 26) (v' := (.int (38 : Int32))) (ty := .byte) e6 (tw24 hw) Via.refl f10 f11 (Or.inr ⟨(tw25 hw), rfl, rfl⟩) (tw5 hw) (by decide) rfl rfl d2_23 rfl (fun T9 h9 X9 e9 W9 => ?_)
  have G9 := f10.same W9
  have N9 := Fr.snoc X9 N6 ge_b0
  have O9 := (O6).wr W9 ge_b0
  have F9 := OwnF.ext O9.2 FZ
  have K9 := (K6).wr W9 (Or.inl (List.mem_of_getElem? (i := 0) rfl))
  show Go p e below _ (T9.setTop (mkF m 26 #[.val (.ref b0), .val (.ref w_Base64Alphabet_IMAP), .val (.ref w_DirectCharacters_IMAP), .val (.int (1 : Int32)), .val (.int (38 : Int32)), .val (.int (0 : Int32))] []))
  refine s_aloadN B X9 (pc' := 27) d2_26 rfl rfl rfl ?_
  refine s_iload B X9 (pc' := 29) d2_27 rfl rfl ?_
  have f13 := ((((D_b0_runsMayAdjoin.other W2 (Or.inr (slot_ne (Or.inr (tw27 hw)) (Or.inr (tw19 hw)) (by decide) (t := .boolean) (t' := (.object "com/example/hidden_shift/hiddenshift/table/Base64Alphabet")) (by decide) (by decide)))).other W3 (Or.inr (slot_ne (Or.inr (tw27 hw)) (Or.inr (tw21 hw)) (by decide) (t := .boolean) (t' := (.object "com/example/hidden_shift/hiddenshift/table/DirectCharacters")) (by decide) (by decide)))).other W6 (Or.inr (slot_ne (Or.inr (tw27 hw)) (Or.inr (tw23 hw)) (by decide) (t := .boolean) (t' := .boolean) (by decide) (by decide)))).other W9 (Or.inr (slot_ne (Or.inr (tw27 hw)) (Or.inr (tw25 hw)) (by decide) (t := .boolean) (t' := .byte) (by decide) (by decide))))
  have f14 := (f11.wr W9)
  refine s_putFN B X9 (pc' := 32) (v' := (.int (0 : Int32))) (ty := .boolean) e9 (tw26 hw) Via.refl f13 f14 (Or.inr ⟨(tw27 hw), rfl, rfl⟩) (tw5 hw) (by decide) rfl rfl d2_29 rfl (fun T12 h12 X12 e12 W12 => ?_)
  have G12 := f13.same W12
  have N12 := Fr.snoc X12 N9 ge_b0
  have O12 := (O9).wr W12 ge_b0
  have F12 := OwnF.ext O12.2 FZ
  have K12 := (K9).wr W12 (Or.inl (List.mem_of_getElem? (i := 0) rfl))
  show Go p e below _ (T12.setTop (mkF m 32 #[.val (.ref b0), .val (.ref w_Base64Alphabet_IMAP), .val (.ref w_DirectCharacters_IMAP), .val (.int (1 : Int32)), .val (.int (38 : Int32)), .val (.int (0 : Int32))] []))
  have f15 := ((((G2.other W3 (Or.inr (slot_ne (Or.inr (tw19 hw)) (Or.inr (tw21 hw)) (by decide) (t := (.object "com/example/hidden_shift/hiddenshift/table/Base64Alphabet")) (t' := (.object "com/example/hidden_shift/hiddenshift/table/DirectCharacters")) (by decide) (by decide)))).other W6 (Or.inr (slot_ne (Or.inr (tw19 hw)) (Or.inr (tw23 hw)) (by decide) (t := (.object "com/example/hidden_shift/hiddenshift/table/Base64Alphabet")) (t' := .boolean) (by decide) (by decide)))).other W9 (Or.inr (slot_ne (Or.inr (tw19 hw)) (Or.inr (tw25 hw)) (by decide) (t := (.object "com/example/hidden_shift/hiddenshift/table/Base64Alphabet")) (t' := .byte) (by decide) (by decide)))).other W12 (Or.inr (slot_ne (Or.inr (tw19 hw)) (Or.inr (tw27 hw)) (by decide) (t := (.object "com/example/hidden_shift/hiddenshift/table/Base64Alphabet")) (t' := .boolean) (by decide) (by decide))))
  have f16 := (((G3.other W6 (Or.inr (slot_ne (Or.inr (tw21 hw)) (Or.inr (tw23 hw)) (by decide) (t := (.object "com/example/hidden_shift/hiddenshift/table/DirectCharacters")) (t' := .boolean) (by decide) (by decide)))).other W9 (Or.inr (slot_ne (Or.inr (tw21 hw)) (Or.inr (tw25 hw)) (by decide) (t := (.object "com/example/hidden_shift/hiddenshift/table/DirectCharacters")) (t' := .byte) (by decide) (by decide)))).other W12 (Or.inr (slot_ne (Or.inr (tw21 hw)) (Or.inr (tw27 hw)) (by decide) (t := (.object "com/example/hidden_shift/hiddenshift/table/DirectCharacters")) (t' := .boolean) (by decide) (by decide))))
  have f17 := (((((D_b0_bitCount.other W2 (Or.inr (slot_ne (Or.inl (tw48 hw)) (Or.inr (tw19 hw)) (by decide) (t := .int) (t' := (.object "com/example/hidden_shift/hiddenshift/table/Base64Alphabet")) (by decide) (by decide)))).other W3 (Or.inr (slot_ne (Or.inl (tw48 hw)) (Or.inr (tw21 hw)) (by decide) (t := .int) (t' := (.object "com/example/hidden_shift/hiddenshift/table/DirectCharacters")) (by decide) (by decide)))).other W6 (Or.inr (slot_ne (Or.inl (tw48 hw)) (Or.inr (tw23 hw)) (by decide) (t := .int) (t' := .boolean) (by decide) (by decide)))).other W9 (Or.inr (slot_ne (Or.inl (tw48 hw)) (Or.inr (tw25 hw)) (by decide) (t := .int) (t' := .byte) (by decide) (by decide)))).other W12 (Or.inr (slot_ne (Or.inl (tw48 hw)) (Or.inr (tw27 hw)) (by decide) (t := .int) (t' := .boolean) (by decide) (by decide))))
  have f18 := (((((D_b0_bits.other W2 (Or.inr (slot_ne (Or.inl (tw46 hw)) (Or.inr (tw19 hw)) (by decide) (t := .int) (t' := (.object "com/example/hidden_shift/hiddenshift/table/Base64Alphabet")) (by decide) (by decide)))).other W3 (Or.inr (slot_ne (Or.inl (tw46 hw)) (Or.inr (tw21 hw)) (by decide) (t := .int) (t' := (.object "com/example/hidden_shift/hiddenshift/table/DirectCharacters")) (by decide) (by decide)))).other W6 (Or.inr (slot_ne (Or.inl (tw46 hw)) (Or.inr (tw23 hw)) (by decide) (t := .int) (t' := .boolean) (by decide) (by decide)))).other W9 (Or.inr (slot_ne (Or.inl (tw46 hw)) (Or.inr (tw25 hw)) (by decide) (t := .int) (t' := .byte) (by decide) (by decide)))).other W12 (Or.inr (slot_ne (Or.inl (tw46 hw)) (Or.inr (tw27 hw)) (by decide) (t := .int) (t' := .boolean) (by decide) (by decide))))
  have f19 := ((G6.other W9 (Or.inr (slot_ne (Or.inr (tw23 hw)) (Or.inr (tw25 hw)) (by decide) (t := .boolean) (t' := .byte) (by decide) (by decide)))).other W12 (Or.inr (slot_ne (Or.inr (tw23 hw)) (Or.inr (tw27 hw)) (by decide) (t := .boolean) (t' := .boolean) (by decide) (by decide))))
  have f20 := (((((D_b0_digitAdded.other W2 (Or.inr (slot_ne (Or.inl (tw89 hw)) (Or.inr (tw19 hw)) (by decide) (t := .boolean) (t' := (.object "com/example/hidden_shift/hiddenshift/table/Base64Alphabet")) (by decide) (by decide)))).other W3 (Or.inr (slot_ne (Or.inl (tw89 hw)) (Or.inr (tw21 hw)) (by decide) (t := .boolean) (t' := (.object "com/example/hidden_shift/hiddenshift/table/DirectCharacters")) (by decide) (by decide)))).other W6 (Or.inr (slot_ne (Or.inl (tw89 hw)) (Or.inr (tw23 hw)) (by decide) (t := .boolean) (t' := .boolean) (by decide) (by decide)))).other W9 (Or.inr (slot_ne (Or.inl (tw89 hw)) (Or.inr (tw25 hw)) (by decide) (t := .boolean) (t' := .byte) (by decide) (by decide)))).other W12 (Or.inr (slot_ne (Or.inl (tw89 hw)) (Or.inr (tw27 hw)) (by decide) (t := .boolean) (t' := .boolean) (by decide) (by decide))))
  have f21 := (((((D_b0_digitBroke.other W2 (Or.inr (slot_ne (Or.inl (tw91 hw)) (Or.inr (tw19 hw)) (by decide) (t := .boolean) (t' := (.object "com/example/hidden_shift/hiddenshift/table/Base64Alphabet")) (by decide) (by decide)))).other W3 (Or.inr (slot_ne (Or.inl (tw91 hw)) (Or.inr (tw21 hw)) (by decide) (t := .boolean) (t' := (.object "com/example/hidden_shift/hiddenshift/table/DirectCharacters")) (by decide) (by decide)))).other W6 (Or.inr (slot_ne (Or.inl (tw91 hw)) (Or.inr (tw23 hw)) (by decide) (t := .boolean) (t' := .boolean) (by decide) (by decide)))).other W9 (Or.inr (slot_ne (Or.inl (tw91 hw)) (Or.inr (tw25 hw)) (by decide) (t := .boolean) (t' := .byte) (by decide) (by decide)))).other W12 (Or.inr (slot_ne (Or.inl (tw91 hw)) (Or.inr (tw27 hw)) (by decide) (t := .boolean) (t' := .boolean) (by decide) (by decide))))
  have f22 := (((((D_b0_highSurrogate.other W2 (Or.inr (slot_ne (Or.inl (tw53 hw)) (Or.inr (tw19 hw)) (by decide) (t := .char) (t' := (.object "com/example/hidden_shift/hiddenshift/table/Base64Alphabet")) (by decide) (by decide)))).other W3 (Or.inr (slot_ne (Or.inl (tw53 hw)) (Or.inr (tw21 hw)) (by decide) (t := .char) (t' := (.object "com/example/hidden_shift/hiddenshift/table/DirectCharacters")) (by decide) (by decide)))).other W6 (Or.inr (slot_ne (Or.inl (tw53 hw)) (Or.inr (tw23 hw)) (by decide) (t := .char) (t' := .boolean) (by decide) (by decide)))).other W9 (Or.inr (slot_ne (Or.inl (tw53 hw)) (Or.inr (tw25 hw)) (by decide) (t := .char) (t' := .byte) (by decide) (by decide)))).other W12 (Or.inr (slot_ne (Or.inl (tw53 hw)) (Or.inr (tw27 hw)) (by decide) (t := .char) (t' := .boolean) (by decide) (by decide))))
  have f23 := (((((D_b0_open.other W2 (Or.inr (slot_ne (Or.inl (tw34 hw)) (Or.inr (tw19 hw)) (by decide) (t := .boolean) (t' := (.object "com/example/hidden_shift/hiddenshift/table/Base64Alphabet")) (by decide) (by decide)))).other W3 (Or.inr (slot_ne (Or.inl (tw34 hw)) (Or.inr (tw21 hw)) (by decide) (t := .boolean) (t' := (.object "com/example/hidden_shift/hiddenshift/table/DirectCharacters")) (by decide) (by decide)))).other W6 (Or.inr (slot_ne (Or.inl (tw34 hw)) (Or.inr (tw23 hw)) (by decide) (t := .boolean) (t' := .boolean) (by decide) (by decide)))).other W9 (Or.inr (slot_ne (Or.inl (tw34 hw)) (Or.inr (tw25 hw)) (by decide) (t := .boolean) (t' := .byte) (by decide) (by decide)))).other W12 (Or.inr (slot_ne (Or.inl (tw34 hw)) (Or.inr (tw27 hw)) (by decide) (t := .boolean) (t' := .boolean) (by decide) (by decide))))
  have f24 := (G9.other W12 (Or.inr (slot_ne (Or.inr (tw25 hw)) (Or.inr (tw27 hw)) (by decide) (t := .byte) (t' := .boolean) (by decide) (by decide))))
  exact r_void B X12 rfl d2_32 (by rw [e12]; exact ⟨rfl, N12, K12, f15, f16, f17, f18, f19, f20, f21, f22, f23, G12, f24⟩) (by decide) (by decide)
theorem d1_0 : decode prog_14_method_3_code 0 = .ok (.new 10, 3) := by decide +kernel
theorem d1_3 : decode prog_14_method_3_code 3 = .ok (.dup, 1) := by decide +kernel
theorem d1_4 : decode prog_14_method_3_code 4 = .ok (.getstatic 36, 3) := by decide +kernel
theorem d1_7 : decode prog_14_method_3_code 7 = .ok (.getstatic 39, 3) := by decide +kernel
theorem d1_10 : decode prog_14_method_3_code 10 = .ok (.iconst 1, 1) := by decide +kernel
theorem d1_11 : decode prog_14_method_3_code 11 = .ok (.bipush 38, 2) := by decide +kernel
theorem d1_13 : decode prog_14_method_3_code 13 = .ok (.iconst 0, 1) := by decide +kernel
theorem d1_14 : decode prog_14_method_3_code 14 = .ok (.invokespecial 33, 3) := by decide +kernel
theorem d1_17 : decode prog_14_method_3_code 17 = .ok (.areturn, 1) := by decide +kernel
theorem pn_mm1_0 : plainName "com/example/hidden_shift/hiddenshift/coder/Base64Run" = true := by first | (simp [plainName, overriddenIn]; done) | decide +kernel
set_option maxRecDepth 65536 in
set_option maxHeartbeats 40000000 in
theorem mm1_0 (l : Launch) (Z : State) (a0 : Array Value) (hw : ∀ d ∈ tables_1, d.before a0 Z = true)  (w_Base64Alphabet_IMAP w_DirectCharacters_IMAP w_UTF7 w_IMAP_VALUES : Addr) (h0 : Heap) (FZ : OwnF Z Z.heap w_Base64Alphabet_IMAP w_DirectCharacters_IMAP w_UTF7 w_IMAP_VALUES) (O0 : Old Z Z.heap.size h0)   :
    OMeets l Z mn4 prog_14_method_3_code 0 (some (.object "com/example/hidden_shift/hiddenshift/coder/Base64Run")) [] ({ frames := 2, cells := 1, slots := 11, locals := 30 } : Room) #[] h0 (fun v h L => ∃ o1 : Addr, v = some (.ref o1) ∧ Fr Z.heap.size L ∧ Keep h0 h [] ∧ h0.size ≤ o1 ∧ Exa Z h o1 "com/example/hidden_shift/hiddenshift/coder/Base64Run" ∧ Fld Z h o1 "com/example/hidden_shift/hiddenshift/coder/Base64Run" "alphabet" "Lcom/example/hidden_shift/hiddenshift/table/Base64Alphabet;" (.ref w_Base64Alphabet_IMAP) ∧ Fld Z h o1 "com/example/hidden_shift/hiddenshift/coder/Base64Run" "barredUnits" "Lcom/example/hidden_shift/hiddenshift/table/DirectCharacters;" (.ref w_DirectCharacters_IMAP) ∧ Fld Z h o1 "com/example/hidden_shift/hiddenshift/coder/Base64Run" "bitCount" "I" (.int (0 : Int32)) ∧ Fld Z h o1 "com/example/hidden_shift/hiddenshift/coder/Base64Run" "bits" "I" (.int (0 : Int32)) ∧ Fld Z h o1 "com/example/hidden_shift/hiddenshift/coder/Base64Run" "closedByDashOnly" "Z" (.int (1 : Int32)) ∧ Fld Z h o1 "com/example/hidden_shift/hiddenshift/coder/Base64Run" "digitAdded" "Z" (.int (0 : Int32)) ∧ Fld Z h o1 "com/example/hidden_shift/hiddenshift/coder/Base64Run" "digitBroke" "Z" (.int (0 : Int32)) ∧ Fld Z h o1 "com/example/hidden_shift/hiddenshift/coder/Base64Run" "highSurrogate" "C" (.int (0 : Int32)) ∧ Fld Z h o1 "com/example/hidden_shift/hiddenshift/coder/Base64Run" "open" "Z" (.int (0 : Int32)) ∧ Fld Z h o1 "com/example/hidden_shift/hiddenshift/coder/Base64Run" "runsMayAdjoin" "Z" (.int (0 : Int32)) ∧ Fld Z h o1 "com/example/hidden_shift/hiddenshift/coder/Base64Run" "shift" "B" (.int (38 : Int32))) := by
  refine OMeets.of pn_mm1_0 #[] (fun m => by first | rfl | (simp [entryFrame, mkF, argsToLocals, Value.category, maxLocals]; done)) ?_
  intro p e s m below meth c s₁ B X0 e0
  have F0 := OwnF.ext O0.2 FZ
  obtain ⟨S_Base64Alphabet_IMAP, E_Base64Alphabet_IMAP, S_DirectCharacters_IMAP, E_DirectCharacters_IMAP, S_UTF7, E_UTF7, F_Base64Alphabet_IMAP_ordinal, F_UTF7_ordinal, S_IMAP_VALUES, G_IMAP_VALUES⟩ := id F0
  refine s_new B X0 (pc' := 3) (n0 := 11) e0 (tw4 hw) (tw5 hw) (tw2 hw) (by decide) (by decide) d1_0 rfl (fun T1 h1 o1 g1 X1 e1 E1 A1 D1 => ?_)
  have ge_o1 : Z.heap.size ≤ o1 := g1 ▸ old_le O0
  have le_o1 : h0.size ≤ o1 := g1 ▸ ((Keep.refl h0 [])).1
  have O1 := (O0).ext E1
  have F1 := OwnF.ext O1.2 FZ
  have K1 := ((Keep.refl h0 [])).ext E1
  have D1_alphabet : Fld Z h1 o1 "com/example/hidden_shift/hiddenshift/coder/Base64Run" "alphabet" "Lcom/example/hidden_shift/hiddenshift/table/Base64Alphabet;" .null := D1 (Or.inr (tw19 hw)) (ty := (.object "com/example/hidden_shift/hiddenshift/table/Base64Alphabet")) (by decide)
  have D1_barredUnits : Fld Z h1 o1 "com/example/hidden_shift/hiddenshift/coder/Base64Run" "barredUnits" "Lcom/example/hidden_shift/hiddenshift/table/DirectCharacters;" .null := D1 (Or.inr (tw21 hw)) (ty := (.object "com/example/hidden_shift/hiddenshift/table/DirectCharacters")) (by decide)
  have D1_closedByDashOnly : Fld Z h1 o1 "com/example/hidden_shift/hiddenshift/coder/Base64Run" "closedByDashOnly" "Z" (.int (0 : Int32)) := D1 (Or.inr (tw23 hw)) (ty := .boolean) (by decide)
  have D1_shift : Fld Z h1 o1 "com/example/hidden_shift/hiddenshift/coder/Base64Run" "shift" "B" (.int (0 : Int32)) := D1 (Or.inr (tw25 hw)) (ty := .byte) (by decide)
  have D1_runsMayAdjoin : Fld Z h1 o1 "com/example/hidden_shift/hiddenshift/coder/Base64Run" "runsMayAdjoin" "Z" (.int (0 : Int32)) := D1 (Or.inr (tw27 hw)) (ty := .boolean) (by decide)
  have D1_open : Fld Z h1 o1 "com/example/hidden_shift/hiddenshift/coder/Base64Run" "open" "Z" (.int (0 : Int32)) := D1 (Or.inl (tw34 hw)) (ty := .boolean) (by decide)
  have D1_bits : Fld Z h1 o1 "com/example/hidden_shift/hiddenshift/coder/Base64Run" "bits" "I" (.int (0 : Int32)) := D1 (Or.inl (tw46 hw)) (ty := .int) (by decide)
  have D1_bitCount : Fld Z h1 o1 "com/example/hidden_shift/hiddenshift/coder/Base64Run" "bitCount" "I" (.int (0 : Int32)) := D1 (Or.inl (tw48 hw)) (ty := .int) (by decide)
  have D1_highSurrogate : Fld Z h1 o1 "com/example/hidden_shift/hiddenshift/coder/Base64Run" "highSurrogate" "C" (.int (0 : Int32)) := D1 (Or.inl (tw53 hw)) (ty := .char) (by decide)
  have D1_digitAdded : Fld Z h1 o1 "com/example/hidden_shift/hiddenshift/coder/Base64Run" "digitAdded" "Z" (.int (0 : Int32)) := D1 (Or.inl (tw89 hw)) (ty := .boolean) (by decide)
  have D1_digitBroke : Fld Z h1 o1 "com/example/hidden_shift/hiddenshift/coder/Base64Run" "digitBroke" "Z" (.int (0 : Int32)) := D1 (Or.inl (tw91 hw)) (ty := .boolean) (by decide)
  show Go p e below _ (T1.setTop (mkF m 3 #[] [(.ref o1)]))
  refine s_dup B X1 (pc' := 4) d1_3 rfl rfl ?_
  obtain ⟨S_Base64Alphabet_IMAP, E_Base64Alphabet_IMAP, S_DirectCharacters_IMAP, E_DirectCharacters_IMAP, S_UTF7, E_UTF7, F_Base64Alphabet_IMAP_ordinal, F_UTF7_ordinal, S_IMAP_VALUES, G_IMAP_VALUES⟩ := id F1
  refine s_getS B X1 (pc' := 7) e1 (tw6 hw) Via.refl S_Base64Alphabet_IMAP d1_4 rfl (fun T2 X2 e2 => ?_)
  refine s_getS B X2 (pc' := 10) e2 (tw9 hw) Via.refl S_DirectCharacters_IMAP d1_7 rfl (fun T3 X3 e3 => ?_)
  refine s_iconst B X3 (pc' := 11) (v := (1 : Int32)) d1_10 rfl rfl ?_
  refine s_bipush B X3 (pc' := 13) (v := (38 : Int32)) d1_11 rfl rfl ?_
  refine s_iconst B X3 (pc' := 14) (v := (0 : Int32)) d1_13 rfl rfl ?_
  refine c_init B X3 (y := mn3) (pc' := 17) (argsL := [(.ref w_Base64Alphabet_IMAP), (.ref w_DirectCharacters_IMAP), (.int (1 : Int32)), (.int (38 : Int32)), (.int (0 : Int32))]) (under := [(.ref o1)]) (W := 1) e3 rfl (tw12 hw) (tw13 hw) (tw14 hw) (tw2 hw) (by decide) (mm2_0 l Z a0 hw o1 w_Base64Alphabet_IMAP w_DirectCharacters_IMAP w_UTF7 w_IMAP_VALUES h1 FZ O1 ge_o1 A1 D1_alphabet D1_barredUnits D1_bitCount D1_bits D1_closedByDashOnly D1_digitAdded D1_digitBroke D1_highSurrogate D1_open D1_runsMayAdjoin D1_shift ) (lenOf pd_1 rfl) rfl rfl (by decide) (by decide) (by decide) (by decide) rfl d1_14 rfl (fun v4 T4 L4 X4 hQ4 => ?_)
  obtain ⟨rfl, Nq4, Kq4, u4_0, u4_1, u4_2, u4_3, u4_4, u4_5, u4_6, u4_7, u4_8, u4_9, u4_10⟩ := hQ4
  obtain ⟨h4, e4⟩ : ∃ z, T4.heap = z := ⟨_, rfl⟩
  rw [e4] at Kq4 u4_0 u4_1 u4_2 u4_3 u4_4 u4_5 u4_6 u4_7 u4_8 u4_9 u4_10
  have N4 := Fr.app (Fr.nil _) Nq4
  have O4 := (O1).keep Kq4 (allS ge_o1 all0)
  have F4 := OwnF.ext O4.2 FZ
  have K4 := (K1).trans Kq4 (allS (Or.inr le_o1) all0)
  show Go p e below _ (T4.setTop (mkF m 17 #[] [(.ref o1)]))
  have f5 := (A1.keep Kq4)
  exact r_ref B X4 (t := (.object "com/example/hidden_shift/hiddenshift/coder/Base64Run")) rfl rfl rfl rfl d1_17 (by rw [e4]; exact ⟨o1, rfl, N4, K4, le_o1, f5, u4_0, u4_1, u4_2, u4_3, u4_4, u4_5, u4_6, u4_7, u4_8, u4_9, u4_10⟩) (by decide) (by decide)
theorem d4_0 : decode prog_14_method_4_code 0 = .ok (.aload_n 0, 1) := by decide +kernel
theorem d4_1 : decode prog_14_method_4_code 1 = .ok (.getfield 43, 3) := by decide +kernel
theorem d4_4 : decode prog_14_method_4_code 4 = .ok (.ireturn, 1) := by decide +kernel
theorem pn_mm4_2 : plainName "com/example/hidden_shift/hiddenshift/coder/Base64Run" = true := by first | (simp [plainName, overriddenIn]; done) | decide +kernel
set_option maxRecDepth 65536 in
set_option maxHeartbeats 40000000 in
theorem mm4_2 (l : Launch) (Z : State) (a0 : Array Value) (hw : ∀ d ∈ tables_1, d.before a0 Z = true) (b0 : Addr) (w_Base64Alphabet_IMAP w_DirectCharacters_IMAP w_UTF7 w_IMAP_VALUES : Addr) (h0 : Heap) (FZ : OwnF Z Z.heap w_Base64Alphabet_IMAP w_DirectCharacters_IMAP w_UTF7 w_IMAP_VALUES) (O0 : Old Z Z.heap.size h0) (ge_b0 : Z.heap.size ≤ b0) (E_b0 : Exa Z h0 b0 "com/example/hidden_shift/hiddenshift/coder/Base64Run") (D_b0_alphabet : Fld Z h0 b0 "com/example/hidden_shift/hiddenshift/coder/Base64Run" "alphabet" "Lcom/example/hidden_shift/hiddenshift/table/Base64Alphabet;" (.ref w_Base64Alphabet_IMAP)) (D_b0_barredUnits : Fld Z h0 b0 "com/example/hidden_shift/hiddenshift/coder/Base64Run" "barredUnits" "Lcom/example/hidden_shift/hiddenshift/table/DirectCharacters;" (.ref w_DirectCharacters_IMAP)) (D_b0_bitCount : Fld Z h0 b0 "com/example/hidden_shift/hiddenshift/coder/Base64Run" "bitCount" "I" (.int (0 : Int32))) (D_b0_bits : Fld Z h0 b0 "com/example/hidden_shift/hiddenshift/coder/Base64Run" "bits" "I" (.int (0 : Int32))) (D_b0_closedByDashOnly : Fld Z h0 b0 "com/example/hidden_shift/hiddenshift/coder/Base64Run" "closedByDashOnly" "Z" (.int (1 : Int32))) (D_b0_digitAdded : Fld Z h0 b0 "com/example/hidden_shift/hiddenshift/coder/Base64Run" "digitAdded" "Z" (.int (0 : Int32))) (D_b0_digitBroke : Fld Z h0 b0 "com/example/hidden_shift/hiddenshift/coder/Base64Run" "digitBroke" "Z" (.int (0 : Int32))) (D_b0_highSurrogate : Fld Z h0 b0 "com/example/hidden_shift/hiddenshift/coder/Base64Run" "highSurrogate" "C" (.int (0 : Int32))) (D_b0_open : Fld Z h0 b0 "com/example/hidden_shift/hiddenshift/coder/Base64Run" "open" "Z" (.int (0 : Int32))) (D_b0_runsMayAdjoin : Fld Z h0 b0 "com/example/hidden_shift/hiddenshift/coder/Base64Run" "runsMayAdjoin" "Z" (.int (0 : Int32))) (D_b0_shift : Fld Z h0 b0 "com/example/hidden_shift/hiddenshift/coder/Base64Run" "shift" "B" (.int (38 : Int32)))  :
    OMeets l Z mn5 prog_14_method_4_code 1 (some .boolean) [] ({ frames := 0, cells := 0, slots := 0, locals := 0 } : Room) #[(.ref b0)] h0 (PureQ (some (.int (0 : Int32))) h0) := by
  refine OMeets.of pn_mm4_2 #[.val (.ref b0)] (fun m => by first | rfl | (simp [entryFrame, mkF, argsToLocals, Value.category, maxLocals]; done)) ?_
  intro p e s m below meth c s₁ B X0 e0
  have F0 := OwnF.ext O0.2 FZ
  obtain ⟨S_Base64Alphabet_IMAP, E_Base64Alphabet_IMAP, S_DirectCharacters_IMAP, E_DirectCharacters_IMAP, S_UTF7, E_UTF7, F_Base64Alphabet_IMAP_ordinal, F_UTF7_ordinal, S_IMAP_VALUES, G_IMAP_VALUES⟩ := id F0
  refine s_aloadN B X0 (pc' := 1) d4_0 rfl rfl rfl ?_
  refine s_getF B X0 (pc' := 4) e0 (host := "") (Or.inl (tw33 hw)) Via.refl D_b0_open d4_1 rfl (fun T1 X1 e1 => ?_)
  exact r_nar B X1 (t := .boolean) (by simp) rfl d4_4 ⟨rfl, rfl, e1⟩ (by decide) (by decide)
theorem d7_0 : decode prog_14_method_17_code 0 = .ok (.iload_n 1, 1) := by decide +kernel
theorem d7_1 : decode prog_14_method_17_code 1 = .ok (.bipush 6, 2) := by decide +kernel
theorem d7_3 : decode prog_14_method_17_code 3 = .ok (.if_icmp .ge 17, 3) := by decide +kernel
theorem d7_6 : decode prog_14_method_17_code 6 = .ok (.iload_n 0, 1) := by decide +kernel
theorem d7_7 : decode prog_14_method_17_code 7 = .ok (.iconst 1, 1) := by decide +kernel
theorem d7_8 : decode prog_14_method_17_code 8 = .ok (.iload_n 1, 1) := by decide +kernel
theorem d7_9 : decode prog_14_method_17_code 9 = .ok (.ishl, 1) := by decide +kernel
theorem d7_10 : decode prog_14_method_17_code 10 = .ok (.iconst 1, 1) := by decide +kernel
theorem d7_11 : decode prog_14_method_17_code 11 = .ok (.isub, 1) := by decide +kernel
theorem d7_12 : decode prog_14_method_17_code 12 = .ok (.iand, 1) := by decide +kernel
theorem d7_13 : decode prog_14_method_17_code 13 = .ok (.ifCond .ne 7, 3) := by decide +kernel
theorem d7_16 : decode prog_14_method_17_code 16 = .ok (.iconst 1, 1) := by decide +kernel
theorem d7_17 : decode prog_14_method_17_code 17 = .ok (.goto 4, 3) := by decide +kernel
theorem d7_21 : decode prog_14_method_17_code 21 = .ok (.ireturn, 1) := by decide +kernel
theorem pn_rm7_0 : plainName "com/example/hidden_shift/hiddenshift/coder/Base64Run" = true := by first | (simp [plainName, overriddenIn]; done) | decide +kernel
set_option maxRecDepth 65536 in
set_option maxHeartbeats 40000000 in
theorem rm7_0 (l : Launch) (Z : State) (a0 : Array Value) (hw : ∀ d ∈ tables_1, d.before a0 Z = true)  (w_Base64Alphabet_IMAP w_DirectCharacters_IMAP w_UTF7 w_IMAP_VALUES : Addr) (h0 : Heap) (F0 : OwnF Z h0 w_Base64Alphabet_IMAP w_DirectCharacters_IMAP w_UTF7 w_IMAP_VALUES)  :
    OMeets l Z mn6 prog_14_method_17_code 2 (some .boolean) [] ({ frames := 0, cells := 0, slots := 0, locals := 0 } : Room) #[(.int (0 : Int32)), (.int (0 : Int32))] h0 (PureQ (some (.int (1 : Int32))) h0) := by
  refine OMeets.of pn_rm7_0 #[.val (.int (0 : Int32)), .val (.int (0 : Int32))] (fun m => by first | rfl | (simp [entryFrame, mkF, argsToLocals, Value.category, maxLocals]; done)) ?_
  intro p e s m below meth c s₁ B X0 e0
  have F := F0
  obtain ⟨S_Base64Alphabet_IMAP, E_Base64Alphabet_IMAP, S_DirectCharacters_IMAP, E_DirectCharacters_IMAP, S_UTF7, E_UTF7, F_Base64Alphabet_IMAP_ordinal, F_UTF7_ordinal, S_IMAP_VALUES, G_IMAP_VALUES⟩ := F
  refine s_iloadN B X0 (pc' := 1) d7_0 rfl rfl ?_
  refine s_bipush B X0 (pc' := 3) (v := (6 : Int32)) d7_1 rfl rfl ?_
  refine s_icmpN B X0 (pc' := 6) d7_3 (by decide) rfl ?_
  refine s_iloadN B X0 (pc' := 7) d7_6 rfl rfl ?_
  refine s_iconst B X0 (pc' := 8) (v := (1 : Int32)) d7_7 rfl rfl ?_
  refine s_iloadN B X0 (pc' := 9) d7_8 rfl rfl ?_
  refine s_ishl B X0 (pc' := 10) (v := (1 : Int32)) d7_9 (by decide +kernel) rfl ?_
  refine s_iconst B X0 (pc' := 11) (v := (1 : Int32)) d7_10 rfl rfl ?_
  refine s_isub B X0 (pc' := 12) (v := (0 : Int32)) d7_11 rfl rfl ?_
  refine s_iand B X0 (pc' := 13) (v := (0 : Int32)) d7_12 rfl rfl ?_
  refine s_ifN B X0 (pc' := 16) d7_13 (by decide) rfl ?_
  refine s_iconst B X0 (pc' := 17) (v := (1 : Int32)) d7_16 rfl rfl ?_
  refine s_goto B X0 (pc' := 21) d7_17 (by decide) (by decide) ?_
  exact r_nar B X0 (t := .boolean) (by simp) rfl d7_21 ⟨rfl, rfl, e0⟩ (by decide) (by decide)
theorem d6_0 : decode prog_14_method_16_code 0 = .ok (.aload_n 0, 1) := by decide +kernel
theorem d6_1 : decode prog_14_method_16_code 1 = .ok (.getfield 46, 3) := by decide +kernel
theorem d6_4 : decode prog_14_method_16_code 4 = .ok (.aload_n 0, 1) := by decide +kernel
theorem d6_5 : decode prog_14_method_16_code 5 = .ok (.getfield 50, 3) := by decide +kernel
theorem d6_8 : decode prog_14_method_16_code 8 = .ok (.invokestatic 164, 3) := by decide +kernel
theorem d6_11 : decode prog_14_method_16_code 11 = .ok (.ireturn, 1) := by decide +kernel
theorem pn_mm6_3 : plainName "com/example/hidden_shift/hiddenshift/coder/Base64Run" = true := by first | (simp [plainName, overriddenIn]; done) | decide +kernel
set_option maxRecDepth 65536 in
set_option maxHeartbeats 40000000 in
theorem mm6_3 (l : Launch) (Z : State) (a0 : Array Value) (hw : ∀ d ∈ tables_1, d.before a0 Z = true) (b0 : Addr) (w_Base64Alphabet_IMAP w_DirectCharacters_IMAP w_UTF7 w_IMAP_VALUES : Addr) (h0 : Heap) (FZ : OwnF Z Z.heap w_Base64Alphabet_IMAP w_DirectCharacters_IMAP w_UTF7 w_IMAP_VALUES) (O0 : Old Z Z.heap.size h0) (ge_b0 : Z.heap.size ≤ b0) (E_b0 : Exa Z h0 b0 "com/example/hidden_shift/hiddenshift/coder/Base64Run") (D_b0_alphabet : Fld Z h0 b0 "com/example/hidden_shift/hiddenshift/coder/Base64Run" "alphabet" "Lcom/example/hidden_shift/hiddenshift/table/Base64Alphabet;" (.ref w_Base64Alphabet_IMAP)) (D_b0_barredUnits : Fld Z h0 b0 "com/example/hidden_shift/hiddenshift/coder/Base64Run" "barredUnits" "Lcom/example/hidden_shift/hiddenshift/table/DirectCharacters;" (.ref w_DirectCharacters_IMAP)) (D_b0_bitCount : Fld Z h0 b0 "com/example/hidden_shift/hiddenshift/coder/Base64Run" "bitCount" "I" (.int (0 : Int32))) (D_b0_bits : Fld Z h0 b0 "com/example/hidden_shift/hiddenshift/coder/Base64Run" "bits" "I" (.int (0 : Int32))) (D_b0_closedByDashOnly : Fld Z h0 b0 "com/example/hidden_shift/hiddenshift/coder/Base64Run" "closedByDashOnly" "Z" (.int (1 : Int32))) (D_b0_digitAdded : Fld Z h0 b0 "com/example/hidden_shift/hiddenshift/coder/Base64Run" "digitAdded" "Z" (.int (0 : Int32))) (D_b0_digitBroke : Fld Z h0 b0 "com/example/hidden_shift/hiddenshift/coder/Base64Run" "digitBroke" "Z" (.int (0 : Int32))) (D_b0_highSurrogate : Fld Z h0 b0 "com/example/hidden_shift/hiddenshift/coder/Base64Run" "highSurrogate" "C" (.int (0 : Int32))) (D_b0_open : Fld Z h0 b0 "com/example/hidden_shift/hiddenshift/coder/Base64Run" "open" "Z" (.int (0 : Int32))) (D_b0_runsMayAdjoin : Fld Z h0 b0 "com/example/hidden_shift/hiddenshift/coder/Base64Run" "runsMayAdjoin" "Z" (.int (0 : Int32))) (D_b0_shift : Fld Z h0 b0 "com/example/hidden_shift/hiddenshift/coder/Base64Run" "shift" "B" (.int (38 : Int32)))  :
    OMeets l Z mn7 prog_14_method_16_code 1 (some .boolean) [] ({ frames := 1, cells := 0, slots := 0, locals := 13 } : Room) #[(.ref b0)] h0 (PureQ (some (.int (1 : Int32))) h0) := by
  refine OMeets.of pn_mm6_3 #[.val (.ref b0)] (fun m => by first | rfl | (simp [entryFrame, mkF, argsToLocals, Value.category, maxLocals]; done)) ?_
  intro p e s m below meth c s₁ B X0 e0
  have F0 := OwnF.ext O0.2 FZ
  obtain ⟨S_Base64Alphabet_IMAP, E_Base64Alphabet_IMAP, S_DirectCharacters_IMAP, E_DirectCharacters_IMAP, S_UTF7, E_UTF7, F_Base64Alphabet_IMAP_ordinal, F_UTF7_ordinal, S_IMAP_VALUES, G_IMAP_VALUES⟩ := id F0
  refine s_aloadN B X0 (pc' := 1) d6_0 rfl rfl rfl ?_
  refine s_getF B X0 (pc' := 4) e0 (host := "") (Or.inl (tw45 hw)) Via.refl D_b0_bits d6_1 rfl (fun T1 X1 e1 => ?_)
  refine s_aloadN B X1 (pc' := 5) d6_4 rfl rfl rfl ?_
  refine s_getF B X1 (pc' := 8) e1 (host := "") (Or.inl (tw47 hw)) Via.refl D_b0_bitCount d6_5 rfl (fun T2 X2 e2 => ?_)
  refine p_static B X2 (y := mn6) (pc' := 11) (argsL := [(.int (0 : Int32)), (.int (0 : Int32))]) (under := []) (W := 0) e2 (tw49 hw) (tw50 hw) (tw51 hw) (tw2 hw) (by decide) (rm7_0 l Z a0 hw  w_Base64Alphabet_IMAP w_DirectCharacters_IMAP w_UTF7 w_IMAP_VALUES h0 F0 ) (lenOf pd_4 rfl) rfl rfl (by decide) (by decide) rfl rfl (by decide) (by decide) rfl d6_8 rfl (fun T3 X3 e3 => ?_)
  show Go p e below _ (T3.setTop (mkF m 11 #[.val (.ref b0)] [(.int (1 : Int32))]))
  exact r_nar B X3 (t := .boolean) (by simp) rfl d6_11 ⟨rfl, rfl, e3⟩ (by decide) (by decide)
theorem d5_0 : decode prog_14_method_15_code 0 = .ok (.aload_n 0, 1) := by decide +kernel
theorem d5_1 : decode prog_14_method_15_code 1 = .ok (.invokevirtual 177, 3) := by decide +kernel
theorem d5_4 : decode prog_14_method_15_code 4 = .ok (.ifCond .eq 14, 3) := by decide +kernel
theorem d5_7 : decode prog_14_method_15_code 7 = .ok (.aload_n 0, 1) := by decide +kernel
theorem d5_8 : decode prog_14_method_15_code 8 = .ok (.getfield 53, 3) := by decide +kernel
theorem d5_11 : decode prog_14_method_15_code 11 = .ok (.ifCond .ne 7, 3) := by decide +kernel
theorem d5_14 : decode prog_14_method_15_code 14 = .ok (.iconst 1, 1) := by decide +kernel
theorem d5_15 : decode prog_14_method_15_code 15 = .ok (.goto 4, 3) := by decide +kernel
theorem d5_19 : decode prog_14_method_15_code 19 = .ok (.ireturn, 1) := by decide +kernel
theorem pn_mm5_3 : plainName "com/example/hidden_shift/hiddenshift/coder/Base64Run" = true := by first | (simp [plainName, overriddenIn]; done) | decide +kernel
set_option maxRecDepth 65536 in
set_option maxHeartbeats 40000000 in
theorem mm5_3 (l : Launch) (Z : State) (a0 : Array Value) (hw : ∀ d ∈ tables_1, d.before a0 Z = true) (b0 : Addr) (w_Base64Alphabet_IMAP w_DirectCharacters_IMAP w_UTF7 w_IMAP_VALUES : Addr) (h0 : Heap) (FZ : OwnF Z Z.heap w_Base64Alphabet_IMAP w_DirectCharacters_IMAP w_UTF7 w_IMAP_VALUES) (O0 : Old Z Z.heap.size h0) (ge_b0 : Z.heap.size ≤ b0) (E_b0 : Exa Z h0 b0 "com/example/hidden_shift/hiddenshift/coder/Base64Run") (D_b0_alphabet : Fld Z h0 b0 "com/example/hidden_shift/hiddenshift/coder/Base64Run" "alphabet" "Lcom/example/hidden_shift/hiddenshift/table/Base64Alphabet;" (.ref w_Base64Alphabet_IMAP)) (D_b0_barredUnits : Fld Z h0 b0 "com/example/hidden_shift/hiddenshift/coder/Base64Run" "barredUnits" "Lcom/example/hidden_shift/hiddenshift/table/DirectCharacters;" (.ref w_DirectCharacters_IMAP)) (D_b0_bitCount : Fld Z h0 b0 "com/example/hidden_shift/hiddenshift/coder/Base64Run" "bitCount" "I" (.int (0 : Int32))) (D_b0_bits : Fld Z h0 b0 "com/example/hidden_shift/hiddenshift/coder/Base64Run" "bits" "I" (.int (0 : Int32))) (D_b0_closedByDashOnly : Fld Z h0 b0 "com/example/hidden_shift/hiddenshift/coder/Base64Run" "closedByDashOnly" "Z" (.int (1 : Int32))) (D_b0_digitAdded : Fld Z h0 b0 "com/example/hidden_shift/hiddenshift/coder/Base64Run" "digitAdded" "Z" (.int (0 : Int32))) (D_b0_digitBroke : Fld Z h0 b0 "com/example/hidden_shift/hiddenshift/coder/Base64Run" "digitBroke" "Z" (.int (0 : Int32))) (D_b0_highSurrogate : Fld Z h0 b0 "com/example/hidden_shift/hiddenshift/coder/Base64Run" "highSurrogate" "C" (.int (0 : Int32))) (D_b0_open : Fld Z h0 b0 "com/example/hidden_shift/hiddenshift/coder/Base64Run" "open" "Z" (.int (0 : Int32))) (D_b0_runsMayAdjoin : Fld Z h0 b0 "com/example/hidden_shift/hiddenshift/coder/Base64Run" "runsMayAdjoin" "Z" (.int (0 : Int32))) (D_b0_shift : Fld Z h0 b0 "com/example/hidden_shift/hiddenshift/coder/Base64Run" "shift" "B" (.int (38 : Int32)))  :
    OMeets l Z mn8 prog_14_method_15_code 1 (some .boolean) [] ({ frames := 2, cells := 0, slots := 0, locals := 25 } : Room) #[(.ref b0)] h0 (PureQ (some (.int (1 : Int32))) h0) := by
  refine OMeets.of pn_mm5_3 #[.val (.ref b0)] (fun m => by first | rfl | (simp [entryFrame, mkF, argsToLocals, Value.category, maxLocals]; done)) ?_
  intro p e s m below meth c s₁ B X0 e0
  have F0 := OwnF.ext O0.2 FZ
  obtain ⟨S_Base64Alphabet_IMAP, E_Base64Alphabet_IMAP, S_DirectCharacters_IMAP, E_DirectCharacters_IMAP, S_UTF7, E_UTF7, F_Base64Alphabet_IMAP_ordinal, F_UTF7_ordinal, S_IMAP_VALUES, G_IMAP_VALUES⟩ := id F0
  refine s_aloadN B X0 (pc' := 1) d5_0 rfl rfl rfl ?_
  refine p_virtual B X0 (y := mn7) (pc' := 4) (argsL := []) (under := []) (W := 0) e0 (tw40 hw) (tw41 hw) (tw43 hw) (tw42 hw) (tw44 hw) (tw2 hw) (by decide) (mm6_3 l Z a0 hw b0 w_Base64Alphabet_IMAP w_DirectCharacters_IMAP w_UTF7 w_IMAP_VALUES h0 FZ O0 ge_b0 E_b0 D_b0_alphabet D_b0_barredUnits D_b0_bitCount D_b0_bits D_b0_closedByDashOnly D_b0_digitAdded D_b0_digitBroke D_b0_highSurrogate D_b0_open D_b0_runsMayAdjoin D_b0_shift ) E_b0 (lenOf pd_3 rfl) rfl rfl (by decide) (by decide) rfl rfl (by decide) (by decide) rfl d5_1 rfl (fun T1 X1 e1 => ?_)
  show Go p e below _ (T1.setTop (mkF m 4 #[.val (.ref b0)] [(.int (1 : Int32))]))
  refine s_ifN B X1 (pc' := 7) d5_4 (by decide) rfl ?_
  refine s_aloadN B X1 (pc' := 8) d5_7 rfl rfl rfl ?_
  refine s_getF B X1 (pc' := 11) e1 (host := "") (Or.inl (tw52 hw)) Via.refl D_b0_highSurrogate d5_8 rfl (fun T2 X2 e2 => ?_)
  refine s_ifN B X2 (pc' := 14) d5_11 (by decide) rfl ?_
  refine s_iconst B X2 (pc' := 15) (v := (1 : Int32)) d5_14 rfl rfl ?_
  refine s_goto B X2 (pc' := 19) d5_15 (by decide) (by decide) ?_
  exact r_nar B X2 (t := .boolean) (by simp) rfl d5_19 ⟨rfl, rfl, e2⟩ (by decide) (by decide)
theorem d8_0 : decode prog_14_method_18_code 0 = .ok (.aload_n 0, 1) := by decide +kernel
theorem d8_1 : decode prog_14_method_18_code 1 = .ok (.getfield 53, 3) := by decide +kernel
theorem d8_4 : decode prog_14_method_18_code 4 = .ok (.ifCond .eq 7, 3) := by decide +kernel
theorem d8_11 : decode prog_14_method_18_code 11 = .ok (.iconst 0, 1) := by decide +kernel
theorem d8_12 : decode prog_14_method_18_code 12 = .ok (.ireturn, 1) := by decide +kernel
theorem pn_mm8_5 : plainName "com/example/hidden_shift/hiddenshift/coder/Base64Run" = true := by first | (simp [plainName, overriddenIn]; done) | decide +kernel
set_option maxRecDepth 65536 in
set_option maxHeartbeats 40000000 in
theorem mm8_5 (l : Launch) (Z : State) (a0 : Array Value) (hw : ∀ d ∈ tables_1, d.before a0 Z = true) (b0 : Addr) (w_Base64Alphabet_IMAP w_DirectCharacters_IMAP w_UTF7 w_IMAP_VALUES : Addr) (h0 : Heap) (FZ : OwnF Z Z.heap w_Base64Alphabet_IMAP w_DirectCharacters_IMAP w_UTF7 w_IMAP_VALUES) (O0 : Old Z Z.heap.size h0) (ge_b0 : Z.heap.size ≤ b0) (E_b0 : Exa Z h0 b0 "com/example/hidden_shift/hiddenshift/coder/Base64Run") (D_b0_alphabet : Fld Z h0 b0 "com/example/hidden_shift/hiddenshift/coder/Base64Run" "alphabet" "Lcom/example/hidden_shift/hiddenshift/table/Base64Alphabet;" (.ref w_Base64Alphabet_IMAP)) (D_b0_barredUnits : Fld Z h0 b0 "com/example/hidden_shift/hiddenshift/coder/Base64Run" "barredUnits" "Lcom/example/hidden_shift/hiddenshift/table/DirectCharacters;" (.ref w_DirectCharacters_IMAP)) (D_b0_bitCount : Fld Z h0 b0 "com/example/hidden_shift/hiddenshift/coder/Base64Run" "bitCount" "I" (.int (0 : Int32))) (D_b0_bits : Fld Z h0 b0 "com/example/hidden_shift/hiddenshift/coder/Base64Run" "bits" "I" (.int (0 : Int32))) (D_b0_closedByDashOnly : Fld Z h0 b0 "com/example/hidden_shift/hiddenshift/coder/Base64Run" "closedByDashOnly" "Z" (.int (1 : Int32))) (D_b0_digitAdded : Fld Z h0 b0 "com/example/hidden_shift/hiddenshift/coder/Base64Run" "digitAdded" "Z" (.int (0 : Int32))) (D_b0_digitBroke : Fld Z h0 b0 "com/example/hidden_shift/hiddenshift/coder/Base64Run" "digitBroke" "Z" (.int (0 : Int32))) (D_b0_highSurrogate : Fld Z h0 b0 "com/example/hidden_shift/hiddenshift/coder/Base64Run" "highSurrogate" "C" (.int (0 : Int32))) (D_b0_open : Fld Z h0 b0 "com/example/hidden_shift/hiddenshift/coder/Base64Run" "open" "Z" (.int (0 : Int32))) (D_b0_runsMayAdjoin : Fld Z h0 b0 "com/example/hidden_shift/hiddenshift/coder/Base64Run" "runsMayAdjoin" "Z" (.int (0 : Int32))) (D_b0_shift : Fld Z h0 b0 "com/example/hidden_shift/hiddenshift/coder/Base64Run" "shift" "B" (.int (38 : Int32)))  :
    OMeets l Z mn9 prog_14_method_18_code 1 (some .boolean) [] ({ frames := 0, cells := 0, slots := 0, locals := 0 } : Room) #[(.ref b0)] h0 (PureQ (some (.int (0 : Int32))) h0) := by
  refine OMeets.of pn_mm8_5 #[.val (.ref b0)] (fun m => by first | rfl | (simp [entryFrame, mkF, argsToLocals, Value.category, maxLocals]; done)) ?_
  intro p e s m below meth c s₁ B X0 e0
  have F0 := OwnF.ext O0.2 FZ
  obtain ⟨S_Base64Alphabet_IMAP, E_Base64Alphabet_IMAP, S_DirectCharacters_IMAP, E_DirectCharacters_IMAP, S_UTF7, E_UTF7, F_Base64Alphabet_IMAP_ordinal, F_UTF7_ordinal, S_IMAP_VALUES, G_IMAP_VALUES⟩ := id F0
  refine s_aloadN B X0 (pc' := 1) d8_0 rfl rfl rfl ?_
  refine s_getF B X0 (pc' := 4) e0 (host := "") (Or.inl (tw52 hw)) Via.refl D_b0_highSurrogate d8_1 rfl (fun T1 X1 e1 => ?_)
  refine s_ifY B X1 (pc' := 11) d8_4 (by decide) (by decide) (by decide) ?_
  refine s_iconst B X1 (pc' := 12) (v := (0 : Int32)) d8_11 rfl rfl ?_
  exact r_nar B X1 (t := .boolean) (by simp) rfl d8_12 ⟨rfl, rfl, e1⟩ (by decide) (by decide)
theorem d12_0 : decode prog_14_method_5_code 0 = .ok (.aload_n 0, 1) := by decide +kernel
theorem d12_1 : decode prog_14_method_5_code 1 = .ok (.iconst 1, 1) := by decide +kernel
theorem d12_2 : decode prog_14_method_5_code 2 = .ok (.putfield 43, 3) := by decide +kernel
theorem d12_5 : decode prog_14_method_5_code 5 = .ok (.return_, 1) := by decide +kernel
theorem pn_mm12_6 : plainName "com/example/hidden_shift/hiddenshift/coder/Base64Run" = true := by first | (simp [plainName, overriddenIn]; done) | decide +kernel
set_option maxRecDepth 65536 in
set_option maxHeartbeats 40000000 in
theorem mm12_6 (l : Launch) (Z : State) (a0 : Array Value) (hw : ∀ d ∈ tables_1, d.before a0 Z = true) (b0 : Addr) (w_Base64Alphabet_IMAP w_DirectCharacters_IMAP w_UTF7 w_IMAP_VALUES : Addr) (h0 : Heap) (FZ : OwnF Z Z.heap w_Base64Alphabet_IMAP w_DirectCharacters_IMAP w_UTF7 w_IMAP_VALUES) (O0 : Old Z Z.heap.size h0) (ge_b0 : Z.heap.size ≤ b0) (E_b0 : Exa Z h0 b0 "com/example/hidden_shift/hiddenshift/coder/Base64Run") (D_b0_alphabet : Fld Z h0 b0 "com/example/hidden_shift/hiddenshift/coder/Base64Run" "alphabet" "Lcom/example/hidden_shift/hiddenshift/table/Base64Alphabet;" (.ref w_Base64Alphabet_IMAP)) (D_b0_barredUnits : Fld Z h0 b0 "com/example/hidden_shift/hiddenshift/coder/Base64Run" "barredUnits" "Lcom/example/hidden_shift/hiddenshift/table/DirectCharacters;" (.ref w_DirectCharacters_IMAP)) (D_b0_bitCount : Fld Z h0 b0 "com/example/hidden_shift/hiddenshift/coder/Base64Run" "bitCount" "I" (.int (0 : Int32))) (D_b0_bits : Fld Z h0 b0 "com/example/hidden_shift/hiddenshift/coder/Base64Run" "bits" "I" (.int (0 : Int32))) (D_b0_closedByDashOnly : Fld Z h0 b0 "com/example/hidden_shift/hiddenshift/coder/Base64Run" "closedByDashOnly" "Z" (.int (1 : Int32))) (D_b0_digitAdded : Fld Z h0 b0 "com/example/hidden_shift/hiddenshift/coder/Base64Run" "digitAdded" "Z" (.int (0 : Int32))) (D_b0_digitBroke : Fld Z h0 b0 "com/example/hidden_shift/hiddenshift/coder/Base64Run" "digitBroke" "Z" (.int (0 : Int32))) (D_b0_highSurrogate : Fld Z h0 b0 "com/example/hidden_shift/hiddenshift/coder/Base64Run" "highSurrogate" "C" (.int (0 : Int32))) (D_b0_open : Fld Z h0 b0 "com/example/hidden_shift/hiddenshift/coder/Base64Run" "open" "Z" (.int (0 : Int32))) (D_b0_runsMayAdjoin : Fld Z h0 b0 "com/example/hidden_shift/hiddenshift/coder/Base64Run" "runsMayAdjoin" "Z" (.int (0 : Int32))) (D_b0_shift : Fld Z h0 b0 "com/example/hidden_shift/hiddenshift/coder/Base64Run" "shift" "B" (.int (38 : Int32)))  :
    OMeets l Z mn10 prog_14_method_5_code 1 none [] ({ frames := 0, cells := 0, slots := 0, locals := 0 } : Room) #[(.ref b0)] h0 (fun v h L => v = none ∧ Fr Z.heap.size L ∧ Keep h0 h [b0] ∧ Fld Z h b0 "com/example/hidden_shift/hiddenshift/coder/Base64Run" "alphabet" "Lcom/example/hidden_shift/hiddenshift/table/Base64Alphabet;" (.ref w_Base64Alphabet_IMAP) ∧ Fld Z h b0 "com/example/hidden_shift/hiddenshift/coder/Base64Run" "barredUnits" "Lcom/example/hidden_shift/hiddenshift/table/DirectCharacters;" (.ref w_DirectCharacters_IMAP) ∧ Fld Z h b0 "com/example/hidden_shift/hiddenshift/coder/Base64Run" "bitCount" "I" (.int (0 : Int32)) ∧ Fld Z h b0 "com/example/hidden_shift/hiddenshift/coder/Base64Run" "bits" "I" (.int (0 : Int32)) ∧ Fld Z h b0 "com/example/hidden_shift/hiddenshift/coder/Base64Run" "closedByDashOnly" "Z" (.int (1 : Int32)) ∧ Fld Z h b0 "com/example/hidden_shift/hiddenshift/coder/Base64Run" "digitAdded" "Z" (.int (0 : Int32)) ∧ Fld Z h b0 "com/example/hidden_shift/hiddenshift/coder/Base64Run" "digitBroke" "Z" (.int (0 : Int32)) ∧ Fld Z h b0 "com/example/hidden_shift/hiddenshift/coder/Base64Run" "highSurrogate" "C" (.int (0 : Int32)) ∧ Fld Z h b0 "com/example/hidden_shift/hiddenshift/coder/Base64Run" "open" "Z" (.int (1 : Int32)) ∧ Fld Z h b0 "com/example/hidden_shift/hiddenshift/coder/Base64Run" "runsMayAdjoin" "Z" (.int (0 : Int32)) ∧ Fld Z h b0 "com/example/hidden_shift/hiddenshift/coder/Base64Run" "shift" "B" (.int (38 : Int32))) := by
  refine OMeets.of pn_mm12_6 #[.val (.ref b0)] (fun m => by first | rfl | (simp [entryFrame, mkF, argsToLocals, Value.category, maxLocals]; done)) ?_
  intro p e s m below meth c s₁ B X0 e0
  have F0 := OwnF.ext O0.2 FZ
  obtain ⟨S_Base64Alphabet_IMAP, E_Base64Alphabet_IMAP, S_DirectCharacters_IMAP, E_DirectCharacters_IMAP, S_UTF7, E_UTF7, F_Base64Alphabet_IMAP_ordinal, F_UTF7_ordinal, S_IMAP_VALUES, G_IMAP_VALUES⟩ := id F0
  refine s_aloadN B X0 (pc' := 1) d12_0 rfl rfl rfl ?_
  refine s_iconst B X0 (pc' := 2) (v := (1 : Int32)) d12_1 rfl rfl ?_
  refine s_putFN B X0 (pc' := 5) (v' := (.int (1 : Int32))) (ty := .boolean) e0 (tw33 hw) Via.refl D_b0_open E_b0 (Or.inl (tw34 hw)) (tw5 hw) (by decide) rfl rfl d12_2 rfl (fun T1 h1 X1 e1 W1 => ?_)
  have G1 := D_b0_open.same W1
  have N1 := Fr.snoc X1 (Fr.nil _) ge_b0
  have O1 := (O0).wr W1 ge_b0
  have F1 := OwnF.ext O1.2 FZ
  have K1 := ((Keep.refl h0 [b0])).wr W1 (Or.inl (List.mem_of_getElem? (i := 0) rfl))
  show Go p e below _ (T1.setTop (mkF m 5 #[.val (.ref b0)] []))
  have f2 := (D_b0_alphabet.other W1 (Or.inr (slot_ne (Or.inr (tw19 hw)) (Or.inl (tw34 hw)) (by decide) (t := (.object "com/example/hidden_shift/hiddenshift/table/Base64Alphabet")) (t' := .boolean) (by decide) (by decide))))
  have f3 := (D_b0_barredUnits.other W1 (Or.inr (slot_ne (Or.inr (tw21 hw)) (Or.inl (tw34 hw)) (by decide) (t := (.object "com/example/hidden_shift/hiddenshift/table/DirectCharacters")) (t' := .boolean) (by decide) (by decide))))
  have f4 := (D_b0_bitCount.other W1 (Or.inr (slot_ne (Or.inl (tw48 hw)) (Or.inl (tw34 hw)) (by decide) (t := .int) (t' := .boolean) (by decide) (by decide))))
  have f5 := (D_b0_bits.other W1 (Or.inr (slot_ne (Or.inl (tw46 hw)) (Or.inl (tw34 hw)) (by decide) (t := .int) (t' := .boolean) (by decide) (by decide))))
  have f6 := (D_b0_closedByDashOnly.other W1 (Or.inr (slot_ne (Or.inr (tw23 hw)) (Or.inl (tw34 hw)) (by decide) (t := .boolean) (t' := .boolean) (by decide) (by decide))))
  have f7 := (D_b0_digitAdded.other W1 (Or.inr (slot_ne (Or.inl (tw89 hw)) (Or.inl (tw34 hw)) (by decide) (t := .boolean) (t' := .boolean) (by decide) (by decide))))
  have f8 := (D_b0_digitBroke.other W1 (Or.inr (slot_ne (Or.inl (tw91 hw)) (Or.inl (tw34 hw)) (by decide) (t := .boolean) (t' := .boolean) (by decide) (by decide))))
  have f9 := (D_b0_highSurrogate.other W1 (Or.inr (slot_ne (Or.inl (tw53 hw)) (Or.inl (tw34 hw)) (by decide) (t := .char) (t' := .boolean) (by decide) (by decide))))
  have f10 := (D_b0_runsMayAdjoin.other W1 (Or.inr (slot_ne (Or.inr (tw27 hw)) (Or.inl (tw34 hw)) (by decide) (t := .boolean) (t' := .boolean) (by decide) (by decide))))
  have f11 := (D_b0_shift.other W1 (Or.inr (slot_ne (Or.inr (tw25 hw)) (Or.inl (tw34 hw)) (by decide) (t := .byte) (t' := .boolean) (by decide) (by decide))))
  exact r_void B X1 rfl d12_5 (by rw [e1]; exact ⟨rfl, N1, K1, f2, f3, f4, f5, f6, f7, f8, f9, G1, f10, f11⟩) (by decide) (by decide)

theorem pn_mm4_7 : plainName "com/example/hidden_shift/hiddenshift/coder/Base64Run" = true := by first | (simp [plainName, overriddenIn]; done) | decide +kernel
set_option maxRecDepth 65536 in
set_option maxHeartbeats 40000000 in
theorem mm4_7 (l : Launch) (Z : State) (a0 : Array Value) (hw : ∀ d ∈ tables_1, d.before a0 Z = true) (b0 : Addr) (w_Base64Alphabet_IMAP w_DirectCharacters_IMAP w_UTF7 w_IMAP_VALUES : Addr) (h0 : Heap) (FZ : OwnF Z Z.heap w_Base64Alphabet_IMAP w_DirectCharacters_IMAP w_UTF7 w_IMAP_VALUES) (O0 : Old Z Z.heap.size h0) (ge_b0 : Z.heap.size ≤ b0) (E_b0 : Exa Z h0 b0 "com/example/hidden_shift/hiddenshift/coder/Base64Run") (D_b0_alphabet : Fld Z h0 b0 "com/example/hidden_shift/hiddenshift/coder/Base64Run" "alphabet" "Lcom/example/hidden_shift/hiddenshift/table/Base64Alphabet;" (.ref w_Base64Alphabet_IMAP)) (D_b0_barredUnits : Fld Z h0 b0 "com/example/hidden_shift/hiddenshift/coder/Base64Run" "barredUnits" "Lcom/example/hidden_shift/hiddenshift/table/DirectCharacters;" (.ref w_DirectCharacters_IMAP)) (D_b0_bitCount : Fld Z h0 b0 "com/example/hidden_shift/hiddenshift/coder/Base64Run" "bitCount" "I" (.int (0 : Int32))) (D_b0_bits : Fld Z h0 b0 "com/example/hidden_shift/hiddenshift/coder/Base64Run" "bits" "I" (.int (0 : Int32))) (D_b0_closedByDashOnly : Fld Z h0 b0 "com/example/hidden_shift/hiddenshift/coder/Base64Run" "closedByDashOnly" "Z" (.int (1 : Int32))) (D_b0_digitAdded : Fld Z h0 b0 "com/example/hidden_shift/hiddenshift/coder/Base64Run" "digitAdded" "Z" (.int (0 : Int32))) (D_b0_digitBroke : Fld Z h0 b0 "com/example/hidden_shift/hiddenshift/coder/Base64Run" "digitBroke" "Z" (.int (0 : Int32))) (D_b0_highSurrogate : Fld Z h0 b0 "com/example/hidden_shift/hiddenshift/coder/Base64Run" "highSurrogate" "C" (.int (0 : Int32))) (D_b0_open : Fld Z h0 b0 "com/example/hidden_shift/hiddenshift/coder/Base64Run" "open" "Z" (.int (1 : Int32))) (D_b0_runsMayAdjoin : Fld Z h0 b0 "com/example/hidden_shift/hiddenshift/coder/Base64Run" "runsMayAdjoin" "Z" (.int (0 : Int32))) (D_b0_shift : Fld Z h0 b0 "com/example/hidden_shift/hiddenshift/coder/Base64Run" "shift" "B" (.int (38 : Int32)))  :
    OMeets l Z mn5 prog_14_method_4_code 1 (some .boolean) [] ({ frames := 0, cells := 0, slots := 0, locals := 0 } : Room) #[(.ref b0)] h0 (PureQ (some (.int (1 : Int32))) h0) := by
  refine OMeets.of pn_mm4_7 #[.val (.ref b0)] (fun m => by first | rfl | (simp [entryFrame, mkF, argsToLocals, Value.category, maxLocals]; done)) ?_
  intro p e s m below meth c s₁ B X0 e0
  have F0 := OwnF.ext O0.2 FZ
  obtain ⟨S_Base64Alphabet_IMAP, E_Base64Alphabet_IMAP, S_DirectCharacters_IMAP, E_DirectCharacters_IMAP, S_UTF7, E_UTF7, F_Base64Alphabet_IMAP_ordinal, F_UTF7_ordinal, S_IMAP_VALUES, G_IMAP_VALUES⟩ := id F0
  refine s_aloadN B X0 (pc' := 1) d4_0 rfl rfl rfl ?_
  refine s_getF B X0 (pc' := 4) e0 (host := "") (Or.inl (tw33 hw)) Via.refl D_b0_open d4_1 rfl (fun T1 X1 e1 => ?_)
  exact r_nar B X1 (t := .boolean) (by simp) rfl d4_4 ⟨rfl, rfl, e1⟩ (by decide) (by decide)
theorem d13_0 : decode prog_14_method_6_code 0 = .ok (.aload_n 0, 1) := by decide +kernel
theorem d13_1 : decode prog_14_method_6_code 1 = .ok (.iconst 0, 1) := by decide +kernel
theorem d13_2 : decode prog_14_method_6_code 2 = .ok (.putfield 43, 3) := by decide +kernel
theorem d13_5 : decode prog_14_method_6_code 5 = .ok (.aload_n 0, 1) := by decide +kernel
theorem d13_6 : decode prog_14_method_6_code 6 = .ok (.iconst 0, 1) := by decide +kernel
theorem d13_7 : decode prog_14_method_6_code 7 = .ok (.putfield 46, 3) := by decide +kernel
theorem d13_10 : decode prog_14_method_6_code 10 = .ok (.aload_n 0, 1) := by decide +kernel
theorem d13_11 : decode prog_14_method_6_code 11 = .ok (.iconst 0, 1) := by decide +kernel
theorem d13_12 : decode prog_14_method_6_code 12 = .ok (.putfield 50, 3) := by decide +kernel
theorem d13_15 : decode prog_14_method_6_code 15 = .ok (.aload_n 0, 1) := by decide +kernel
theorem d13_16 : decode prog_14_method_6_code 16 = .ok (.iconst 0, 1) := by decide +kernel
theorem d13_17 : decode prog_14_method_6_code 17 = .ok (.putfield 53, 3) := by decide +kernel
theorem d13_20 : decode prog_14_method_6_code 20 = .ok (.aload_n 0, 1) := by decide +kernel
theorem d13_21 : decode prog_14_method_6_code 21 = .ok (.iconst 0, 1) := by decide +kernel
theorem d13_22 : decode prog_14_method_6_code 22 = .ok (.putfield 57, 3) := by decide +kernel
theorem d13_25 : decode prog_14_method_6_code 25 = .ok (.aload_n 0, 1) := by decide +kernel
theorem d13_26 : decode prog_14_method_6_code 26 = .ok (.iconst 0, 1) := by decide +kernel
theorem d13_27 : decode prog_14_method_6_code 27 = .ok (.putfield 60, 3) := by decide +kernel
theorem d13_30 : decode prog_14_method_6_code 30 = .ok (.return_, 1) := by decide +kernel
theorem pn_mm13_8 : plainName "com/example/hidden_shift/hiddenshift/coder/Base64Run" = true := by first | (simp [plainName, overriddenIn]; done) | decide +kernel
set_option maxRecDepth 65536 in
set_option maxHeartbeats 40000000 in
theorem mm13_8 (l : Launch) (Z : State) (a0 : Array Value) (hw : ∀ d ∈ tables_1, d.before a0 Z = true) (b0 : Addr) (w_Base64Alphabet_IMAP w_DirectCharacters_IMAP w_UTF7 w_IMAP_VALUES : Addr) (h0 : Heap) (FZ : OwnF Z Z.heap w_Base64Alphabet_IMAP w_DirectCharacters_IMAP w_UTF7 w_IMAP_VALUES) (O0 : Old Z Z.heap.size h0) (ge_b0 : Z.heap.size ≤ b0) (E_b0 : Exa Z h0 b0 "com/example/hidden_shift/hiddenshift/coder/Base64Run") (D_b0_alphabet : Fld Z h0 b0 "com/example/hidden_shift/hiddenshift/coder/Base64Run" "alphabet" "Lcom/example/hidden_shift/hiddenshift/table/Base64Alphabet;" (.ref w_Base64Alphabet_IMAP)) (D_b0_barredUnits : Fld Z h0 b0 "com/example/hidden_shift/hiddenshift/coder/Base64Run" "barredUnits" "Lcom/example/hidden_shift/hiddenshift/table/DirectCharacters;" (.ref w_DirectCharacters_IMAP)) (D_b0_bitCount : Fld Z h0 b0 "com/example/hidden_shift/hiddenshift/coder/Base64Run" "bitCount" "I" (.int (0 : Int32))) (D_b0_bits : Fld Z h0 b0 "com/example/hidden_shift/hiddenshift/coder/Base64Run" "bits" "I" (.int (0 : Int32))) (D_b0_closedByDashOnly : Fld Z h0 b0 "com/example/hidden_shift/hiddenshift/coder/Base64Run" "closedByDashOnly" "Z" (.int (1 : Int32))) (D_b0_digitAdded : Fld Z h0 b0 "com/example/hidden_shift/hiddenshift/coder/Base64Run" "digitAdded" "Z" (.int (0 : Int32))) (D_b0_digitBroke : Fld Z h0 b0 "com/example/hidden_shift/hiddenshift/coder/Base64Run" "digitBroke" "Z" (.int (0 : Int32))) (D_b0_highSurrogate : Fld Z h0 b0 "com/example/hidden_shift/hiddenshift/coder/Base64Run" "highSurrogate" "C" (.int (0 : Int32))) (D_b0_open : Fld Z h0 b0 "com/example/hidden_shift/hiddenshift/coder/Base64Run" "open" "Z" (.int (1 : Int32))) (D_b0_runsMayAdjoin : Fld Z h0 b0 "com/example/hidden_shift/hiddenshift/coder/Base64Run" "runsMayAdjoin" "Z" (.int (0 : Int32))) (D_b0_shift : Fld Z h0 b0 "com/example/hidden_shift/hiddenshift/coder/Base64Run" "shift" "B" (.int (38 : Int32)))  :
    OMeets l Z mn11 prog_14_method_6_code 1 none [] ({ frames := 0, cells := 0, slots := 0, locals := 0 } : Room) #[(.ref b0)] h0 (fun v h L => v = none ∧ Fr Z.heap.size L ∧ Keep h0 h [b0] ∧ Fld Z h b0 "com/example/hidden_shift/hiddenshift/coder/Base64Run" "alphabet" "Lcom/example/hidden_shift/hiddenshift/table/Base64Alphabet;" (.ref w_Base64Alphabet_IMAP) ∧ Fld Z h b0 "com/example/hidden_shift/hiddenshift/coder/Base64Run" "barredUnits" "Lcom/example/hidden_shift/hiddenshift/table/DirectCharacters;" (.ref w_DirectCharacters_IMAP) ∧ Fld Z h b0 "com/example/hidden_shift/hiddenshift/coder/Base64Run" "bitCount" "I" (.int (0 : Int32)) ∧ Fld Z h b0 "com/example/hidden_shift/hiddenshift/coder/Base64Run" "bits" "I" (.int (0 : Int32)) ∧ Fld Z h b0 "com/example/hidden_shift/hiddenshift/coder/Base64Run" "closedByDashOnly" "Z" (.int (1 : Int32)) ∧ Fld Z h b0 "com/example/hidden_shift/hiddenshift/coder/Base64Run" "digitAdded" "Z" (.int (0 : Int32)) ∧ Fld Z h b0 "com/example/hidden_shift/hiddenshift/coder/Base64Run" "digitBroke" "Z" (.int (0 : Int32)) ∧ Fld Z h b0 "com/example/hidden_shift/hiddenshift/coder/Base64Run" "highSurrogate" "C" (.int (0 : Int32)) ∧ Fld Z h b0 "com/example/hidden_shift/hiddenshift/coder/Base64Run" "open" "Z" (.int (0 : Int32)) ∧ Fld Z h b0 "com/example/hidden_shift/hiddenshift/coder/Base64Run" "runsMayAdjoin" "Z" (.int (0 : Int32)) ∧ Fld Z h b0 "com/example/hidden_shift/hiddenshift/coder/Base64Run" "shift" "B" (.int (38 : Int32))) := by
  refine OMeets.of pn_mm13_8 #[.val (.ref b0)] (fun m => by first | rfl | (simp [entryFrame, mkF, argsToLocals, Value.category, maxLocals]; done)) ?_
  intro p e s m below meth c s₁ B X0 e0
  have F0 := OwnF.ext O0.2 FZ
  obtain ⟨S_Base64Alphabet_IMAP, E_Base64Alphabet_IMAP, S_DirectCharacters_IMAP, E_DirectCharacters_IMAP, S_UTF7, E_UTF7, F_Base64Alphabet_IMAP_ordinal, F_UTF7_ordinal, S_IMAP_VALUES, G_IMAP_VALUES⟩ := id F0
  refine s_aloadN B X0 (pc' := 1) d13_0 rfl rfl rfl ?_
  refine s_iconst B X0 (pc' := 2) (v := (0 : Int32)) d13_1 rfl rfl ?_
  refine s_putFN B X0 (pc' := 5) (v' := (.int (0 : Int32))) (ty := .boolean) e0 (tw33 hw) Via.refl D_b0_open E_b0 (Or.inl (tw34 hw)) (tw5 hw) (by decide) rfl rfl d13_2 rfl (fun T1 h1 X1 e1 W1 => ?_)
  have G1 := D_b0_open.same W1
  have N1 := Fr.snoc X1 (Fr.nil _) ge_b0
  have O1 := (O0).wr W1 ge_b0
  have F1 := OwnF.ext O1.2 FZ
  have K1 := ((Keep.refl h0 [b0])).wr W1 (Or.inl (List.mem_of_getElem? (i := 0) rfl))
  show Go p e below _ (T1.setTop (mkF m 5 #[.val (.ref b0)] []))
  refine s_aloadN B X1 (pc' := 6) d13_5 rfl rfl rfl ?_
  refine s_iconst B X1 (pc' := 7) (v := (0 : Int32)) d13_6 rfl rfl ?_
  have f3 := (D_b0_bits.other W1 (Or.inr (slot_ne (Or.inl (tw46 hw)) (Or.inl (tw34 hw)) (by decide) (t := .int) (t' := .boolean) (by decide) (by decide))))
  have f4 := (E_b0.wr W1)
  refine s_putF B X1 (pc' := 10) (ty := .int) e1 (host := "") (Or.inl (tw45 hw)) Via.refl f3 f4 (Or.inl (tw46 hw)) (tw5 hw) (by decide) rfl rfl d13_7 rfl (fun T2 h2 X2 e2 W2 => ?_)
  have G2 := f3.same W2
  have N2 := Fr.snoc X2 N1 ge_b0
  have O2 := (O1).wr W2 ge_b0
  have F2 := OwnF.ext O2.2 FZ
  have K2 := (K1).wr W2 (Or.inl (List.mem_of_getElem? (i := 0) rfl))
  show Go p e below _ (T2.setTop (mkF m 10 #[.val (.ref b0)] []))
  refine s_aloadN B X2 (pc' := 11) d13_10 rfl rfl rfl ?_
  refine s_iconst B X2 (pc' := 12) (v := (0 : Int32)) d13_11 rfl rfl ?_
  have f6 := ((D_b0_bitCount.other W1 (Or.inr (slot_ne (Or.inl (tw48 hw)) (Or.inl (tw34 hw)) (by decide) (t := .int) (t' := .boolean) (by decide) (by decide)))).other W2 (Or.inr (slot_ne (Or.inl (tw48 hw)) (Or.inl (tw46 hw)) (by decide) (t := .int) (t' := .int) (by decide) (by decide))))
  have f7 := (f4.wr W2)
  refine s_putF B X2 (pc' := 15) (ty := .int) e2 (host := "") (Or.inl (tw47 hw)) Via.refl f6 f7 (Or.inl (tw48 hw)) (tw5 hw) (by decide) rfl rfl d13_12 rfl (fun T5 h5 X5 e5 W5 => ?_)
  have G5 := f6.same W5
  have N5 := Fr.snoc X5 N2 ge_b0
  have O5 := (O2).wr W5 ge_b0
  have F5 := OwnF.ext O5.2 FZ
  have K5 := (K2).wr W5 (Or.inl (List.mem_of_getElem? (i := 0) rfl))
  show Go p e below _ (T5.setTop (mkF m 15 #[.val (.ref b0)] []))
  refine s_aloadN B X5 (pc' := 16) d13_15 rfl rfl rfl ?_
  refine s_iconst B X5 (pc' := 17) (v := (0 : Int32)) d13_16 rfl rfl ?_
  have f9 := (((D_b0_highSurrogate.other W1 (Or.inr (slot_ne (Or.inl (tw53 hw)) (Or.inl (tw34 hw)) (by decide) (t := .char) (t' := .boolean) (by decide) (by decide)))).other W2 (Or.inr (slot_ne (Or.inl (tw53 hw)) (Or.inl (tw46 hw)) (by decide) (t := .char) (t' := .int) (by decide) (by decide)))).other W5 (Or.inr (slot_ne (Or.inl (tw53 hw)) (Or.inl (tw48 hw)) (by decide) (t := .char) (t' := .int) (by decide) (by decide))))
  have f10 := (f7.wr W5)
  refine s_putFN B X5 (pc' := 20) (v' := (.int (0 : Int32))) (ty := .char) e5 (tw52 hw) Via.refl f9 f10 (Or.inl (tw53 hw)) (tw5 hw) (by decide) rfl rfl d13_17 rfl (fun T8 h8 X8 e8 W8 => ?_)
  have G8 := f9.same W8
  have N8 := Fr.snoc X8 N5 ge_b0
  have O8 := (O5).wr W8 ge_b0
  have F8 := OwnF.ext O8.2 FZ
  have K8 := (K5).wr W8 (Or.inl (List.mem_of_getElem? (i := 0) rfl))
  show Go p e below _ (T8.setTop (mkF m 20 #[.val (.ref b0)] []))
  refine s_aloadN B X8 (pc' := 21) d13_20 rfl rfl rfl ?_
  refine s_iconst B X8 (pc' := 22) (v := (0 : Int32)) d13_21 rfl rfl ?_
  have f12 := ((((D_b0_digitAdded.other W1 (Or.inr (slot_ne (Or.inl (tw89 hw)) (Or.inl (tw34 hw)) (by decide) (t := .boolean) (t' := .boolean) (by decide) (by decide)))).other W2 (Or.inr (slot_ne (Or.inl (tw89 hw)) (Or.inl (tw46 hw)) (by decide) (t := .boolean) (t' := .int) (by decide) (by decide)))).other W5 (Or.inr (slot_ne (Or.inl (tw89 hw)) (Or.inl (tw48 hw)) (by decide) (t := .boolean) (t' := .int) (by decide) (by decide)))).other W8 (Or.inr (slot_ne (Or.inl (tw89 hw)) (Or.inl (tw53 hw)) (by decide) (t := .boolean) (t' := .char) (by decide) (by decide))))
  have f13 := (f10.wr W8)
  refine s_putFN B X8 (pc' := 25) (v' := (.int (0 : Int32))) (ty := .boolean) e8 (tw88 hw) Via.refl f12 f13 (Or.inl (tw89 hw)) (tw5 hw) (by decide) rfl rfl d13_22 rfl (fun T11 h11 X11 e11 W11 => ?_)
  have G11 := f12.same W11
  have N11 := Fr.snoc X11 N8 ge_b0
  have O11 := (O8).wr W11 ge_b0
  have F11 := OwnF.ext O11.2 FZ
  have K11 := (K8).wr W11 (Or.inl (List.mem_of_getElem? (i := 0) rfl))
  show Go p e below _ (T11.setTop (mkF m 25 #[.val (.ref b0)] []))
  refine s_aloadN B X11 (pc' := 26) d13_25 rfl rfl rfl ?_
  refine s_iconst B X11 (pc' := 27) (v := (0 : Int32)) d13_26 rfl rfl ?_
  have f15 := (((((D_b0_digitBroke.other W1 (Or.inr (slot_ne (Or.inl (tw91 hw)) (Or.inl (tw34 hw)) (by decide) (t := .boolean) (t' := .boolean) (by decide) (by decide)))).other W2 (Or.inr (slot_ne (Or.inl (tw91 hw)) (Or.inl (tw46 hw)) (by decide) (t := .boolean) (t' := .int) (by decide) (by decide)))).other W5 (Or.inr (slot_ne (Or.inl (tw91 hw)) (Or.inl (tw48 hw)) (by decide) (t := .boolean) (t' := .int) (by decide) (by decide)))).other W8 (Or.inr (slot_ne (Or.inl (tw91 hw)) (Or.inl (tw53 hw)) (by decide) (t := .boolean) (t' := .char) (by decide) (by decide)))).other W11 (Or.inr (slot_ne (Or.inl (tw91 hw)) (Or.inl (tw89 hw)) (by decide) (t := .boolean) (t' := .boolean) (by decide) (by decide))))
  have f16 := (f13.wr W11)
  refine s_putFN B X11 (pc' := 30) (v' := (.int (0 : Int32))) (ty := .boolean) e11 (tw90 hw) Via.refl f15 f16 (Or.inl (tw91 hw)) (tw5 hw) (by decide) rfl rfl d13_27 rfl (fun T14 h14 X14 e14 W14 => ?_)
  have G14 := f15.same W14
  have N14 := Fr.snoc X14 N11 ge_b0
  have O14 := (O11).wr W14 ge_b0
  have F14 := OwnF.ext O14.2 FZ
  have K14 := (K11).wr W14 (Or.inl (List.mem_of_getElem? (i := 0) rfl))
  show Go p e below _ (T14.setTop (mkF m 30 #[.val (.ref b0)] []))
  have f17 := ((((((D_b0_alphabet.other W1 (Or.inr (slot_ne (Or.inr (tw19 hw)) (Or.inl (tw34 hw)) (by decide) (t := (.object "com/example/hidden_shift/hiddenshift/table/Base64Alphabet")) (t' := .boolean) (by decide) (by decide)))).other W2 (Or.inr (slot_ne (Or.inr (tw19 hw)) (Or.inl (tw46 hw)) (by decide) (t := (.object "com/example/hidden_shift/hiddenshift/table/Base64Alphabet")) (t' := .int) (by decide) (by decide)))).other W5 (Or.inr (slot_ne (Or.inr (tw19 hw)) (Or.inl (tw48 hw)) (by decide) (t := (.object "com/example/hidden_shift/hiddenshift/table/Base64Alphabet")) (t' := .int) (by decide) (by decide)))).other W8 (Or.inr (slot_ne (Or.inr (tw19 hw)) (Or.inl (tw53 hw)) (by decide) (t := (.object "com/example/hidden_shift/hiddenshift/table/Base64Alphabet")) (t' := .char) (by decide) (by decide)))).other W11 (Or.inr (slot_ne (Or.inr (tw19 hw)) (Or.inl (tw89 hw)) (by decide) (t := (.object "com/example/hidden_shift/hiddenshift/table/Base64Alphabet")) (t' := .boolean) (by decide) (by decide)))).other W14 (Or.inr (slot_ne (Or.inr (tw19 hw)) (Or.inl (tw91 hw)) (by decide) (t := (.object "com/example/hidden_shift/hiddenshift/table/Base64Alphabet")) (t' := .boolean) (by decide) (by decide))))
  have f18 := ((((((D_b0_barredUnits.other W1 (Or.inr (slot_ne (Or.inr (tw21 hw)) (Or.inl (tw34 hw)) (by decide) (t := (.object "com/example/hidden_shift/hiddenshift/table/DirectCharacters")) (t' := .boolean) (by decide) (by decide)))).other W2 (Or.inr (slot_ne (Or.inr (tw21 hw)) (Or.inl (tw46 hw)) (by decide) (t := (.object "com/example/hidden_shift/hiddenshift/table/DirectCharacters")) (t' := .int) (by decide) (by decide)))).other W5 (Or.inr (slot_ne (Or.inr (tw21 hw)) (Or.inl (tw48 hw)) (by decide) (t := (.object "com/example/hidden_shift/hiddenshift/table/DirectCharacters")) (t' := .int) (by decide) (by decide)))).other W8 (Or.inr (slot_ne (Or.inr (tw21 hw)) (Or.inl (tw53 hw)) (by decide) (t := (.object "com/example/hidden_shift/hiddenshift/table/DirectCharacters")) (t' := .char) (by decide) (by decide)))).other W11 (Or.inr (slot_ne (Or.inr (tw21 hw)) (Or.inl (tw89 hw)) (by decide) (t := (.object "com/example/hidden_shift/hiddenshift/table/DirectCharacters")) (t' := .boolean) (by decide) (by decide)))).other W14 (Or.inr (slot_ne (Or.inr (tw21 hw)) (Or.inl (tw91 hw)) (by decide) (t := (.object "com/example/hidden_shift/hiddenshift/table/DirectCharacters")) (t' := .boolean) (by decide) (by decide))))
  have f19 := (((G5.other W8 (Or.inr (slot_ne (Or.inl (tw48 hw)) (Or.inl (tw53 hw)) (by decide) (t := .int) (t' := .char) (by decide) (by decide)))).other W11 (Or.inr (slot_ne (Or.inl (tw48 hw)) (Or.inl (tw89 hw)) (by decide) (t := .int) (t' := .boolean) (by decide) (by decide)))).other W14 (Or.inr (slot_ne (Or.inl (tw48 hw)) (Or.inl (tw91 hw)) (by decide) (t := .int) (t' := .boolean) (by decide) (by decide))))
  have f20 := ((((G2.other W5 (Or.inr (slot_ne (Or.inl (tw46 hw)) (Or.inl (tw48 hw)) (by decide) (t := .int) (t' := .int) (by decide) (by decide)))).other W8 (Or.inr (slot_ne (Or.inl (tw46 hw)) (Or.inl (tw53 hw)) (by decide) (t := .int) (t' := .char) (by decide) (by decide)))).other W11 (Or.inr (slot_ne (Or.inl (tw46 hw)) (Or.inl (tw89 hw)) (by decide) (t := .int) (t' := .boolean) (by decide) (by decide)))).other W14 (Or.inr (slot_ne (Or.inl (tw46 hw)) (Or.inl (tw91 hw)) (by decide) (t := .int) (t' := .boolean) (by decide) (by decide))))
  have f21 := ((((((D_b0_closedByDashOnly.other W1 (Or.inr (slot_ne (Or.inr (tw23 hw)) (Or.inl (tw34 hw)) (by decide) (t := .boolean) (t' := .boolean) (by decide) (by decide)))).other W2 (Or.inr (slot_ne (Or.inr (tw23 hw)) (Or.inl (tw46 hw)) (by decide) (t := .boolean) (t' := .int) (by decide) (by decide)))).other W5 (Or.inr (slot_ne (Or.inr (tw23 hw)) (Or.inl (tw48 hw)) (by decide) (t := .boolean) (t' := .int) (by decide) (by decide)))).other W8 (Or.inr (slot_ne (Or.inr (tw23 hw)) (Or.inl (tw53 hw)) (by decide) (t := .boolean) (t' := .char) (by decide) (by decide)))).other W11 (Or.inr (slot_ne (Or.inr (tw23 hw)) (Or.inl (tw89 hw)) (by decide) (t := .boolean) (t' := .boolean) (by decide) (by decide)))).other W14 (Or.inr (slot_ne (Or.inr (tw23 hw)) (Or.inl (tw91 hw)) (by decide) (t := .boolean) (t' := .boolean) (by decide) (by decide))))
  have f22 := (G11.other W14 (Or.inr (slot_ne (Or.inl (tw89 hw)) (Or.inl (tw91 hw)) (by decide) (t := .boolean) (t' := .boolean) (by decide) (by decide))))
  have f23 := ((G8.other W11 (Or.inr (slot_ne (Or.inl (tw53 hw)) (Or.inl (tw89 hw)) (by decide) (t := .char) (t' := .boolean) (by decide) (by decide)))).other W14 (Or.inr (slot_ne (Or.inl (tw53 hw)) (Or.inl (tw91 hw)) (by decide) (t := .char) (t' := .boolean) (by decide) (by decide))))
  have f24 := (((((G1.other W2 (Or.inr (slot_ne (Or.inl (tw34 hw)) (Or.inl (tw46 hw)) (by decide) (t := .boolean) (t' := .int) (by decide) (by decide)))).other W5 (Or.inr (slot_ne (Or.inl (tw34 hw)) (Or.inl (tw48 hw)) (by decide) (t := .boolean) (t' := .int) (by decide) (by decide)))).other W8 (Or.inr (slot_ne (Or.inl (tw34 hw)) (Or.inl (tw53 hw)) (by decide) (t := .boolean) (t' := .char) (by decide) (by decide)))).other W11 (Or.inr (slot_ne (Or.inl (tw34 hw)) (Or.inl (tw89 hw)) (by decide) (t := .boolean) (t' := .boolean) (by decide) (by decide)))).other W14 (Or.inr (slot_ne (Or.inl (tw34 hw)) (Or.inl (tw91 hw)) (by decide) (t := .boolean) (t' := .boolean) (by decide) (by decide))))
  have f25 := ((((((D_b0_runsMayAdjoin.other W1 (Or.inr (slot_ne (Or.inr (tw27 hw)) (Or.inl (tw34 hw)) (by decide) (t := .boolean) (t' := .boolean) (by decide) (by decide)))).other W2 (Or.inr (slot_ne (Or.inr (tw27 hw)) (Or.inl (tw46 hw)) (by decide) (t := .boolean) (t' := .int) (by decide) (by decide)))).other W5 (Or.inr (slot_ne (Or.inr (tw27 hw)) (Or.inl (tw48 hw)) (by decide) (t := .boolean) (t' := .int) (by decide) (by decide)))).other W8 (Or.inr (slot_ne (Or.inr (tw27 hw)) (Or.inl (tw53 hw)) (by decide) (t := .boolean) (t' := .char) (by decide) (by decide)))).other W11 (Or.inr (slot_ne (Or.inr (tw27 hw)) (Or.inl (tw89 hw)) (by decide) (t := .boolean) (t' := .boolean) (by decide) (by decide)))).other W14 (Or.inr (slot_ne (Or.inr (tw27 hw)) (Or.inl (tw91 hw)) (by decide) (t := .boolean) (t' := .boolean) (by decide) (by decide))))
  have f26 := ((((((D_b0_shift.other W1 (Or.inr (slot_ne (Or.inr (tw25 hw)) (Or.inl (tw34 hw)) (by decide) (t := .byte) (t' := .boolean) (by decide) (by decide)))).other W2 (Or.inr (slot_ne (Or.inr (tw25 hw)) (Or.inl (tw46 hw)) (by decide) (t := .byte) (t' := .int) (by decide) (by decide)))).other W5 (Or.inr (slot_ne (Or.inr (tw25 hw)) (Or.inl (tw48 hw)) (by decide) (t := .byte) (t' := .int) (by decide) (by decide)))).other W8 (Or.inr (slot_ne (Or.inr (tw25 hw)) (Or.inl (tw53 hw)) (by decide) (t := .byte) (t' := .char) (by decide) (by decide)))).other W11 (Or.inr (slot_ne (Or.inr (tw25 hw)) (Or.inl (tw89 hw)) (by decide) (t := .byte) (t' := .boolean) (by decide) (by decide)))).other W14 (Or.inr (slot_ne (Or.inr (tw25 hw)) (Or.inl (tw91 hw)) (by decide) (t := .byte) (t' := .boolean) (by decide) (by decide))))
  exact r_void B X14 rfl d13_30 (by rw [e14]; exact ⟨rfl, N14, K14, f17, f18, f19, f20, f21, f22, G14, f23, f24, f25, f26⟩) (by decide) (by decide)

theorem pn_rm_law : plainName "com/example/hidden_shift/hiddenshift/coder/Base64RunRfc3501PinLaw" = true := by first | (simp [plainName, overriddenIn]; done) | decide +kernel
set_option maxRecDepth 65536 in
set_option maxHeartbeats 40000000 in
theorem rm_law (l : Launch) (Z : State) (a0 : Array Value) (hw : ∀ d ∈ tables_1, d.before a0 Z = true) (i0 : Int32) (w_Base64Alphabet_IMAP w_DirectCharacters_IMAP w_UTF7 w_IMAP_VALUES : Addr) (F0 : OwnF Z Z.heap w_Base64Alphabet_IMAP w_DirectCharacters_IMAP w_UTF7 w_IMAP_VALUES) :
    OMeets l Z x code maxLocals ret tables_1 room_1 #[(.int i0)] Z.heap (fun v h L => v = some (.int 1) ∧ Fr Z.heap.size L) := by
  refine OMeets.of pn_rm_law #[.val (.int i0), .unset, .unset, .unset, .unset, .unset, .unset] (fun m => by first | rfl | (simp [entryFrame, mkF, argsToLocals, Value.category, maxLocals]; done)) ?_
  intro p e s m below meth c s₁ B X0 e0
  have F := F0
  obtain ⟨S_Base64Alphabet_IMAP, E_Base64Alphabet_IMAP, S_DirectCharacters_IMAP, E_DirectCharacters_IMAP, S_UTF7, E_UTF7, F_Base64Alphabet_IMAP_ordinal, F_UTF7_ordinal, S_IMAP_VALUES, G_IMAP_VALUES⟩ := F
  refine s_iloadN B X0 (pc' := 1) at_0 rfl rfl ?_
  refine s_i2b B X0 (pc' := 2) (v := i0.toInt8.toInt32) at_1 rfl rfl ?_
  refine s_istoreN B X0 (pc' := 3) (Ls' := #[.val (.int i0), .val (.int i0.toInt8.toInt32), .unset, .unset, .unset, .unset, .unset]) at_2 rfl rfl ?_
  refine c_static B X0 (y := mn4) (pc' := 6) (argsL := []) (under := []) (W := 0) e0 (tw0 hw) (tw1 hw) (tw3 hw) (tw2 hw) (by decide) (mm1_0 l Z a0 hw  w_Base64Alphabet_IMAP w_DirectCharacters_IMAP w_UTF7 w_IMAP_VALUES Z.heap F0 (Old.start Z)  ) (lenOf pd_2 rfl) rfl rfl (by decide) (by decide) (by decide) (by decide) rfl at_3 rfl (fun v1 T1 L1 X1 hQ1 => ?_)
  obtain ⟨o1_0, rfl, Nq1, Kq1, lq_o1_0, u1_0, u1_1, u1_2, u1_3, u1_4, u1_5, u1_6, u1_7, u1_8, u1_9, u1_10, u1_11⟩ := hQ1
  have ge_o1_0 : Z.heap.size ≤ o1_0 := Nat.le_trans (old_le (Old.start Z)) lq_o1_0
  obtain ⟨h1, e1⟩ : ∃ z, T1.heap = z := ⟨_, rfl⟩
  rw [e1] at Kq1 u1_0 u1_1 u1_2 u1_3 u1_4 u1_5 u1_6 u1_7 u1_8 u1_9 u1_10 u1_11
  have N1 := Fr.app (Fr.nil _) Nq1
  have O1 := ((Old.start Z)).keep Kq1 all0
  have F1 := OwnF.ext O1.2 F0
  show Go p e below _ (T1.setTop (mkF m 6 #[.val (.int i0), .val (.int i0.toInt8.toInt32), .unset, .unset, .unset, .unset, .unset] [(.ref o1_0)]))
  refine s_astoreN B X1 (pc' := 7) (Ls' := #[.val (.int i0), .val (.int i0.toInt8.toInt32), .val (.ref o1_0), .unset, .unset, .unset, .unset]) at_6 rfl rfl rfl ?_
  refine s_aloadN B X1 (pc' := 8) at_7 rfl rfl rfl ?_
  refine p_virtual B X1 (y := mn5) (pc' := 11) (argsL := []) (under := []) (W := 0) e1 (tw28 hw) (tw29 hw) (tw31 hw) (tw30 hw) (tw32 hw) (tw2 hw) (by decide) (mm4_2 l Z a0 hw o1_0 w_Base64Alphabet_IMAP w_DirectCharacters_IMAP w_UTF7 w_IMAP_VALUES h1 F0 O1 ge_o1_0 u1_0 u1_1 u1_2 u1_3 u1_4 u1_5 u1_6 u1_7 u1_8 u1_9 u1_10 u1_11 ) u1_0 (lenOf pd_3 rfl) rfl rfl (by decide) (by decide) rfl rfl (by decide) (by decide) rfl at_8 rfl (fun T2 X2 e2 => ?_)
  show Go p e below _ (T2.setTop (mkF m 11 #[.val (.int i0), .val (.int i0.toInt8.toInt32), .val (.ref o1_0), .unset, .unset, .unset, .unset] [(.int (0 : Int32))]))
  refine s_ifN B X2 (pc' := 14) at_11 (by decide) rfl ?_
  refine s_aloadN B X2 (pc' := 15) at_14 rfl rfl rfl ?_
  refine p_virtual B X2 (y := mn8) (pc' := 18) (argsL := []) (under := []) (W := 0) e2 (tw35 hw) (tw36 hw) (tw38 hw) (tw37 hw) (tw39 hw) (tw2 hw) (by decide) (mm5_3 l Z a0 hw o1_0 w_Base64Alphabet_IMAP w_DirectCharacters_IMAP w_UTF7 w_IMAP_VALUES h1 F0 O1 ge_o1_0 u1_0 u1_1 u1_2 u1_3 u1_4 u1_5 u1_6 u1_7 u1_8 u1_9 u1_10 u1_11 ) u1_0 (lenOf pd_3 rfl) rfl rfl (by decide) (by decide) rfl rfl (by decide) (by decide) rfl at_15 rfl (fun T3 X3 e3 => ?_)
  show Go p e below _ (T3.setTop (mkF m 18 #[.val (.int i0), .val (.int i0.toInt8.toInt32), .val (.ref o1_0), .unset, .unset, .unset, .unset] [(.int (1 : Int32))]))
  refine s_ifN B X3 (pc' := 21) at_18 (by decide) rfl ?_
  refine s_aloadN B X3 (pc' := 22) at_21 rfl rfl rfl ?_
  refine p_virtual B X3 (y := mn9) (pc' := 25) (argsL := []) (under := []) (W := 0) e3 (tw54 hw) (tw55 hw) (tw57 hw) (tw56 hw) (tw58 hw) (tw2 hw) (by decide) (mm8_5 l Z a0 hw o1_0 w_Base64Alphabet_IMAP w_DirectCharacters_IMAP w_UTF7 w_IMAP_VALUES h1 F0 O1 ge_o1_0 u1_0 u1_1 u1_2 u1_3 u1_4 u1_5 u1_6 u1_7 u1_8 u1_9 u1_10 u1_11 ) u1_0 (lenOf pd_3 rfl) rfl rfl (by decide) (by decide) rfl rfl (by decide) (by decide) rfl at_22 rfl (fun T4 X4 e4 => ?_)
  show Go p e below _ (T4.setTop (mkF m 25 #[.val (.int i0), .val (.int i0.toInt8.toInt32), .val (.ref o1_0), .unset, .unset, .unset, .unset] [(.int (0 : Int32))]))
  refine s_ifN B X4 (pc' := 28) at_25 (by decide) rfl ?_
  refine s_iconst B X4 (pc' := 29) (v := (1 : Int32)) at_28 rfl rfl ?_
  refine s_goto B X4 (pc' := 33) at_29 (by decide) (by decide) ?_
  refine s_istoreN B X4 (pc' := 34) (Ls' := #[.val (.int i0), .val (.int i0.toInt8.toInt32), .val (.ref o1_0), .val (.int (1 : Int32)), .unset, .unset, .unset]) at_33 rfl rfl ?_
  refine s_aloadN B X4 (pc' := 35) at_34 rfl rfl rfl ?_
  refine s_iloadN B X4 (pc' := 36) at_35 rfl rfl ?_
  refine p_virtual B X4 (y := mn1) (pc' := 39) (argsL := [(.int i0.toInt8.toInt32)]) (under := []) (W := 0) e4 (tw59 hw) (tw60 hw) (tw62 hw) (tw61 hw) (tw63 hw) (tw2 hw) (by decide) (rm_isDigit l Z a0 hw o1_0 i0.toInt8.toInt32 w_Base64Alphabet_IMAP w_DirectCharacters_IMAP w_UTF7 w_IMAP_VALUES h1 F1 u1_1) u1_0 (lenOf pd_5 rfl) rfl rfl (by decide) (by decide) rfl rfl (by decide) (by decide) rfl at_36 rfl (fun T5 X5 e5 => ?_)
  show Go p e below _ (T5.setTop (mkF m 39 #[.val (.int i0), .val (.int i0.toInt8.toInt32), .val (.ref o1_0), .val (.int (1 : Int32)), .unset, .unset, .unset] [(.int (fdg (i0.toInt8.toInt32 &&& (255 : Int32))))]))
  refine s_iloadN B X5 (pc' := 40) at_39 rfl rfl ?_
  refine s_sipush B X5 (pc' := 43) (v := (255 : Int32)) at_40 rfl rfl ?_
  refine s_iand B X5 (pc' := 44) (v := (i0.toInt8.toInt32 &&& (255 : Int32))) at_43 rfl rfl ?_
  refine p_static B X5 (y := mn2) (pc' := 47) (argsL := [(.int (i0.toInt8.toInt32 &&& (255 : Int32)))]) (under := [(.int (fdg (i0.toInt8.toInt32 &&& (255 : Int32))))]) (W := 1) e5 (tw74 hw) (tw75 hw) (tw77 hw) (tw76 hw) (by decide) (rm_pred l Z a0 hw (i0.toInt8.toInt32 &&& (255 : Int32)) h1) (lenOf pd_6 rfl) rfl rfl (by decide) (by decide) rfl rfl (by decide) (by decide) rfl at_44 rfl (fun T6 X6 e6 => ?_)
  show Go p e below _ (T6.setTop (mkF m 47 #[.val (.int i0), .val (.int i0.toInt8.toInt32), .val (.ref o1_0), .val (.int (1 : Int32)), .unset, .unset, .unset] [(.int (fdg (i0.toInt8.toInt32 &&& (255 : Int32)))), (.int (fdg (i0.toInt8.toInt32 &&& (255 : Int32))))]))
  refine b_icmp_ne B X6 (py := 54) (pn := 50) at_47 (by decide) (by decide) rfl (fun q => absurd rfl q) (fun _ => ?_)
  refine s_iconst B X6 (pc' := 51) (v := (1 : Int32)) at_50 rfl rfl ?_
  refine s_goto B X6 (pc' := 55) at_51 (by decide) (by decide) ?_
  refine s_istore B X6 (pc' := 57) (Ls' := #[.val (.int i0), .val (.int i0.toInt8.toInt32), .val (.ref o1_0), .val (.int (1 : Int32)), .val (.int (1 : Int32)), .unset, .unset]) at_55 rfl rfl ?_
  refine s_aloadN B X6 (pc' := 58) at_57 rfl rfl rfl ?_
  refine c_virtual B X6 (y := mn10) (pc' := 61) (argsL := []) (under := []) (W := 0) e6 (tw78 hw) (tw79 hw) (tw81 hw) (tw80 hw) (tw82 hw) (tw2 hw) (by decide) (mm12_6 l Z a0 hw o1_0 w_Base64Alphabet_IMAP w_DirectCharacters_IMAP w_UTF7 w_IMAP_VALUES h1 F0 O1 ge_o1_0 u1_0 u1_1 u1_2 u1_3 u1_4 u1_5 u1_6 u1_7 u1_8 u1_9 u1_10 u1_11 ) u1_0 (lenOf pd_7 rfl) rfl rfl (by decide) (by decide) (by decide) (by decide) rfl at_58 rfl (fun v7 T7 L7 X7 hQ7 => ?_)
  obtain ⟨rfl, Nq7, Kq7, u7_0, u7_1, u7_2, u7_3, u7_4, u7_5, u7_6, u7_7, u7_8, u7_9, u7_10⟩ := hQ7
  obtain ⟨h7, e7⟩ : ∃ z, T7.heap = z := ⟨_, rfl⟩
  rw [e7] at Kq7 u7_0 u7_1 u7_2 u7_3 u7_4 u7_5 u7_6 u7_7 u7_8 u7_9 u7_10
  have N7 := Fr.app N1 Nq7
  have O7 := (O1).keep Kq7 (allS ge_o1_0 all0)
  have F7 := OwnF.ext O7.2 F0
  show Go p e below _ (T7.setTop (mkF m 61 #[.val (.int i0), .val (.int i0.toInt8.toInt32), .val (.ref o1_0), .val (.int (1 : Int32)), .val (.int (1 : Int32)), .unset, .unset] []))
  refine s_aloadN B X7 (pc' := 62) at_61 rfl rfl rfl ?_
  have f8 := (u1_0.keep Kq7)
  refine p_virtual B X7 (y := mn5) (pc' := 65) (argsL := []) (under := []) (W := 0) e7 (tw28 hw) (tw29 hw) (tw31 hw) (tw30 hw) (tw32 hw) (tw2 hw) (by decide) (mm4_7 l Z a0 hw o1_0 w_Base64Alphabet_IMAP w_DirectCharacters_IMAP w_UTF7 w_IMAP_VALUES h7 F0 O7 ge_o1_0 f8 u7_0 u7_1 u7_2 u7_3 u7_4 u7_5 u7_6 u7_7 u7_8 u7_9 u7_10 ) f8 (lenOf pd_3 rfl) rfl rfl (by decide) (by decide) rfl rfl (by decide) (by decide) rfl at_62 rfl (fun T9 X9 e9 => ?_)
  show Go p e below _ (T9.setTop (mkF m 65 #[.val (.int i0), .val (.int i0.toInt8.toInt32), .val (.ref o1_0), .val (.int (1 : Int32)), .val (.int (1 : Int32)), .unset, .unset] [(.int (1 : Int32))]))
  refine s_istore B X9 (pc' := 67) (Ls' := #[.val (.int i0), .val (.int i0.toInt8.toInt32), .val (.ref o1_0), .val (.int (1 : Int32)), .val (.int (1 : Int32)), .val (.int (1 : Int32)), .unset]) at_65 rfl rfl ?_
  refine s_aloadN B X9 (pc' := 68) at_67 rfl rfl rfl ?_
  refine c_virtual B X9 (y := mn11) (pc' := 71) (argsL := []) (under := []) (W := 0) e9 (tw83 hw) (tw84 hw) (tw86 hw) (tw85 hw) (tw87 hw) (tw2 hw) (by decide) (mm13_8 l Z a0 hw o1_0 w_Base64Alphabet_IMAP w_DirectCharacters_IMAP w_UTF7 w_IMAP_VALUES h7 F0 O7 ge_o1_0 f8 u7_0 u7_1 u7_2 u7_3 u7_4 u7_5 u7_6 u7_7 u7_8 u7_9 u7_10 ) f8 (lenOf pd_7 rfl) rfl rfl (by decide) (by decide) (by decide) (by decide) rfl at_68 rfl (fun v10 T10 L10 X10 hQ10 => ?_)
  obtain ⟨rfl, Nq10, Kq10, u10_0, u10_1, u10_2, u10_3, u10_4, u10_5, u10_6, u10_7, u10_8, u10_9, u10_10⟩ := hQ10
  obtain ⟨h10, e10⟩ : ∃ z, T10.heap = z := ⟨_, rfl⟩
  rw [e10] at Kq10 u10_0 u10_1 u10_2 u10_3 u10_4 u10_5 u10_6 u10_7 u10_8 u10_9 u10_10
  have N10 := Fr.app N7 Nq10
  have O10 := (O7).keep Kq10 (allS ge_o1_0 all0)
  have F10 := OwnF.ext O10.2 F0
  show Go p e below _ (T10.setTop (mkF m 71 #[.val (.int i0), .val (.int i0.toInt8.toInt32), .val (.ref o1_0), .val (.int (1 : Int32)), .val (.int (1 : Int32)), .val (.int (1 : Int32)), .unset] []))
  refine s_aloadN B X10 (pc' := 72) at_71 rfl rfl rfl ?_
  have f11 := (f8.keep Kq10)
  refine p_virtual B X10 (y := mn5) (pc' := 75) (argsL := []) (under := []) (W := 0) e10 (tw28 hw) (tw29 hw) (tw31 hw) (tw30 hw) (tw32 hw) (tw2 hw) (by decide) (mm4_2 l Z a0 hw o1_0 w_Base64Alphabet_IMAP w_DirectCharacters_IMAP w_UTF7 w_IMAP_VALUES h10 F0 O10 ge_o1_0 f11 u10_0 u10_1 u10_2 u10_3 u10_4 u10_5 u10_6 u10_7 u10_8 u10_9 u10_10 ) f11 (lenOf pd_3 rfl) rfl rfl (by decide) (by decide) rfl rfl (by decide) (by decide) rfl at_72 rfl (fun T12 X12 e12 => ?_)
  show Go p e below _ (T12.setTop (mkF m 75 #[.val (.int i0), .val (.int i0.toInt8.toInt32), .val (.ref o1_0), .val (.int (1 : Int32)), .val (.int (1 : Int32)), .val (.int (1 : Int32)), .unset] [(.int (0 : Int32))]))
  refine s_ifN B X12 (pc' := 78) at_75 (by decide) rfl ?_
  refine s_iconst B X12 (pc' := 79) (v := (1 : Int32)) at_78 rfl rfl ?_
  refine s_goto B X12 (pc' := 83) at_79 (by decide) (by decide) ?_
  refine s_istore B X12 (pc' := 85) (Ls' := #[.val (.int i0), .val (.int i0.toInt8.toInt32), .val (.ref o1_0), .val (.int (1 : Int32)), .val (.int (1 : Int32)), .val (.int (1 : Int32)), .val (.int (1 : Int32))]) at_83 rfl rfl ?_
  refine s_iloadN B X12 (pc' := 86) at_85 rfl rfl ?_
  refine s_ifN B X12 (pc' := 89) at_86 (by decide) rfl ?_
  refine s_iload B X12 (pc' := 91) at_89 rfl rfl ?_
  refine s_ifN B X12 (pc' := 94) at_91 (by decide) rfl ?_
  refine s_iload B X12 (pc' := 96) at_94 rfl rfl ?_
  refine s_ifN B X12 (pc' := 99) at_96 (by decide) rfl ?_
  refine s_iload B X12 (pc' := 101) at_99 rfl rfl ?_
  refine s_ifN B X12 (pc' := 104) at_101 (by decide) rfl ?_
  refine s_iconst B X12 (pc' := 105) (v := (1 : Int32)) at_104 rfl rfl ?_
  refine s_goto B X12 (pc' := 109) at_105 (by decide) (by decide) ?_
  exact r_nar B X12 (t := .boolean) (by simp) rfl at_109 ⟨rfl, N10⟩ (by decide) (by decide)
set_option maxRecDepth 65536 in
set_option maxHeartbeats 40000000 in
theorem comes_1 {Post : Tables → Env → Array Value → State → Outcome → State → Prop} (hpost : ∀ tb e args s v u, (limb_1_1.after args s (.returned v) u = true ∧ limb_1_2.after args s (.returned v) u = true ∧ True) → FrameEnd s (.returned v) u (Jvm.fieldLocs frame_1_writes args s ++ Jvm.arrayLocs frame_1_arrays args s ++ Jvm.staticLocs frame_1_statics s) 16 128 → Post tb e args s (.returned v) u) :
    ArmFor flags0 classFile x code maxLocals ret World_1 tables_1 room_1 Calls_1 rest_1 Pre_1 Post := by
  intro l hfl _ _ p e ha hc hk s m args below hf hA hF happ hP
  obtain ⟨hcalls, hrest, hpre⟩ := hP
  obtain ⟨-, -, -, hnamed, -, -, -, hat⟩ := (Spec.applies_iff hf).mp happ
  obtain ⟨hg, hn⟩ := and_e (Cond.before_iff.mp (show (Jvm.Cond.and given_1 narrow_1).before args s = true from hpre))
  obtain ⟨h1, hg⟩ := and_e hg
  obtain ⟨w0, rfl⟩ : ∃ w0 : Value, args = #[w0] := by
    have hs : args.size = 1 := by simpa [Cond.value, given_1] using h1
    obtain ⟨L⟩ := args
    match L, hs with
    | [w0], _ => exact ⟨w0, rfl⟩
  have hw := fun d (hd : d ∈ tables_1) => atoms_spec (ws := Jvm.Cond.code x code maxLocals ret :: tables_1) hat d (List.mem_cons_of_mem _ hd)
  have hfit : Fit s := fun {y c} hc i hi => by
    obtain ⟨ha, rfl⟩ := Array.getElem?_eq_some_iff.mp hc
    have q := List.all_eq_true.mp ((Array.all_eq_true_iff_forall_mem.mp hF) _ (Array.getElem_mem ha)) i (List.mem_range.mpr hi)
    simpa [Array.getElem?_eq_getElem hi] using q
  have hg0 := hg
  obtain ⟨i0, ei0⟩ := is_v hg0
  obtain rfl : w0 = (.int i0) := Option.some.inj ei0
  obtain ⟨hn0, hn⟩ := and_e hn
  obtain ⟨hn1, hn⟩ := and_e hn
  obtain ⟨hn2, hn⟩ := and_e hn
  obtain ⟨hn3, hn⟩ := and_e hn
  obtain ⟨hn4, hn⟩ := and_e hn
  obtain ⟨hn5, hn⟩ := and_e hn
  obtain ⟨hn6, hn⟩ := and_e hn
  obtain ⟨hn7, hn⟩ := and_e hn
  obtain ⟨hn8, hn⟩ := and_e hn
  obtain ⟨hn9, hn⟩ := and_e hn
  obtain ⟨hn10, hn⟩ := and_e hn
  obtain ⟨hn11, hn⟩ := and_e hn
  obtain ⟨hn12, hn⟩ := and_e hn
  obtain ⟨hn13, hn⟩ := and_e hn
  obtain ⟨hn14, hn⟩ := and_e hn
  obtain ⟨hn15, hn⟩ := and_e hn
  obtain ⟨hn16, hn⟩ := and_e hn
  obtain ⟨hn17, hn⟩ := and_e hn
  have hn18 := hn
  obtain ⟨w_Base64Alphabet_IMAP, v_Base64Alphabet_IMAP⟩ := exa_v hn0
  have S_Base64Alphabet_IMAP := Sta.start v_Base64Alphabet_IMAP (Or.inr ⟨(tw7 hw), (tw8 hw)⟩)
  have E_Base64Alphabet_IMAP := Exa.start v_Base64Alphabet_IMAP hn0
  obtain ⟨w_DirectCharacters_IMAP, v_DirectCharacters_IMAP⟩ := exa_v hn1
  have S_DirectCharacters_IMAP := Sta.start v_DirectCharacters_IMAP (Or.inr ⟨(tw10 hw), (tw11 hw)⟩)
  have E_DirectCharacters_IMAP := Exa.start v_DirectCharacters_IMAP hn1
  obtain ⟨w_UTF7, v_UTF7⟩ := exa_v hn2
  have S_UTF7 := Sta.start v_UTF7 (Or.inr ⟨(tw7 hw), (tw70 hw)⟩)
  have E_UTF7 := Exa.start v_UTF7 hn2
  have F_Base64Alphabet_IMAP_ordinal := Fld.start ((fld_at v_Base64Alphabet_IMAP).symm.trans (eqI_v hn3))
  have F_UTF7_ordinal := Fld.start ((fld_at v_UTF7).symm.trans (eqI_v hn4))
  obtain ⟨w_IMAP_VALUES, v_IMAP_VALUES⟩ := arr_v hn5
  have S_IMAP_VALUES := Sta.start v_IMAP_VALUES (Or.inr ⟨(tw72 hw), (tw73 hw)⟩)
  have G_IMAP_VALUES : DigT s s.heap w_IMAP_VALUES := by
    obtain ⟨c_t, Ac⟩ := Arr.start v_IMAP_VALUES hn5
    obtain ⟨hs, hb⟩ := tab_len (n := 256) v_IMAP_VALUES Ac hn6 (by decide)
    have key : ∀ i : Nat, i < 256 → ∃ z : Int32, c_t.slots[i]? = some (.int z) ∧ (z = -1 ↔ ¬ dgP i) := by
      intro i hi
      have hj : i < 2 ^ 31 := by omega
      have hk : i < c_t.slots.size := by omega
      rcases (by omega : (0 ≤ i ∧ i < 43) ∨ (43 ≤ i ∧ i < 44) ∨ (44 ≤ i ∧ i < 45) ∨ (45 ≤ i ∧ i < 46) ∨ (46 ≤ i ∧ i < 47) ∨ (47 ≤ i ∧ i < 48) ∨ (48 ≤ i ∧ i < 58) ∨ (58 ≤ i ∧ i < 65) ∨ (65 ≤ i ∧ i < 91) ∨ (91 ≤ i ∧ i < 97) ∨ (97 ≤ i ∧ i < 123) ∨ (123 ≤ i ∧ i < 256)) with ⟨h1, h2⟩ | ⟨h1, h2⟩ | ⟨h1, h2⟩ | ⟨h1, h2⟩ | ⟨h1, h2⟩ | ⟨h1, h2⟩ | ⟨h1, h2⟩ | ⟨h1, h2⟩ | ⟨h1, h2⟩ | ⟨h1, h2⟩ | ⟨h1, h2⟩ | ⟨h1, h2⟩
      · exact ⟨-1, tab_el (j := .int 0) v_IMAP_VALUES Ac hj (eqI_i (tab_or (tab_all v_IMAP_VALUES Ac hn7 hk) (tab_hi hj (by have q : (43 : Int32).toInt = 43 := (by decide); omega)))), by unfold dgP; constructor <;> intro q <;> first | omega | decide⟩
      · obtain rfl : i = 43 := by omega
        exact ⟨62, tab_at v_IMAP_VALUES Ac (eqI_v hn8) (by decide), by decide⟩
      · obtain rfl : i = 44 := by omega
        exact ⟨63, tab_at v_IMAP_VALUES Ac (eqI_v hn9) (by decide), by decide⟩
      · obtain rfl : i = 45 := by omega
        exact ⟨-1, tab_at v_IMAP_VALUES Ac (eqI_v hn10) (by decide), by decide⟩
      · obtain rfl : i = 46 := by omega
        exact ⟨-1, tab_at v_IMAP_VALUES Ac (eqI_v hn11) (by decide), by decide⟩
      · obtain rfl : i = 47 := by omega
        exact ⟨-1, tab_at v_IMAP_VALUES Ac (eqI_v hn12) (by decide), by decide⟩
      · obtain ⟨z, hz1, hz2⟩ := tab_lng (tab_or (tab_or (tab_all v_IMAP_VALUES Ac hn13 hk) (tab_lo hj (by have q : (48 : Int32).toInt = 48 := (by decide); omega))) (tab_hi hj (by have q : (58 : Int32).toInt = 58 := (by decide); omega)))
        exact ⟨z, tab_el (j := .int 0) v_IMAP_VALUES Ac hj hz1, tab_neg4 hj hz2 (by unfold dgP; omega)⟩
      · exact ⟨-1, tab_el (j := .int 0) v_IMAP_VALUES Ac hj (eqI_i (tab_or (tab_or (tab_all v_IMAP_VALUES Ac hn14 hk) (tab_lo hj (by have q : (58 : Int32).toInt = 58 := (by decide); omega))) (tab_hi hj (by have q : (65 : Int32).toInt = 65 := (by decide); omega)))), by unfold dgP; constructor <;> intro q <;> first | omega | decide⟩
      · obtain ⟨z, hz1, hz2⟩ := tab_sub (tab_or (tab_or (tab_all v_IMAP_VALUES Ac hn15 hk) (tab_lo hj (by have q : (65 : Int32).toInt = 65 := (by decide); omega))) (tab_hi hj (by have q : (91 : Int32).toInt = 91 := (by decide); omega)))
        exact ⟨z, tab_el (j := .int 0) v_IMAP_VALUES Ac hj hz1, tab_neg (n := 65) hj hz2 (by decide) (by omega) (by unfold dgP; omega)⟩
      · exact ⟨-1, tab_el (j := .int 0) v_IMAP_VALUES Ac hj (eqI_i (tab_or (tab_or (tab_all v_IMAP_VALUES Ac hn16 hk) (tab_lo hj (by have q : (91 : Int32).toInt = 91 := (by decide); omega))) (tab_hi hj (by have q : (97 : Int32).toInt = 97 := (by decide); omega)))), by unfold dgP; constructor <;> intro q <;> first | omega | decide⟩
      · obtain ⟨z, hz1, hz2⟩ := tab_sub (tab_or (tab_or (tab_all v_IMAP_VALUES Ac hn17 hk) (tab_lo hj (by have q : (97 : Int32).toInt = 97 := (by decide); omega))) (tab_hi hj (by have q : (123 : Int32).toInt = 123 := (by decide); omega)))
        exact ⟨z, tab_el (j := .int 0) v_IMAP_VALUES Ac hj hz1, tab_neg (n := 71) hj hz2 (by decide) (by omega) (by unfold dgP; omega)⟩
      · exact ⟨-1, tab_el (j := .int 0) v_IMAP_VALUES Ac hj (eqI_i (tab_or (tab_all v_IMAP_VALUES Ac hn18 hk) (tab_lo hj (by have q : (123 : Int32).toInt = 123 := (by decide); omega)))), by unfold dgP; constructor <;> intro q <;> first | omega | decide⟩
    refine ⟨c_t.cls, fun i => atv c_t i.toInt32, ⟨c_t, Ac, rfl, hs, hb, fun i hi => ?_⟩, fun i hi => ?_⟩
    · obtain ⟨z, q1, q2⟩ := key i hi
      show c_t.slots[i]? = some (.int (atv c_t i.toInt32))
      rw [q1, atv_of (x := z) (by rw [tab_nat (by omega)]; exact q1)]
    · obtain ⟨z, q1, q2⟩ := key i hi
      show atv c_t i.toInt32 = -1 ↔ _
      rw [atv_of (x := z) (by rw [tab_nat (by omega)]; exact q1)]; exact q2
  obtain ⟨n, o, h1, h2, h3, _, L, rfl, ⟨rfl, N⟩, hq⟩ := rm_law l s _ hw i0 w_Base64Alphabet_IMAP w_DirectCharacters_IMAP w_UTF7 w_IMAP_VALUES ⟨S_Base64Alphabet_IMAP, E_Base64Alphabet_IMAP, S_DirectCharacters_IMAP, E_DirectCharacters_IMAP, S_UTF7, E_UTF7, F_Base64Alphabet_IMAP_ordinal, F_UTF7_ordinal, S_IMAP_VALUES, G_IMAP_VALUES⟩ p e ha hc hk s m _ below hf ((Spec.applies_iff_loose hf).mp happ).1 ⟨rfl, State.Warmed39.refl s, rfl⟩ trivial
  refine ⟨n, _, h1, h2, h3, hpost _ _ _ _ _ _ ⟨Cond.after_iff.mpr rfl, Cond.after_iff.mpr (eq_i res_at (Term.int_eval (1)) rfl), trivial⟩ ⟨hq.1, hq.2.1, (hq.2.2.sift fun y hy => Or.inr (N y hy)).mono (by decide) (by decide)⟩⟩
theorem main_1_1 : Claimed_1_1 := comes_1 fun _ _ _ _ _ _ h hF => ⟨h.1, hF⟩
theorem main_1_2 : Claimed_1_2 := comes_1 fun _ _ _ _ _ _ h hF => ⟨h.2.1, hF⟩
end Jvm.Pilot.@@N@@
namespace Jvm.Pilot.@@N@@
open Jvm Jvm.ClassFile Sem Op Lib Jvm.Free Jvm.Stand Jvm.Pilot.@@N@@.Jvm.D
/-! MADE BY PROGRAM (witnessworld.py) out of the Statement's table words and the real class files: 15 classes; the members and pool entries that the words name. The judged class is class 1, her method 2. -/
namespace start1
open Jvm.ClassFile
def u (s : String) : CpInfo := .utf8 (stringToUtf16 s)
/-- a pool by its gaps: so many unusable entries, then the entry; so many at the end -/
def gap : Nat → List CpInfo → List CpInfo
  | 0, r => r
  | n + 1, r => .unusable :: gap n r
def poolList (es : List (Nat × CpInfo)) (last : Nat) : List CpInfo := es.foldr (fun e r => gap e.1 (e.2 :: r)) (gap last [])
def pool (es : List (Nat × CpInfo)) (last : Nat) : Array CpInfo := ⟨poolList es last⟩
def fileOf (pool : Array CpInfo) (this : Nat) (attrs : Array Attribute := #[]) (ms : Array MethodInfo := #[]) (fl : Nat := 33) (sup : Nat := 0) (ifs : Array Nat := #[]) (fds : Array FieldInfo := #[]) : ClassFile where
  minorVersion := 0
  majorVersion := 65
  constantPool := pool
  accessFlags := fl
  thisClass := this
  superClass := sup
  interfaces := ifs
  fields := fds
  methods := ms
  attributes := attrs
def plain (name : String) (sup : Option ClassId) : Class where
  name := name
  kind := .ordinary
  loader := none
  accessFlags := 33
  super := sup
  interfaces := #[]
  cf := none
  fields := #[]
  methods := #[]
  instanceTypes := #[]
  staticTypes := #[]
  resolved := #[]
  callSites := []
  init := .initialized
  statics := none
  mirror := none

def pool0 : Array CpInfo := pool [(5, u "<init>"), (0, u "()V"), (1, .class_ 10), (1, u "java/lang/Object")] 113

def k0c0 : Code := { maxStack := 0, maxLocals := 1, code := object_method_1_code, exceptionTable := #[], attributes := #[] }
def k0m0 : Method := { name := "<init>", desc := "()V", sig := { parameters := [], returnType := none }, accessFlags := 1, code := some k0c0 }
/-- java/lang/Object -/
def k0 : Class := { plain "java/lang/Object" none with
  accessFlags := 33
  interfaces := #[]
  cf := some (fileOf pool0 8 #[] #[{ accessFlags := 1, nameIndex := 5, descriptorIndex := 6, attributes := #[] }] 33 0 #[] #[])
  fields := #[]
  methods := #[k0m0]
  instanceTypes := #[]
  staticTypes := #[]
  resolved := Array.replicate 124 none
  statics := none }

def pool1 : Array CpInfo := pool [(2, .class_ 4), (1, u "java/lang/Object"), (0, u "<init>"), (0, u "()V"), (0, .methodref 8 9), (0, .class_ 10), (0, .nameAndType 11 12), (0, u "com/example/hidden_shift/hiddenshift/coder/Base64Run"), (0, u "rfc3501"), (0, u "()Lcom/example/hidden_shift/hiddenshift/coder/Base64Run;"), (0, .methodref 8 14), (0, .nameAndType 15 16), (0, u "isOpen"), (0, u "()Z"), (0, .methodref 8 18), (0, .nameAndType 19 16), (0, u "mayEnd"), (0, .methodref 8 21), (0, .nameAndType 22 16), (0, u "holdsHighSurrogate"), (0, .methodref 8 24), (0, .nameAndType 25 26), (0, u "isDigit"), (0, u "(B)Z"), (0, .methodref 28 29), (0, .class_ 30), (0, .nameAndType 31 32), (0, u "com/example/hidden_shift/hiddenshift/coder/Base64RunRfc3501PinLaw"), (0, u "imapDigit"), (0, u "(I)Z"), (0, .methodref 8 34), (0, .nameAndType 35 6), (0, u "open"), (0, .methodref 8 37), (0, .nameAndType 38 6), (0, u "close"), (3, u "law")] 2

def k1m0 : Method := { name := "<init>", desc := "()V", sig := { parameters := [], returnType := none }, accessFlags := 2, code := none }
def k1c1 : Code := { maxStack := 2, maxLocals := 1, code := method_2_code, exceptionTable := #[], attributes := #[] }
def k1m1 : Method := { name := "imapDigit", desc := "(I)Z", sig := { parameters := [.int], returnType := some .boolean }, accessFlags := 10, code := some k1c1 }
def k1c2 : Code := { maxStack := 3, maxLocals := 7, code := code, exceptionTable := #[], attributes := #[] }
def k1m2 : Method := { name := "law", desc := "(I)Z", sig := { parameters := [.int], returnType := some .boolean }, accessFlags := 9, code := some k1c2 }
/-- com/example/hidden_shift/hiddenshift/coder/Base64RunRfc3501PinLaw -/
def k1 : Class := { plain "com/example/hidden_shift/hiddenshift/coder/Base64RunRfc3501PinLaw" (some 0) with
  accessFlags := 49
  interfaces := #[]
  cf := some (fileOf pool1 28 #[] #[{ accessFlags := 2, nameIndex := 5, descriptorIndex := 6, attributes := #[] }, { accessFlags := 10, nameIndex := 31, descriptorIndex := 32, attributes := #[] }, { accessFlags := 9, nameIndex := 42, descriptorIndex := 32, attributes := #[] }] 49 2 #[] #[])
  fields := #[]
  methods := #[k1m0, k1m1, k1m2]
  instanceTypes := #[]
  staticTypes := #[]
  resolved := Array.replicate 45 none
  statics := none }

def pool2 : Array CpInfo := pool [(1, .class_ 2), (0, u "com/example/hidden_shift/hiddenshift/table/Base64Alphabet"), (0, .methodref 4 5), (0, .class_ 6), (0, .nameAndType 7 8), (0, u "java/lang/Object"), (0, u "<init>"), (0, u "()V"), (0, .fieldref 10 11), (0, .class_ 12), (0, .nameAndType 13 14), (0, u "com/example/hidden_shift/hiddenshift/coder/Base64Run"), (0, u "alphabet"), (0, u "Lcom/example/hidden_shift/hiddenshift/table/Base64Alphabet;"), (0, .fieldref 10 16), (0, .nameAndType 17 18), (0, u "barredUnits"), (0, u "Lcom/example/hidden_shift/hiddenshift/table/DirectCharacters;"), (0, .fieldref 10 20), (0, .nameAndType 21 22), (0, u "closedByDashOnly"), (0, u "Z"), (0, .fieldref 10 24), (0, .nameAndType 25 26), (0, u "shift"), (0, u "B"), (0, .fieldref 10 28), (0, .nameAndType 29 22), (0, u "runsMayAdjoin"), (3, .methodref 10 34), (0, .nameAndType 7 35), (0, u "(Lcom/example/hidden_shift/hiddenshift/table/Base64Alphabet;Lcom/example/hidden_shift/hiddenshift/table/DirectCharacters;ZCZ)V"), (0, .fieldref 1 37), (0, .nameAndType 38 14), (0, u "IMAP"), (0, .fieldref 40 41), (0, .class_ 42), (0, .nameAndType 38 18), (0, u "com/example/hidden_shift/hiddenshift/table/DirectCharacters"), (0, .fieldref 10 44), (0, .nameAndType 45 22), (0, u "open"), (0, .fieldref 10 47), (0, .nameAndType 48 49), (0, u "bits"), (0, u "I"), (0, .fieldref 10 51), (0, .nameAndType 52 49), (0, u "bitCount"), (0, .fieldref 10 54), (0, .nameAndType 55 56), (0, u "highSurrogate"), (0, u "C"), (0, .fieldref 10 58), (0, .nameAndType 59 22), (0, u "digitAdded"), (0, .fieldref 10 61), (0, .nameAndType 62 22), (0, u "digitBroke"), (0, .methodref 1 64), (0, .nameAndType 65 66), (0, u "valueOf"), (0, u "(B)I"), (22, u "mayEnd"), (0, u "()Z"), (8, u "isDigit"), (0, u "(B)Z"), (52, u "(II)Z"), (10, .methodref 10 165), (0, .nameAndType 166 153), (0, u "isClean"), (10, .methodref 10 178), (0, .nameAndType 179 90), (0, u "leftoverIsClean"), (0, u "LOW_SURROGATE_TOP_BITS"), (5, u "()Lcom/example/hidden_shift/hiddenshift/coder/Base64Run;"), (0, u "rfc3501"), (0, u "isOpen"), (0, u "close"), (9, u "holdsHighSurrogate")] 3

def k2c0 : Code := { maxStack := 2, maxLocals := 6, code := prog_14_method_1_code, exceptionTable := #[], attributes := #[] }
def k2m0 : Method := { name := "<init>", desc := "(Lcom/example/hidden_shift/hiddenshift/table/Base64Alphabet;Lcom/example/hidden_shift/hiddenshift/table/DirectCharacters;ZCZ)V", sig := { parameters := [(.object "com/example/hidden_shift/hiddenshift/table/Base64Alphabet"), (.object "com/example/hidden_shift/hiddenshift/table/DirectCharacters"), .boolean, .char, .boolean], returnType := none }, accessFlags := 2, code := some k2c0 }
def k2c1 : Code := { maxStack := 7, maxLocals := 0, code := prog_14_method_3_code, exceptionTable := #[], attributes := #[] }
def k2m1 : Method := { name := "rfc3501", desc := "()Lcom/example/hidden_shift/hiddenshift/coder/Base64Run;", sig := { parameters := [], returnType := some (.object "com/example/hidden_shift/hiddenshift/coder/Base64Run") }, accessFlags := 8, code := some k2c1 }
def k2c2 : Code := { maxStack := 1, maxLocals := 1, code := prog_14_method_4_code, exceptionTable := #[], attributes := #[] }
def k2m2 : Method := { name := "isOpen", desc := "()Z", sig := { parameters := [], returnType := some .boolean }, accessFlags := 0, code := some k2c2 }
def k2c3 : Code := { maxStack := 2, maxLocals := 1, code := prog_14_method_5_code, exceptionTable := #[], attributes := #[] }
def k2m3 : Method := { name := "open", desc := "()V", sig := { parameters := [], returnType := none }, accessFlags := 0, code := some k2c3 }
def k2c4 : Code := { maxStack := 2, maxLocals := 1, code := prog_14_method_6_code, exceptionTable := #[], attributes := #[] }
def k2m4 : Method := { name := "close", desc := "()V", sig := { parameters := [], returnType := none }, accessFlags := 0, code := some k2c4 }
def k2c5 : Code := { maxStack := 2, maxLocals := 2, code := prog_14_method_7_code, exceptionTable := #[], attributes := #[] }
def k2m5 : Method := { name := "isDigit", desc := "(B)Z", sig := { parameters := [.byte], returnType := some .boolean }, accessFlags := 0, code := some k2c5 }
def k2c6 : Code := { maxStack := 1, maxLocals := 1, code := prog_14_method_15_code, exceptionTable := #[], attributes := #[] }
def k2m6 : Method := { name := "mayEnd", desc := "()Z", sig := { parameters := [], returnType := some .boolean }, accessFlags := 0, code := some k2c6 }
def k2c7 : Code := { maxStack := 2, maxLocals := 1, code := prog_14_method_16_code, exceptionTable := #[], attributes := #[] }
def k2m7 : Method := { name := "leftoverIsClean", desc := "()Z", sig := { parameters := [], returnType := some .boolean }, accessFlags := 0, code := some k2c7 }
def k2c8 : Code := { maxStack := 3, maxLocals := 2, code := prog_14_method_17_code, exceptionTable := #[], attributes := #[] }
def k2m8 : Method := { name := "isClean", desc := "(II)Z", sig := { parameters := [.int, .int], returnType := some .boolean }, accessFlags := 10, code := some k2c8 }
def k2c9 : Code := { maxStack := 1, maxLocals := 1, code := prog_14_method_18_code, exceptionTable := #[], attributes := #[] }
def k2m9 : Method := { name := "holdsHighSurrogate", desc := "()Z", sig := { parameters := [], returnType := some .boolean }, accessFlags := 0, code := some k2c9 }
/-- com/example/hidden_shift/hiddenshift/coder/Base64Run -/
def k2 : Class := { plain "com/example/hidden_shift/hiddenshift/coder/Base64Run" (some 0) with
  accessFlags := 48
  interfaces := #[]
  cf := some (fileOf pool2 10 #[] #[{ accessFlags := 2, nameIndex := 7, descriptorIndex := 35, attributes := #[] }, { accessFlags := 8, nameIndex := 187, descriptorIndex := 186, attributes := #[] }, { accessFlags := 0, nameIndex := 188, descriptorIndex := 90, attributes := #[] }, { accessFlags := 0, nameIndex := 45, descriptorIndex := 8, attributes := #[] }, { accessFlags := 0, nameIndex := 189, descriptorIndex := 8, attributes := #[] }, { accessFlags := 0, nameIndex := 99, descriptorIndex := 100, attributes := #[] }, { accessFlags := 0, nameIndex := 89, descriptorIndex := 90, attributes := #[] }, { accessFlags := 0, nameIndex := 179, descriptorIndex := 90, attributes := #[] }, { accessFlags := 10, nameIndex := 166, descriptorIndex := 153, attributes := #[] }, { accessFlags := 0, nameIndex := 199, descriptorIndex := 90, attributes := #[] }] 48 4 #[] #[{ accessFlags := 26, nameIndex := 180, descriptorIndex := 49, attributes := #[] }, { accessFlags := 18, nameIndex := 13, descriptorIndex := 14, attributes := #[] }, { accessFlags := 18, nameIndex := 17, descriptorIndex := 18, attributes := #[] }, { accessFlags := 18, nameIndex := 21, descriptorIndex := 22, attributes := #[] }, { accessFlags := 18, nameIndex := 25, descriptorIndex := 26, attributes := #[] }, { accessFlags := 18, nameIndex := 29, descriptorIndex := 22, attributes := #[] }, { accessFlags := 2, nameIndex := 45, descriptorIndex := 22, attributes := #[] }, { accessFlags := 2, nameIndex := 48, descriptorIndex := 49, attributes := #[] }, { accessFlags := 2, nameIndex := 52, descriptorIndex := 49, attributes := #[] }, { accessFlags := 2, nameIndex := 55, descriptorIndex := 56, attributes := #[] }, { accessFlags := 2, nameIndex := 59, descriptorIndex := 22, attributes := #[] }, { accessFlags := 2, nameIndex := 62, descriptorIndex := 22, attributes := #[] }])
  fields := #[{ name := "LOW_SURROGATE_TOP_BITS", type := .int, accessFlags := 26, slot := 0, constantValue := 0 }, { name := "alphabet", type := (.object "com/example/hidden_shift/hiddenshift/table/Base64Alphabet"), accessFlags := 18, slot := 0, constantValue := 0 }, { name := "barredUnits", type := (.object "com/example/hidden_shift/hiddenshift/table/DirectCharacters"), accessFlags := 18, slot := 1, constantValue := 0 }, { name := "closedByDashOnly", type := .boolean, accessFlags := 18, slot := 2, constantValue := 0 }, { name := "shift", type := .byte, accessFlags := 18, slot := 3, constantValue := 0 }, { name := "runsMayAdjoin", type := .boolean, accessFlags := 18, slot := 4, constantValue := 0 }, { name := "open", type := .boolean, accessFlags := 2, slot := 5, constantValue := 0 }, { name := "bits", type := .int, accessFlags := 2, slot := 6, constantValue := 0 }, { name := "bitCount", type := .int, accessFlags := 2, slot := 7, constantValue := 0 }, { name := "highSurrogate", type := .char, accessFlags := 2, slot := 8, constantValue := 0 }, { name := "digitAdded", type := .boolean, accessFlags := 2, slot := 9, constantValue := 0 }, { name := "digitBroke", type := .boolean, accessFlags := 2, slot := 10, constantValue := 0 }]
  methods := #[k2m0, k2m1, k2m2, k2m3, k2m4, k2m5, k2m6, k2m7, k2m8, k2m9]
  instanceTypes := #[(.object "com/example/hidden_shift/hiddenshift/table/Base64Alphabet"), (.object "com/example/hidden_shift/hiddenshift/table/DirectCharacters"), .boolean, .byte, .boolean, .boolean, .int, .int, .char, .boolean, .boolean]
  staticTypes := #[.int]
  resolved := Array.replicate 203 none
  statics := none }

def pool3 : Array CpInfo := pool [(1, .class_ 2), (0, u "java/lang/constant/Constable"), (0, .class_ 4), (0, u "java/lang/Object")] 6

/-- java/lang/constant/Constable -/
def k3 : Class := { plain "java/lang/constant/Constable" (some 0) with
  accessFlags := 1537
  interfaces := #[]
  cf := some (fileOf pool3 1 #[] #[] 1537 3 #[] #[])
  fields := #[]
  methods := #[]
  instanceTypes := #[]
  staticTypes := #[]
  resolved := Array.replicate 11 none
  statics := none }

def pool4 : Array CpInfo := pool [(1, .class_ 2), (0, u "java/lang/Comparable"), (0, .class_ 4), (0, u "java/lang/Object")] 7

/-- java/lang/Comparable -/
def k4 : Class := { plain "java/lang/Comparable" (some 0) with
  accessFlags := 1537
  interfaces := #[]
  cf := some (fileOf pool4 1 #[] #[] 1537 3 #[] #[])
  fields := #[]
  methods := #[]
  instanceTypes := #[]
  staticTypes := #[]
  resolved := Array.replicate 12 none
  statics := none }

def pool5 : Array CpInfo := pool [(1, .class_ 2), (0, u "java/io/Serializable"), (0, .class_ 4), (0, u "java/lang/Object")] 2

/-- java/io/Serializable -/
def k5 : Class := { plain "java/io/Serializable" (some 0) with
  accessFlags := 1537
  interfaces := #[]
  cf := some (fileOf pool5 1 #[] #[] 1537 3 #[] #[])
  fields := #[]
  methods := #[]
  instanceTypes := #[]
  staticTypes := #[]
  resolved := Array.replicate 7 none
  statics := none }

def pool6 : Array CpInfo := pool [(2, .class_ 4), (1, u "java/lang/Enum"), (0, u "name"), (0, u "Ljava/lang/String;"), (2, u "ordinal"), (0, u "I"), (1, .class_ 14), (1, u "java/lang/Object"), (4, u "hash"), (86, .class_ 108), (1, u "java/lang/Enum$EnumDesc"), (2, .class_ 112), (0, u "java/lang/constant/Constable"), (0, .class_ 114), (0, u "java/lang/Comparable"), (0, .class_ 116), (0, u "java/io/Serializable")] 87

/-- java/lang/Enum -/
def k6 : Class := { plain "java/lang/Enum" (some 0) with
  accessFlags := 1057
  interfaces := #[3, 4, 5]
  cf := some (fileOf pool6 2 #[.nestMembers #[106]] #[] 1057 12 #[111, 113, 115] #[{ accessFlags := 18, nameIndex := 5, descriptorIndex := 6, attributes := #[] }, { accessFlags := 18, nameIndex := 9, descriptorIndex := 10, attributes := #[] }, { accessFlags := 2, nameIndex := 19, descriptorIndex := 10, attributes := #[] }])
  fields := #[{ name := "name", type := (.object "java/lang/String"), accessFlags := 18, slot := 0, constantValue := 0 }, { name := "ordinal", type := .int, accessFlags := 18, slot := 1, constantValue := 0 }, { name := "hash", type := .int, accessFlags := 2, slot := 2, constantValue := 0 }]
  methods := #[]
  instanceTypes := #[(.object "java/lang/String"), .int, .int]
  staticTypes := #[]
  resolved := Array.replicate 204 none
  statics := none }

def pool7 : Array CpInfo := pool [(1, .class_ 2), (0, u "com/example/hidden_shift/hiddenshift/table/Base64Alphabet"), (0, .fieldref 1 4), (0, .nameAndType 5 6), (0, u "UTF7"), (0, u "Lcom/example/hidden_shift/hiddenshift/table/Base64Alphabet;"), (2, u "IMAP"), (2, u "$VALUES"), (0, u "[Lcom/example/hidden_shift/hiddenshift/table/Base64Alphabet;"), (6, .class_ 22), (1, u "java/lang/Enum"), (0, u "valueOf"), (6, .class_ 32), (1, u "com/example/hidden_shift/hiddenshift/table/Base64Alphabet$Tables"), (1, u "[B"), (0, .fieldref 30 36), (0, .nameAndType 37 34), (0, u "IMAP_VALUES"), (13, u "NOT_A_DIGIT"), (0, u "I"), (9, u "(B)I")] 11

def k7c0 : Code := { maxStack := 3, maxLocals := 2, code := prog_23_method_4_code, exceptionTable := #[], attributes := #[] }
def k7m0 : Method := { name := "valueOf", desc := "(B)I", sig := { parameters := [.byte], returnType := some .int }, accessFlags := 1, code := some k7c0 }
/-- com/example/hidden_shift/hiddenshift/table/Base64Alphabet -/
def k7 : Class := { plain "com/example/hidden_shift/hiddenshift/table/Base64Alphabet" (some 6) with
  accessFlags := 16433
  interfaces := #[]
  cf := some (fileOf pool7 1 #[.nestMembers #[30]] #[{ accessFlags := 1, nameIndex := 23, descriptorIndex := 62, attributes := #[] }] 16433 20 #[] #[{ accessFlags := 16409, nameIndex := 5, descriptorIndex := 6, attributes := #[] }, { accessFlags := 16409, nameIndex := 9, descriptorIndex := 6, attributes := #[] }, { accessFlags := 25, nameIndex := 51, descriptorIndex := 52, attributes := #[] }, { accessFlags := 4122, nameIndex := 12, descriptorIndex := 13, attributes := #[] }])
  fields := #[{ name := "UTF7", type := (.object "com/example/hidden_shift/hiddenshift/table/Base64Alphabet"), accessFlags := 16409, slot := 0, constantValue := 0 }, { name := "IMAP", type := (.object "com/example/hidden_shift/hiddenshift/table/Base64Alphabet"), accessFlags := 16409, slot := 1, constantValue := 0 }, { name := "NOT_A_DIGIT", type := .int, accessFlags := 25, slot := 2, constantValue := 0 }, { name := "$VALUES", type := (.array (.object "com/example/hidden_shift/hiddenshift/table/Base64Alphabet")), accessFlags := 4122, slot := 3, constantValue := 0 }]
  methods := #[k7m0]
  instanceTypes := #[(.object "java/lang/String"), .int, .int]
  staticTypes := #[(.object "com/example/hidden_shift/hiddenshift/table/Base64Alphabet"), (.object "com/example/hidden_shift/hiddenshift/table/Base64Alphabet"), .int, (.array (.object "com/example/hidden_shift/hiddenshift/table/Base64Alphabet"))]
  resolved := Array.replicate 74 none
  statics := some 0 }

def pool8 : Array CpInfo := pool [(1, .class_ 2), (0, u "com/example/hidden_shift/hiddenshift/table/DirectCharacters"), (2, u "MAIL_SAFE"), (0, u "Lcom/example/hidden_shift/hiddenshift/table/DirectCharacters;"), (2, u "WITH_OPTIONAL"), (2, u "IMAP"), (2, u "$VALUES"), (0, u "[Lcom/example/hidden_shift/hiddenshift/table/DirectCharacters;"), (6, .class_ 25), (1, u "java/lang/Enum"), (8, u "direct"), (0, u "[Z"), (11, .class_ 48), (0, u "com/example/hidden_shift/hiddenshift/table/DirectCharacters$Sets")] 35

/-- com/example/hidden_shift/hiddenshift/table/DirectCharacters -/
def k8 : Class := { plain "com/example/hidden_shift/hiddenshift/table/DirectCharacters" (some 6) with
  accessFlags := 16433
  interfaces := #[]
  cf := some (fileOf pool8 1 #[.nestMembers #[47]] #[] 16433 23 #[] #[{ accessFlags := 16409, nameIndex := 5, descriptorIndex := 6, attributes := #[] }, { accessFlags := 16409, nameIndex := 9, descriptorIndex := 6, attributes := #[] }, { accessFlags := 16409, nameIndex := 12, descriptorIndex := 6, attributes := #[] }, { accessFlags := 18, nameIndex := 34, descriptorIndex := 35, attributes := #[] }, { accessFlags := 4122, nameIndex := 15, descriptorIndex := 16, attributes := #[] }])
  fields := #[{ name := "MAIL_SAFE", type := (.object "com/example/hidden_shift/hiddenshift/table/DirectCharacters"), accessFlags := 16409, slot := 0, constantValue := 0 }, { name := "WITH_OPTIONAL", type := (.object "com/example/hidden_shift/hiddenshift/table/DirectCharacters"), accessFlags := 16409, slot := 1, constantValue := 0 }, { name := "IMAP", type := (.object "com/example/hidden_shift/hiddenshift/table/DirectCharacters"), accessFlags := 16409, slot := 2, constantValue := 0 }, { name := "direct", type := (.array .boolean), accessFlags := 18, slot := 3, constantValue := 0 }, { name := "$VALUES", type := (.array (.object "com/example/hidden_shift/hiddenshift/table/DirectCharacters")), accessFlags := 4122, slot := 3, constantValue := 0 }]
  methods := #[]
  instanceTypes := #[(.object "java/lang/String"), .int, .int, (.array .boolean)]
  staticTypes := #[(.object "com/example/hidden_shift/hiddenshift/table/DirectCharacters"), (.object "com/example/hidden_shift/hiddenshift/table/DirectCharacters"), (.object "com/example/hidden_shift/hiddenshift/table/DirectCharacters"), (.array (.object "com/example/hidden_shift/hiddenshift/table/DirectCharacters"))]
  resolved := Array.replicate 84 none
  statics := some 1 }

def pool9 : Array CpInfo := pool [(1, .class_ 2), (0, u "com/example/hidden_shift/hiddenshift/table/Base64Alphabet"), (1, .class_ 6), (1, u "java/lang/Object"), (0, u "<init>"), (0, u "()V"), (17, .class_ 28), (1, u "com/example/hidden_shift/hiddenshift/table/Base64Alphabet$Tables"), (4, u "UTF7_DIGITS"), (0, u "[B"), (6, u "UTF7_VALUES"), (2, u "IMAP_DIGITS"), (2, u "IMAP_VALUES")] 24

def k9m0 : Method := { name := "<init>", desc := "()V", sig := { parameters := [], returnType := none }, accessFlags := 2, code := none }
/-- com/example/hidden_shift/hiddenshift/table/Base64Alphabet$Tables -/
def k9 : Class := { plain "com/example/hidden_shift/hiddenshift/table/Base64Alphabet$Tables" (some 0) with
  accessFlags := 48
  interfaces := #[]
  cf := some (fileOf pool9 26 #[.nestHost 1] #[{ accessFlags := 2, nameIndex := 7, descriptorIndex := 8, attributes := #[] }] 48 4 #[] #[{ accessFlags := 24, nameIndex := 33, descriptorIndex := 34, attributes := #[] }, { accessFlags := 24, nameIndex := 41, descriptorIndex := 34, attributes := #[] }, { accessFlags := 24, nameIndex := 44, descriptorIndex := 34, attributes := #[] }, { accessFlags := 24, nameIndex := 47, descriptorIndex := 34, attributes := #[] }])
  fields := #[{ name := "UTF7_DIGITS", type := (.array .byte), accessFlags := 24, slot := 0, constantValue := 0 }, { name := "UTF7_VALUES", type := (.array .byte), accessFlags := 24, slot := 1, constantValue := 0 }, { name := "IMAP_DIGITS", type := (.array .byte), accessFlags := 24, slot := 2, constantValue := 0 }, { name := "IMAP_VALUES", type := (.array .byte), accessFlags := 24, slot := 3, constantValue := 0 }]
  methods := #[k9m0]
  instanceTypes := #[]
  staticTypes := #[(.array .byte), (.array .byte), (.array .byte), (.array .byte)]
  resolved := Array.replicate 72 none
  statics := some 2 }

def pool10 : Array CpInfo := pool [(1, u "java/lang/Cloneable"), (0, .class_ 1), (0, u "java/lang/Object"), (0, .class_ 3)] 3

/-- java/lang/Cloneable -/
def k10 : Class := { plain "java/lang/Cloneable" (some 0) with
  accessFlags := 1537
  interfaces := #[]
  cf := some (fileOf pool10 2 #[] #[] 1537 4 #[] #[])
  fields := #[]
  methods := #[]
  instanceTypes := #[]
  staticTypes := #[]
  resolved := Array.replicate 8 none
  statics := none }

/-- the primitive byte -/
def k11 : Class := { plain "byte" none with kind := .primitive 'B', accessFlags := 0x411 }
/-- [B -/
def k12 : Class := { plain "[B" (some 0) with kind := .array 11 .byte, interfaces := #[10, 5], accessFlags := 1041 }

/-- the primitive int -/
def k13 : Class := { plain "int" none with kind := .primitive 'I', accessFlags := 0x411 }
/-- [I -/
def k14 : Class := { plain "[I" (some 0) with kind := .array 13 .int, interfaces := #[10, 5], accessFlags := 1041 }

def heap : Heap := #[{ cls := 7, slots := #[.ref 5, .ref 3, .int 0, .null], vm := .statics 7 },
  { cls := 8, slots := #[.null, .null, .ref 4, .null], vm := .statics 8 },
  { cls := 9, slots := #[.null, .null, .null, .ref 6], vm := .statics 9 },
  { cls := 7, slots := #[.null, .int 1, .int 0], vm := .none },
  { cls := 8, slots := #[.null, .int 0, .int 0, .null], vm := .none },
  { cls := 7, slots := #[.null, .int 0, .int 0], vm := .none },
  { cls := 12, slots := #[.int (-1), .int (-1), .int (-1), .int (-1), .int (-1), .int (-1), .int (-1), .int (-1), .int (-1), .int (-1), .int (-1), .int (-1), .int (-1), .int (-1), .int (-1), .int (-1), .int (-1), .int (-1), .int (-1), .int (-1), .int (-1), .int (-1), .int (-1), .int (-1), .int (-1), .int (-1), .int (-1), .int (-1), .int (-1), .int (-1), .int (-1), .int (-1), .int (-1), .int (-1), .int (-1), .int (-1), .int (-1), .int (-1), .int (-1), .int (-1), .int (-1), .int (-1), .int (-1), .int 62, .int 63, .int (-1), .int (-1), .int (-1), .int 52, .int 53, .int 54, .int 55, .int 56, .int 57, .int 58, .int 59, .int 60, .int 61, .int (-1), .int (-1), .int (-1), .int (-1), .int (-1), .int (-1), .int (-1), .int 0, .int 1, .int 2, .int 3, .int 4, .int 5, .int 6, .int 7, .int 8, .int 9, .int 10, .int 11, .int 12, .int 13, .int 14, .int 15, .int 16, .int 17, .int 18, .int 19, .int 20, .int 21, .int 22, .int 23, .int 24, .int 25, .int (-1), .int (-1), .int (-1), .int (-1), .int (-1), .int (-1), .int 26, .int 27, .int 28, .int 29, .int 30, .int 31, .int 32, .int 33, .int 34, .int 35, .int 36, .int 37, .int 38, .int 39, .int 40, .int 41, .int 42, .int 43, .int 44, .int 45, .int 46, .int 47, .int 48, .int 49, .int 50, .int 51, .int (-1), .int (-1), .int (-1), .int (-1), .int (-1), .int (-1), .int (-1), .int (-1), .int (-1), .int (-1), .int (-1), .int (-1), .int (-1), .int (-1), .int (-1), .int (-1), .int (-1), .int (-1), .int (-1), .int (-1), .int (-1), .int (-1), .int (-1), .int (-1), .int (-1), .int (-1), .int (-1), .int (-1), .int (-1), .int (-1), .int (-1), .int (-1), .int (-1), .int (-1), .int (-1), .int (-1), .int (-1), .int (-1), .int (-1), .int (-1), .int (-1), .int (-1), .int (-1), .int (-1), .int (-1), .int (-1), .int (-1), .int (-1), .int (-1), .int (-1), .int (-1), .int (-1), .int (-1), .int (-1), .int (-1), .int (-1), .int (-1), .int (-1), .int (-1), .int (-1), .int (-1), .int (-1), .int (-1), .int (-1), .int (-1), .int (-1), .int (-1), .int (-1), .int (-1), .int (-1), .int (-1), .int (-1), .int (-1), .int (-1), .int (-1), .int (-1), .int (-1), .int (-1), .int (-1), .int (-1), .int (-1), .int (-1), .int (-1), .int (-1), .int (-1), .int (-1), .int (-1), .int (-1), .int (-1), .int (-1), .int (-1), .int (-1), .int (-1), .int (-1), .int (-1), .int (-1), .int (-1), .int (-1), .int (-1), .int (-1), .int (-1), .int (-1), .int (-1), .int (-1), .int (-1), .int (-1), .int (-1), .int (-1), .int (-1), .int (-1), .int (-1), .int (-1), .int (-1), .int (-1), .int (-1), .int (-1), .int (-1), .int (-1), .int (-1), .int (-1), .int (-1), .int (-1), .int (-1), .int (-1), .int (-1), .int (-1), .int (-1), .int (-1), .int (-1), .int (-1), .int (-1), .int (-1), .int (-1)], vm := .none }]
def classes : Array Class := #[k0, k1, k2, k3, k4, k5, k6, k7, k8, k9, k10, k11, k12, k13, k14]
def interned : List (Array UInt16 × Addr) := []
def slotsUsed : Nat := 278
def theMethod : MethodId := ⟨1, 2⟩
def args0 : Array Value := #[.int 5]
def aboutOver (below : List Frame) : State where
  vm := { classes := classes, interned := interned.toArray }
  heap := heap
  slotsUsed := slotsUsed
  threads := #[{ frames := .invoking theMethod args0 :: below }]
def below0 : List Frame := [.native { method := ⟨0, 0⟩, args := #[] }]
def about1 : State := aboutOver below0
def p0 : Program := .bare "" "" ""
def e0 : Env := launch0.env 0 0 0
theorem w_frames : about1.frames = Frame.invoking theMethod args0 :: below0 := rfl
set_option maxRecDepth 65536 in
theorem w_args : argsFit about1.vm theMethod args0 = true := by decide +kernel
set_option maxRecDepth 65536 in
theorem w_heap : heapFits about1 = true := by decide +kernel
set_option maxRecDepth 65536 in
theorem w_runnable : about1.curStatus? = some .runnable := by decide +kernel
set_option maxRecDepth 65536 in
theorem w_alone : about1.alone = true := by decide +kernel
set_option maxRecDepth 65536 in
theorem w_named : about1.methodNamed? x = some theMethod := by decide +kernel
set_option maxRecDepth 65536 in
theorem w_hears : about1.hears theMethod below0 = true := by decide +kernel
set_option maxRecDepth 65536 in
theorem w_ripe : about1.ripe theMethod args0 below0 = true := by decide +kernel
theorem w_running : about1.status = .running := rfl
set_option maxRecDepth 65536 in
theorem w_room : about1.hasRoom e0.platform room_1 = true :=
  launch0.hasRoom_least _ room_1 (by decide +kernel) (by decide +kernel) (by decide +kernel) (by decide +kernel) (by decide +kernel) (by decide +kernel)
theorem allAtoms_all (ts : List Jvm.Cond) (a : Array Jvm.Value) (st : Jvm.State) : (allAtoms ts).before a st = ts.all (fun c => c.before a st) := by
  induction ts with
  | nil => rfl
  | cons c t ih =>
    show (Jvm.Cond.and c (allAtoms t)).before a st = _
    rw [Jvm.Cond.before_and, ih, List.all_cons]
def words1 : List Jvm.Cond := Jvm.Cond.code x code maxLocals ret :: tables_1
/-- a 'code' word, met by the world's own term for the bytes: nothing is compared byte by byte -/
theorem code_word {y : MethodName} {bytes : ByteArray} {mx : Nat} {rt : Option FieldType} {a : Array Value} {s : State} {m : MethodId} {meth : Method} {c : Code} (h1 : s.methodNamed? y = some m) (h2 : s.vm.method? m = some meth) (h3 : meth.code = some c) (h4 : c.code = bytes)
    (h5 : (c.maxLocals == mx && c.exceptionTable.isEmpty && decide (c.maxStack ≤ mostOperands) && decide (meth.sig.returnType = rt) && !meth.locks && decide (parseMethodDescriptor y.desc = some meth.sig)) = true) : (Jvm.Cond.code y bytes mx rt).before a s = true := by
  simp only [Bool.and_eq_true, beq_iff_eq, Bool.not_eq_true', decide_eq_true_eq] at h5
  obtain ⟨⟨⟨⟨⟨g1, g2⟩, g3⟩, g4⟩, g5⟩, g6⟩ := h5
  simp [Cond.before, Cond.holds, Cond.value, h1, h2, h3, h4, g1, g2, g3, g4, g5, g6]
def isCode : Jvm.Cond → Bool
  | .code _ _ _ _ => true
  | _ => false
theorem all_split {L : List Jvm.Cond} {P : Jvm.Cond → Bool} (h1 : L.all (fun c => isCode c || P c) = true) (h2 : ∀ c ∈ L.filter isCode, P c = true) : L.all P = true := by
  refine List.all_eq_true.mpr fun c hc => ?_
  have h := List.all_eq_true.mp h1 c hc
  rcases Bool.eq_false_or_eq_true (isCode c) with hi | hi
  · exact h2 c (List.mem_filter.mpr ⟨hc, hi⟩)
  · simpa [hi] using h
set_option maxRecDepth 65536 in
theorem w_c0 : (Jvm.Cond.code x code maxLocals ret).before args0 about1 = true := code_word (m := ⟨1, 2⟩) (meth := k1m2) (c := k1c2) (by decide +kernel) rfl rfl rfl (by decide +kernel)
set_option maxRecDepth 65536 in
theorem w_c1 : (Jvm.Cond.code ({ cls := "com/example/hidden_shift/hiddenshift/coder/Base64Run", name := "rfc3501", desc := "()Lcom/example/hidden_shift/hiddenshift/coder/Base64Run;" } : Jvm.MethodName) prog_14_method_3_code (0 : Nat) (Option.some (Jvm.ClassFile.FieldType.object "com/example/hidden_shift/hiddenshift/coder/Base64Run"))).before args0 about1 = true := code_word (m := ⟨2, 1⟩) (meth := k2m1) (c := k2c1) (by decide +kernel) rfl rfl rfl (by decide +kernel)
set_option maxRecDepth 65536 in
theorem w_c2 : (Jvm.Cond.code ({ cls := "com/example/hidden_shift/hiddenshift/coder/Base64Run", name := "<init>", desc := "(Lcom/example/hidden_shift/hiddenshift/table/Base64Alphabet;Lcom/example/hidden_shift/hiddenshift/table/DirectCharacters;ZCZ)V" } : Jvm.MethodName) prog_14_method_1_code (6 : Nat) (Option.none : Option Jvm.ClassFile.FieldType)).before args0 about1 = true := code_word (m := ⟨2, 0⟩) (meth := k2m0) (c := k2c0) (by decide +kernel) rfl rfl rfl (by decide +kernel)
set_option maxRecDepth 65536 in
theorem w_c3 : (Jvm.Cond.code ({ cls := "java/lang/Object", name := "<init>", desc := "()V" } : Jvm.MethodName) object_method_1_code (1 : Nat) (Option.none : Option Jvm.ClassFile.FieldType)).before args0 about1 = true := code_word (m := ⟨0, 0⟩) (meth := k0m0) (c := k0c0) (by decide +kernel) rfl rfl rfl (by decide +kernel)
set_option maxRecDepth 65536 in
theorem w_c4 : (Jvm.Cond.code ({ cls := "com/example/hidden_shift/hiddenshift/coder/Base64Run", name := "isOpen", desc := "()Z" } : Jvm.MethodName) prog_14_method_4_code (1 : Nat) (Option.some Jvm.ClassFile.FieldType.boolean)).before args0 about1 = true := code_word (m := ⟨2, 2⟩) (meth := k2m2) (c := k2c2) (by decide +kernel) rfl rfl rfl (by decide +kernel)
set_option maxRecDepth 65536 in
theorem w_c5 : (Jvm.Cond.code ({ cls := "com/example/hidden_shift/hiddenshift/coder/Base64Run", name := "mayEnd", desc := "()Z" } : Jvm.MethodName) prog_14_method_15_code (1 : Nat) (Option.some Jvm.ClassFile.FieldType.boolean)).before args0 about1 = true := code_word (m := ⟨2, 6⟩) (meth := k2m6) (c := k2c6) (by decide +kernel) rfl rfl rfl (by decide +kernel)
set_option maxRecDepth 65536 in
theorem w_c6 : (Jvm.Cond.code ({ cls := "com/example/hidden_shift/hiddenshift/coder/Base64Run", name := "leftoverIsClean", desc := "()Z" } : Jvm.MethodName) prog_14_method_16_code (1 : Nat) (Option.some Jvm.ClassFile.FieldType.boolean)).before args0 about1 = true := code_word (m := ⟨2, 7⟩) (meth := k2m7) (c := k2c7) (by decide +kernel) rfl rfl rfl (by decide +kernel)
set_option maxRecDepth 65536 in
theorem w_c7 : (Jvm.Cond.code ({ cls := "com/example/hidden_shift/hiddenshift/coder/Base64Run", name := "isClean", desc := "(II)Z" } : Jvm.MethodName) prog_14_method_17_code (2 : Nat) (Option.some Jvm.ClassFile.FieldType.boolean)).before args0 about1 = true := code_word (m := ⟨2, 8⟩) (meth := k2m8) (c := k2c8) (by decide +kernel) rfl rfl rfl (by decide +kernel)
set_option maxRecDepth 65536 in
theorem w_c8 : (Jvm.Cond.code ({ cls := "com/example/hidden_shift/hiddenshift/coder/Base64Run", name := "holdsHighSurrogate", desc := "()Z" } : Jvm.MethodName) prog_14_method_18_code (1 : Nat) (Option.some Jvm.ClassFile.FieldType.boolean)).before args0 about1 = true := code_word (m := ⟨2, 9⟩) (meth := k2m9) (c := k2c9) (by decide +kernel) rfl rfl rfl (by decide +kernel)
set_option maxRecDepth 65536 in
theorem w_c9 : (Jvm.Cond.code ({ cls := "com/example/hidden_shift/hiddenshift/coder/Base64Run", name := "isDigit", desc := "(B)Z" } : Jvm.MethodName) prog_14_method_7_code (2 : Nat) (Option.some Jvm.ClassFile.FieldType.boolean)).before args0 about1 = true := code_word (m := ⟨2, 5⟩) (meth := k2m5) (c := k2c5) (by decide +kernel) rfl rfl rfl (by decide +kernel)
set_option maxRecDepth 65536 in
theorem w_c10 : (Jvm.Cond.code ({ cls := "com/example/hidden_shift/hiddenshift/table/Base64Alphabet", name := "valueOf", desc := "(B)I" } : Jvm.MethodName) prog_23_method_4_code (2 : Nat) (Option.some Jvm.ClassFile.FieldType.int)).before args0 about1 = true := code_word (m := ⟨7, 0⟩) (meth := k7m0) (c := k7c0) (by decide +kernel) rfl rfl rfl (by decide +kernel)
set_option maxRecDepth 65536 in
theorem w_c11 : (Jvm.Cond.code ({ cls := "com/example/hidden_shift/hiddenshift/coder/Base64RunRfc3501PinLaw", name := "imapDigit", desc := "(I)Z" } : Jvm.MethodName) method_2_code (1 : Nat) (Option.some Jvm.ClassFile.FieldType.boolean)).before args0 about1 = true := code_word (m := ⟨1, 1⟩) (meth := k1m1) (c := k1c1) (by decide +kernel) rfl rfl rfl (by decide +kernel)
set_option maxRecDepth 65536 in
theorem w_c12 : (Jvm.Cond.code ({ cls := "com/example/hidden_shift/hiddenshift/coder/Base64Run", name := "open", desc := "()V" } : Jvm.MethodName) prog_14_method_5_code (1 : Nat) (Option.none : Option Jvm.ClassFile.FieldType)).before args0 about1 = true := code_word (m := ⟨2, 3⟩) (meth := k2m3) (c := k2c3) (by decide +kernel) rfl rfl rfl (by decide +kernel)
set_option maxRecDepth 65536 in
theorem w_c13 : (Jvm.Cond.code ({ cls := "com/example/hidden_shift/hiddenshift/coder/Base64Run", name := "close", desc := "()V" } : Jvm.MethodName) prog_14_method_6_code (1 : Nat) (Option.none : Option Jvm.ClassFile.FieldType)).before args0 about1 = true := code_word (m := ⟨2, 4⟩) (meth := k2m4) (c := k2c4) (by decide +kernel) rfl rfl rfl (by decide +kernel)
def codes1 : List Jvm.Cond := [Jvm.Cond.code x code maxLocals ret, Jvm.Cond.code ({ cls := "com/example/hidden_shift/hiddenshift/coder/Base64Run", name := "rfc3501", desc := "()Lcom/example/hidden_shift/hiddenshift/coder/Base64Run;" } : Jvm.MethodName) prog_14_method_3_code (0 : Nat) (Option.some (Jvm.ClassFile.FieldType.object "com/example/hidden_shift/hiddenshift/coder/Base64Run")), Jvm.Cond.code ({ cls := "com/example/hidden_shift/hiddenshift/coder/Base64Run", name := "<init>", desc := "(Lcom/example/hidden_shift/hiddenshift/table/Base64Alphabet;Lcom/example/hidden_shift/hiddenshift/table/DirectCharacters;ZCZ)V" } : Jvm.MethodName) prog_14_method_1_code (6 : Nat) (Option.none : Option Jvm.ClassFile.FieldType), Jvm.Cond.code ({ cls := "java/lang/Object", name := "<init>", desc := "()V" } : Jvm.MethodName) object_method_1_code (1 : Nat) (Option.none : Option Jvm.ClassFile.FieldType), Jvm.Cond.code ({ cls := "com/example/hidden_shift/hiddenshift/coder/Base64Run", name := "isOpen", desc := "()Z" } : Jvm.MethodName) prog_14_method_4_code (1 : Nat) (Option.some Jvm.ClassFile.FieldType.boolean), Jvm.Cond.code ({ cls := "com/example/hidden_shift/hiddenshift/coder/Base64Run", name := "mayEnd", desc := "()Z" } : Jvm.MethodName) prog_14_method_15_code (1 : Nat) (Option.some Jvm.ClassFile.FieldType.boolean), Jvm.Cond.code ({ cls := "com/example/hidden_shift/hiddenshift/coder/Base64Run", name := "leftoverIsClean", desc := "()Z" } : Jvm.MethodName) prog_14_method_16_code (1 : Nat) (Option.some Jvm.ClassFile.FieldType.boolean), Jvm.Cond.code ({ cls := "com/example/hidden_shift/hiddenshift/coder/Base64Run", name := "isClean", desc := "(II)Z" } : Jvm.MethodName) prog_14_method_17_code (2 : Nat) (Option.some Jvm.ClassFile.FieldType.boolean), Jvm.Cond.code ({ cls := "com/example/hidden_shift/hiddenshift/coder/Base64Run", name := "holdsHighSurrogate", desc := "()Z" } : Jvm.MethodName) prog_14_method_18_code (1 : Nat) (Option.some Jvm.ClassFile.FieldType.boolean), Jvm.Cond.code ({ cls := "com/example/hidden_shift/hiddenshift/coder/Base64Run", name := "isDigit", desc := "(B)Z" } : Jvm.MethodName) prog_14_method_7_code (2 : Nat) (Option.some Jvm.ClassFile.FieldType.boolean), Jvm.Cond.code ({ cls := "com/example/hidden_shift/hiddenshift/table/Base64Alphabet", name := "valueOf", desc := "(B)I" } : Jvm.MethodName) prog_23_method_4_code (2 : Nat) (Option.some Jvm.ClassFile.FieldType.int), Jvm.Cond.code ({ cls := "com/example/hidden_shift/hiddenshift/coder/Base64RunRfc3501PinLaw", name := "imapDigit", desc := "(I)Z" } : Jvm.MethodName) method_2_code (1 : Nat) (Option.some Jvm.ClassFile.FieldType.boolean), Jvm.Cond.code ({ cls := "com/example/hidden_shift/hiddenshift/coder/Base64Run", name := "open", desc := "()V" } : Jvm.MethodName) prog_14_method_5_code (1 : Nat) (Option.none : Option Jvm.ClassFile.FieldType), Jvm.Cond.code ({ cls := "com/example/hidden_shift/hiddenshift/coder/Base64Run", name := "close", desc := "()V" } : Jvm.MethodName) prog_14_method_6_code (1 : Nat) (Option.none : Option Jvm.ClassFile.FieldType)]
set_option maxRecDepth 65536 in
theorem codes_eq : words1.filter isCode = codes1 := rfl
theorem w_codes : ∀ c ∈ words1.filter isCode, c.before args0 about1 = true := by
  rw [codes_eq]
  intro c hc
  simp only [codes1, List.mem_cons, List.not_mem_nil, or_false] at hc
  rcases hc with rfl | rfl | rfl | rfl | rfl | rfl | rfl | rfl | rfl | rfl | rfl | rfl | rfl | rfl
  · exact w_c0
  · exact w_c1
  · exact w_c2
  · exact w_c3
  · exact w_c4
  · exact w_c5
  · exact w_c6
  · exact w_c7
  · exact w_c8
  · exact w_c9
  · exact w_c10
  · exact w_c11
  · exact w_c12
  · exact w_c13
set_option maxRecDepth 65536 in
theorem w_t1 : (words1.take 24).all (fun c => isCode c || c.before args0 about1) = true := by decide +kernel
set_option maxRecDepth 65536 in
theorem w_t2 : ((words1.drop 24).take 24).all (fun c => isCode c || c.before args0 about1) = true := by decide +kernel
set_option maxRecDepth 65536 in
theorem w_t3 : (((words1.drop 24).drop 24).take 24).all (fun c => isCode c || c.before args0 about1) = true := by decide +kernel
set_option maxRecDepth 65536 in
theorem w_t4 : (((words1.drop 24).drop 24).drop 24).all (fun c => isCode c || c.before args0 about1) = true := by decide +kernel
theorem w_tables : (allAtoms (Jvm.Cond.code x code maxLocals ret :: tables_1)).before args0 about1 = true := by
  rw [allAtoms_all]
  show words1.all (fun c => c.before args0 about1) = true
  refine all_split ?_ w_codes
  rw [← List.take_append_drop 24 words1, List.all_append, w_t1, ← List.take_append_drop 24 (words1.drop 24), List.all_append, w_t2, ← List.take_append_drop 24 ((words1.drop 24).drop 24), List.all_append, w_t3, w_t4]
  rfl
set_option maxRecDepth 65536 in
theorem w_case : (Jvm.Cond.and given_1 narrow_1).before args0 about1 = true := by decide +kernel
theorem w_applies : (headSpec (Jvm.Cond.code x code maxLocals ret :: tables_1) room_1).applies x e0.platform about1 = true :=
  (Spec.applies_iff w_frames).mpr ⟨w_running, w_runnable, w_alone, w_named, w_hears, w_ripe, w_room, w_tables⟩
theorem atStart : AtStart classFile x code maxLocals ret World_1 tables_1 room_1 Calls_1 rest_1 Pre_1 launch0 p0 e0 about1 theMethod args0 below0 :=
  ⟨lists_1, trivial, launch0.admits_env _ _ _, launch0.least_env, fairChoices_fair.cas, fairChoices_fair.clock, w_frames, w_args, w_heap, w_applies, trivial, trivial, w_case⟩
end start1
theorem witness_1 : WitnessClaimed_1 := ⟨start1.p0, start1.e0, start1.about1, start1.theMethod, start1.args0, start1.below0, start1.atStart⟩
end Jvm.Pilot.@@N@@
