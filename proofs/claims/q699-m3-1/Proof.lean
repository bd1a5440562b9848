import JvmDerived
import JvmDerived.Pilot.@@N@@Statement
import JvmDerived.Pilot.@@N@@Code
set_option linter.unusedVariables false
set_option linter.unusedSimpArgs false

namespace Jvm.OwnKit
open Sem ClassFile Op Lib Jvm.Stand Jvm.Free Jvm.LawKit Jvm.RoadKit
section Kit
variable {p : Program} {l : Launch} {e : Env} {R : Room} {s : State} {m : MethodId} {args : Array Value} {below : List Frame} {meth : Method} {c : Code} {T : State} {locs : List Loc} {cells slots : Nat} {Z : State} {a0 : Array Value} {h : Heap} {own nm : String} {bytes : ByteArray} {maxL : Nat} {ret : Option FieldType} {P : Outcome → State → Prop} {pc pc' : Nat} {Ls Ls' : Array Slot} {rest : List Value}
/-- from here the run ends, and P holds of its end -/
def Go (p : Program) (e : Env) (below : List Frame) (P : Outcome → State → Prop) (T0 : State) : Prop := ∃ t o, Steps p.tables e below T0 t ∧ t.status = .running ∧ Ended t below o ∧ P o t
theorem Go.on {T1 T2 : State} (st : ∀ t, Steps p.tables e below T2 t → Steps p.tables e below T1 t) (k : Go p e below P T2) : Go p e below P T1 := by
  obtain ⟨t, o, h1, h2⟩ := k; exact ⟨t, o, st t h1, h2⟩
/-- what a walk knows of the method that it walks -/
def Ctx (p : Program) (s : State) (m : MethodId) (meth : Method) (c : Code) (Z : State) (own nm : String) (bytes : ByteArray) (maxL : Nat) (ret : Option FieldType) : Prop :=
  p.tables.exec = Jvm.exec ∧ c.code = bytes ∧ c.maxLocals = maxL ∧ s.vm.findClass own = some m.cls ∧ meth.name = nm ∧ meth.sig.returnType = ret ∧ meth.locks = false ∧ Z.Warmed39 s.vm
/-- what a body's end says -/
def OEnds (s : State) (Q : Option Value → Heap → List Loc → Prop) (k n : Nat) (o : Outcome) (t : State) : Prop := ∃ v L, o = .returned v ∧ Q v t.heap L ∧ FrameEnd s o t L k n
/-- a contract: called with the arguments 'as' at the heap h0 it returns as Q says -/
abbrev OMeets (l : Launch) (Z : State) (y : MethodName) (bytes : ByteArray) (maxL : Nat) (ret : Option FieldType) (ws : List Jvm.Cond) (rm : Room) (as : Array Value) (h0 : Heap) (Q : Option Value → Heap → List Loc → Prop) : Prop :=
  MetFree l y (head1 (Jvm.Cond.code y bytes maxL ret :: ws) rm) (fun a U => a = as ∧ Z.Warmed39 U.vm ∧ U.heap = h0) (fun _ _ _ _ _ => True) (fun _ U o U' => ∃ v L, o = .returned v ∧ Q v U'.heap L ∧ FrameEnd U o U' L rm.cells rm.slots)
/-- it returns r, writes nothing and makes nothing -/
def PureQ (r : Option Value) (h0 : Heap) (v : Option Value) (h : Heap) (L : List Loc) : Prop := v = r ∧ L = [] ∧ h = h0
theorem OMeets.of {y : MethodName} {ws : List Jvm.Cond} {rm : Room} {as : Array Value} {h0 : Heap} {Q : Option Value → Heap → List Loc → Prop} (hpn : plainName y.cls = true) (ls : Array Slot) (hent : ∀ m, entryFrame m as maxL = mkF m 0 ls [])
    (body : ∀ p e s m below meth c s₁, Ctx p s m meth c Z y.cls y.name bytes maxL ret → Stand p l e rm s m as below meth c s₁ [] 0 0 → s₁.heap = h0 → Go p e below (OEnds s Q rm.cells rm.slots) (s₁.setTop (mkF m 0 ls []))) : OMeets l Z y bytes maxL ret ws rm as h0 Q := by
  refine MetFree.of_bodySF (plainFor_of_name hpn) hisR ?_
  intro p e s m args below meth c s₁ Bd hml0 hP hK
  obtain ⟨rfl, hZ, hh⟩ := hP
  have e0 : s₁.heap = h0 := by rw [← hh, Bd.state]; rfl
  have X0 := Stand.of_body Bd
  have B : Ctx p s m meth c Z y.cls y.name bytes maxL ret := ⟨Bd.exec, Bd.bytes, hml0, findClass_of_methodNamed Bd.named, (name_of_methodNamed Bd.named Bd.method).1, Bd.returns, Bd.notSynchronized, hZ⟩
  obtain ⟨t, o, h1, h2, h3, h4⟩ := body p e s m below meth c s₁ B X0 e0
  exact ⟨t, o, castTop (hent m) h1, h2, h3, h4⟩
/-! the single steps -/

theorem s_iloadN (B : Ctx p s m meth c Z own nm bytes maxL ret) (X : Stand p l e R s m args below meth c T locs cells slots) {k0 : Fin 4} {v : Int32} (hd : decode bytes pc = .ok (.iload_n k0, 1)) (hl : Ls[k0.val]? = some (.val (.int v))) (hp : pc + 1 = pc') (k : Go p e below P (T.setTop (mkF m pc' Ls (.int v :: rest)))) : Go p e below P (T.setTop (mkF m pc Ls (rest))) := by
  subst hp; exact Go.on (fun t => XS.iloadN X.here B.1 rfl (hb B.2.1 hd) hl) k
theorem s_iload (B : Ctx p s m meth c Z own nm bytes maxL ret) (X : Stand p l e R s m args below meth c T locs cells slots) {k0 : Nat} {v : Int32} (hd : decode bytes pc = .ok (.iload k0, 2)) (hl : Ls[k0]? = some (.val (.int v))) (hp : pc + 2 = pc') (k : Go p e below P (T.setTop (mkF m pc' Ls (.int v :: rest)))) : Go p e below P (T.setTop (mkF m pc Ls (rest))) := by
  subst hp; exact Go.on (fun t => XS.iload X.here B.1 rfl (hb B.2.1 hd) hl) k
theorem s_istoreN (B : Ctx p s m meth c Z own nm bytes maxL ret) (X : Stand p l e R s m args below meth c T locs cells slots) {k0 : Fin 4} {v : Int32} (hd : decode bytes pc = .ok (.istore_n k0, 1)) (hl : storeLocals Ls k0.val (.int v) = some Ls') (hp : pc + 1 = pc') (k : Go p e below P (T.setTop (mkF m pc' Ls' (rest)))) : Go p e below P (T.setTop (mkF m pc Ls (.int v :: rest))) := by
  subst hp; exact Go.on (fun t => XS.istoreN X.here B.1 rfl (hb B.2.1 hd) rfl hl) k
theorem s_istore (B : Ctx p s m meth c Z own nm bytes maxL ret) (X : Stand p l e R s m args below meth c T locs cells slots) {k0 : Nat} {v : Int32} (hd : decode bytes pc = .ok (.istore k0, 2)) (hl : storeLocals Ls k0 (.int v) = some Ls') (hp : pc + 2 = pc') (k : Go p e below P (T.setTop (mkF m pc' Ls' (rest)))) : Go p e below P (T.setTop (mkF m pc Ls (.int v :: rest))) := by
  subst hp; exact Go.on (fun t => XS.istore X.here B.1 rfl (hb B.2.1 hd) rfl hl) k
theorem s_lloadN (B : Ctx p s m meth c Z own nm bytes maxL ret) (X : Stand p l e R s m args below meth c T locs cells slots) {k0 : Fin 4} {v : Int64} (hd : decode bytes pc = .ok (.lload_n k0, 1)) (hl : Ls[k0.val]? = some (.val (.long v))) (hp : pc + 1 = pc') (k : Go p e below P (T.setTop (mkF m pc' Ls (.long v :: rest)))) : Go p e below P (T.setTop (mkF m pc Ls (rest))) := by
  subst hp; exact Go.on (fun t => XS.lloadN X.here B.1 rfl (hb B.2.1 hd) hl) k
theorem s_lload (B : Ctx p s m meth c Z own nm bytes maxL ret) (X : Stand p l e R s m args below meth c T locs cells slots) {k0 : Nat} {v : Int64} (hd : decode bytes pc = .ok (.lload k0, 2)) (hl : Ls[k0]? = some (.val (.long v))) (hp : pc + 2 = pc') (k : Go p e below P (T.setTop (mkF m pc' Ls (.long v :: rest)))) : Go p e below P (T.setTop (mkF m pc Ls (rest))) := by
  subst hp; exact Go.on (fun t => XS.lload X.here B.1 rfl (hb B.2.1 hd) hl) k
theorem s_lstoreN (B : Ctx p s m meth c Z own nm bytes maxL ret) (X : Stand p l e R s m args below meth c T locs cells slots) {k0 : Fin 4} {v : Int64} (hd : decode bytes pc = .ok (.lstore_n k0, 1)) (hl : storeLocals Ls k0.val (.long v) = some Ls') (hp : pc + 1 = pc') (k : Go p e below P (T.setTop (mkF m pc' Ls' (rest)))) : Go p e below P (T.setTop (mkF m pc Ls (.long v :: rest))) := by
  subst hp; exact Go.on (fun t => XS.lstoreN X.here B.1 rfl (hb B.2.1 hd) rfl hl) k
theorem s_lstore (B : Ctx p s m meth c Z own nm bytes maxL ret) (X : Stand p l e R s m args below meth c T locs cells slots) {k0 : Nat} {v : Int64} (hd : decode bytes pc = .ok (.lstore k0, 2)) (hl : storeLocals Ls k0 (.long v) = some Ls') (hp : pc + 2 = pc') (k : Go p e below P (T.setTop (mkF m pc' Ls' (rest)))) : Go p e below P (T.setTop (mkF m pc Ls (.long v :: rest))) := by
  subst hp; exact Go.on (fun t => XS.lstore X.here B.1 rfl (hb B.2.1 hd) rfl hl) k
theorem s_aloadN (B : Ctx p s m meth c Z own nm bytes maxL ret) (X : Stand p l e R s m args below meth c T locs cells slots) {k0 : Fin 4} {v : Value} (hd : decode bytes pc = .ok (.aload_n k0, 1)) (hl : Ls[k0.val]? = some (.val v)) (hv : v.isRef = true) (hp : pc + 1 = pc') (k : Go p e below P (T.setTop (mkF m pc' Ls (v :: rest)))) : Go p e below P (T.setTop (mkF m pc Ls (rest))) := by
  subst hp; exact Go.on (fun t => XS.aloadN X.here B.1 rfl (hb B.2.1 hd) hl hv) k
theorem s_aload (B : Ctx p s m meth c Z own nm bytes maxL ret) (X : Stand p l e R s m args below meth c T locs cells slots) {k0 : Nat} {v : Value} (hd : decode bytes pc = .ok (.aload k0, 2)) (hl : Ls[k0]? = some (.val v)) (hv : v.isRef = true) (hp : pc + 2 = pc') (k : Go p e below P (T.setTop (mkF m pc' Ls (v :: rest)))) : Go p e below P (T.setTop (mkF m pc Ls (rest))) := by
  subst hp; exact Go.on (fun t => XS.aload X.here B.1 rfl (hb B.2.1 hd) hl hv) k
theorem s_astoreN (B : Ctx p s m meth c Z own nm bytes maxL ret) (X : Stand p l e R s m args below meth c T locs cells slots) {k0 : Fin 4} {v : Value} (hd : decode bytes pc = .ok (.astore_n k0, 1)) (hv : v.isRef = true) (hl : storeLocals Ls k0.val v = some Ls') (hp : pc + 1 = pc') (k : Go p e below P (T.setTop (mkF m pc' Ls' (rest)))) : Go p e below P (T.setTop (mkF m pc Ls (v :: rest))) := by
  subst hp; exact Go.on (fun t => XS.astoreN X.here B.1 rfl (hb B.2.1 hd) rfl hv hl) k
theorem s_astore (B : Ctx p s m meth c Z own nm bytes maxL ret) (X : Stand p l e R s m args below meth c T locs cells slots) {k0 : Nat} {v : Value} (hd : decode bytes pc = .ok (.astore k0, 2)) (hv : v.isRef = true) (hl : storeLocals Ls k0 v = some Ls') (hp : pc + 2 = pc') (k : Go p e below P (T.setTop (mkF m pc' Ls' (rest)))) : Go p e below P (T.setTop (mkF m pc Ls (v :: rest))) := by
  subst hp; exact Go.on (fun t => XS.astore X.here B.1 rfl (hb B.2.1 hd) rfl hv hl) k
theorem s_iconst (B : Ctx p s m meth c Z own nm bytes maxL ret) (X : Stand p l e R s m args below meth c T locs cells slots) {i : Int} {v : Int32} (hd : decode bytes pc = .ok (.iconst i, 1)) (hv : Int32.ofInt i = v) (hp : pc + 1 = pc') (k : Go p e below P (T.setTop (mkF m pc' Ls (.int v :: rest)))) : Go p e below P (T.setTop (mkF m pc Ls (rest))) := by
  subst hp; subst hv; exact Go.on (fun t => XS.iconst X.here B.1 rfl (hb B.2.1 hd)) k
theorem s_bipush (B : Ctx p s m meth c Z own nm bytes maxL ret) (X : Stand p l e R s m args below meth c T locs cells slots) {i : Int} {v : Int32} (hd : decode bytes pc = .ok (.bipush i, 2)) (hv : (Int8.ofInt i).toInt32 = v) (hp : pc + 2 = pc') (k : Go p e below P (T.setTop (mkF m pc' Ls (.int v :: rest)))) : Go p e below P (T.setTop (mkF m pc Ls (rest))) := by
  subst hp; subst hv; exact Go.on (fun t => XS.bipush X.here B.1 rfl (hb B.2.1 hd)) k
theorem s_sipush (B : Ctx p s m meth c Z own nm bytes maxL ret) (X : Stand p l e R s m args below meth c T locs cells slots) {i : Int} {v : Int32} (hd : decode bytes pc = .ok (.sipush i, 3)) (hv : (Int16.ofInt i).toInt32 = v) (hp : pc + 3 = pc') (k : Go p e below P (T.setTop (mkF m pc' Ls (.int v :: rest)))) : Go p e below P (T.setTop (mkF m pc Ls (rest))) := by
  subst hp; subst hv; exact Go.on (fun t => XS.sipush X.here B.1 rfl (hb B.2.1 hd)) k
theorem s_lconst (B : Ctx p s m meth c Z own nm bytes maxL ret) (X : Stand p l e R s m args below meth c T locs cells slots) {i : Fin 2} {v : Int64} (hd : decode bytes pc = .ok (.lconst i, 1)) (hv : Int64.ofNat i = v) (hp : pc + 1 = pc') (k : Go p e below P (T.setTop (mkF m pc' Ls (.long v :: rest)))) : Go p e below P (T.setTop (mkF m pc Ls (rest))) := by
  subst hp; subst hv; exact Go.on (fun t => XS.lconst X.here B.1 rfl (hb B.2.1 hd)) k
theorem s_aconst_null (B : Ctx p s m meth c Z own nm bytes maxL ret) (X : Stand p l e R s m args below meth c T locs cells slots)  (hd : decode bytes pc = .ok (.aconst_null, 1))  (hp : pc + 1 = pc') (k : Go p e below P (T.setTop (mkF m pc' Ls (.null :: rest)))) : Go p e below P (T.setTop (mkF m pc Ls (rest))) := by
  subst hp; exact Go.on (fun t => XS.aconstNull X.here B.1 rfl (hb B.2.1 hd)) k
theorem s_iadd (B : Ctx p s m meth c Z own nm bytes maxL ret) (X : Stand p l e R s m args below meth c T locs cells slots) {x : Int32} {y : Int32} {v : Int32} (hd : decode bytes pc = .ok (.iadd, 1)) (hv : x + y = v)  (hp : pc + 1 = pc') (k : Go p e below P (T.setTop (mkF m pc' Ls (.int v :: rest)))) : Go p e below P (T.setTop (mkF m pc Ls (.int y :: .int x :: rest))) := by
  subst hp; subst hv; exact Go.on (fun t => XS.iadd X.here B.1 rfl (hb B.2.1 hd) rfl ) k
theorem s_isub (B : Ctx p s m meth c Z own nm bytes maxL ret) (X : Stand p l e R s m args below meth c T locs cells slots) {x : Int32} {y : Int32} {v : Int32} (hd : decode bytes pc = .ok (.isub, 1)) (hv : x - y = v)  (hp : pc + 1 = pc') (k : Go p e below P (T.setTop (mkF m pc' Ls (.int v :: rest)))) : Go p e below P (T.setTop (mkF m pc Ls (.int y :: .int x :: rest))) := by
  subst hp; subst hv; exact Go.on (fun t => XS.isub X.here B.1 rfl (hb B.2.1 hd) rfl ) k
theorem s_imul (B : Ctx p s m meth c Z own nm bytes maxL ret) (X : Stand p l e R s m args below meth c T locs cells slots) {x : Int32} {y : Int32} {v : Int32} (hd : decode bytes pc = .ok (.imul, 1)) (hv : x * y = v)  (hp : pc + 1 = pc') (k : Go p e below P (T.setTop (mkF m pc' Ls (.int v :: rest)))) : Go p e below P (T.setTop (mkF m pc Ls (.int y :: .int x :: rest))) := by
  subst hp; subst hv; exact Go.on (fun t => XS.imul X.here B.1 rfl (hb B.2.1 hd) rfl ) k
theorem s_iand (B : Ctx p s m meth c Z own nm bytes maxL ret) (X : Stand p l e R s m args below meth c T locs cells slots) {x : Int32} {y : Int32} {v : Int32} (hd : decode bytes pc = .ok (.iand, 1)) (hv : x &&& y = v)  (hp : pc + 1 = pc') (k : Go p e below P (T.setTop (mkF m pc' Ls (.int v :: rest)))) : Go p e below P (T.setTop (mkF m pc Ls (.int y :: .int x :: rest))) := by
  subst hp; subst hv; exact Go.on (fun t => XS.iand X.here B.1 rfl (hb B.2.1 hd) rfl ) k
theorem s_ior (B : Ctx p s m meth c Z own nm bytes maxL ret) (X : Stand p l e R s m args below meth c T locs cells slots) {x : Int32} {y : Int32} {v : Int32} (hd : decode bytes pc = .ok (.ior, 1)) (hv : x ||| y = v)  (hp : pc + 1 = pc') (k : Go p e below P (T.setTop (mkF m pc' Ls (.int v :: rest)))) : Go p e below P (T.setTop (mkF m pc Ls (.int y :: .int x :: rest))) := by
  subst hp; subst hv; exact Go.on (fun t => XS.ior X.here B.1 rfl (hb B.2.1 hd) rfl ) k
theorem s_ixor (B : Ctx p s m meth c Z own nm bytes maxL ret) (X : Stand p l e R s m args below meth c T locs cells slots) {x : Int32} {y : Int32} {v : Int32} (hd : decode bytes pc = .ok (.ixor, 1)) (hv : x ^^^ y = v)  (hp : pc + 1 = pc') (k : Go p e below P (T.setTop (mkF m pc' Ls (.int v :: rest)))) : Go p e below P (T.setTop (mkF m pc Ls (.int y :: .int x :: rest))) := by
  subst hp; subst hv; exact Go.on (fun t => XS.ixor X.here B.1 rfl (hb B.2.1 hd) rfl ) k
theorem s_ladd (B : Ctx p s m meth c Z own nm bytes maxL ret) (X : Stand p l e R s m args below meth c T locs cells slots) {x : Int64} {y : Int64} {v : Int64} (hd : decode bytes pc = .ok (.ladd, 1)) (hv : x + y = v)  (hp : pc + 1 = pc') (k : Go p e below P (T.setTop (mkF m pc' Ls (.long v :: rest)))) : Go p e below P (T.setTop (mkF m pc Ls (.long y :: .long x :: rest))) := by
  subst hp; subst hv; exact Go.on (fun t => XS.ladd X.here B.1 rfl (hb B.2.1 hd) rfl ) k
theorem s_lsub (B : Ctx p s m meth c Z own nm bytes maxL ret) (X : Stand p l e R s m args below meth c T locs cells slots) {x : Int64} {y : Int64} {v : Int64} (hd : decode bytes pc = .ok (.lsub, 1)) (hv : x - y = v)  (hp : pc + 1 = pc') (k : Go p e below P (T.setTop (mkF m pc' Ls (.long v :: rest)))) : Go p e below P (T.setTop (mkF m pc Ls (.long y :: .long x :: rest))) := by
  subst hp; subst hv; exact Go.on (fun t => XS.lsub X.here B.1 rfl (hb B.2.1 hd) rfl ) k
theorem s_lmul (B : Ctx p s m meth c Z own nm bytes maxL ret) (X : Stand p l e R s m args below meth c T locs cells slots) {x : Int64} {y : Int64} {v : Int64} (hd : decode bytes pc = .ok (.lmul, 1)) (hv : x * y = v)  (hp : pc + 1 = pc') (k : Go p e below P (T.setTop (mkF m pc' Ls (.long v :: rest)))) : Go p e below P (T.setTop (mkF m pc Ls (.long y :: .long x :: rest))) := by
  subst hp; subst hv; exact Go.on (fun t => XS.lmul X.here B.1 rfl (hb B.2.1 hd) rfl ) k
theorem s_land (B : Ctx p s m meth c Z own nm bytes maxL ret) (X : Stand p l e R s m args below meth c T locs cells slots) {x : Int64} {y : Int64} {v : Int64} (hd : decode bytes pc = .ok (.land, 1)) (hv : x &&& y = v)  (hp : pc + 1 = pc') (k : Go p e below P (T.setTop (mkF m pc' Ls (.long v :: rest)))) : Go p e below P (T.setTop (mkF m pc Ls (.long y :: .long x :: rest))) := by
  subst hp; subst hv; exact Go.on (fun t => XS.land X.here B.1 rfl (hb B.2.1 hd) rfl ) k
theorem s_lor (B : Ctx p s m meth c Z own nm bytes maxL ret) (X : Stand p l e R s m args below meth c T locs cells slots) {x : Int64} {y : Int64} {v : Int64} (hd : decode bytes pc = .ok (.lor, 1)) (hv : x ||| y = v)  (hp : pc + 1 = pc') (k : Go p e below P (T.setTop (mkF m pc' Ls (.long v :: rest)))) : Go p e below P (T.setTop (mkF m pc Ls (.long y :: .long x :: rest))) := by
  subst hp; subst hv; exact Go.on (fun t => XS.lor X.here B.1 rfl (hb B.2.1 hd) rfl ) k
theorem s_lxor (B : Ctx p s m meth c Z own nm bytes maxL ret) (X : Stand p l e R s m args below meth c T locs cells slots) {x : Int64} {y : Int64} {v : Int64} (hd : decode bytes pc = .ok (.lxor, 1)) (hv : x ^^^ y = v)  (hp : pc + 1 = pc') (k : Go p e below P (T.setTop (mkF m pc' Ls (.long v :: rest)))) : Go p e below P (T.setTop (mkF m pc Ls (.long y :: .long x :: rest))) := by
  subst hp; subst hv; exact Go.on (fun t => XS.lxor X.here B.1 rfl (hb B.2.1 hd) rfl ) k
theorem s_idiv (B : Ctx p s m meth c Z own nm bytes maxL ret) (X : Stand p l e R s m args below meth c T locs cells slots) {x : Int32} {y : Int32} {v : Int32} (hd : decode bytes pc = .ok (.idiv, 1)) (hv : x / y = v) (hy : y ≠ 0) (hp : pc + 1 = pc') (k : Go p e below P (T.setTop (mkF m pc' Ls (.int v :: rest)))) : Go p e below P (T.setTop (mkF m pc Ls (.int y :: .int x :: rest))) := by
  subst hp; subst hv; exact Go.on (fun t => XS.idiv X.here B.1 rfl (hb B.2.1 hd) rfl hy) k
theorem s_ldiv (B : Ctx p s m meth c Z own nm bytes maxL ret) (X : Stand p l e R s m args below meth c T locs cells slots) {x : Int64} {y : Int64} {v : Int64} (hd : decode bytes pc = .ok (.ldiv, 1)) (hv : x / y = v) (hy : y ≠ 0) (hp : pc + 1 = pc') (k : Go p e below P (T.setTop (mkF m pc' Ls (.long v :: rest)))) : Go p e below P (T.setTop (mkF m pc Ls (.long y :: .long x :: rest))) := by
  subst hp; subst hv; exact Go.on (fun t => XS.ldiv X.here B.1 rfl (hb B.2.1 hd) rfl hy) k
theorem s_irem (B : Ctx p s m meth c Z own nm bytes maxL ret) (X : Stand p l e R s m args below meth c T locs cells slots) {x y v : Int32} (hd : decode bytes pc = .ok (.irem, 1)) (hv : x % y = v) (hy : y ≠ 0) (hp : pc + 1 = pc') (k : Go p e below P (T.setTop (mkF m pc' Ls (.int v :: rest)))) : Go p e below P (T.setTop (mkF m pc Ls (.int y :: .int x :: rest))) := by
  subst hp; subst hv; exact Go.on (fun t => iremM X B.1 rfl (hb B.2.1 hd) rfl hy) k
theorem s_ishl (B : Ctx p s m meth c Z own nm bytes maxL ret) (X : Stand p l e R s m args below meth c T locs cells slots) {x : Int32} {y : Int32} {v : Int32} (hd : decode bytes pc = .ok (.ishl, 1)) (hv : x <<< (y &&& 31) = v)  (hp : pc + 1 = pc') (k : Go p e below P (T.setTop (mkF m pc' Ls (.int v :: rest)))) : Go p e below P (T.setTop (mkF m pc Ls (.int y :: .int x :: rest))) := by
  subst hp; subst hv; exact Go.on (fun t => XS.ishl X.here B.1 rfl (hb B.2.1 hd) rfl ) k
theorem s_ishr (B : Ctx p s m meth c Z own nm bytes maxL ret) (X : Stand p l e R s m args below meth c T locs cells slots) {x : Int32} {y : Int32} {v : Int32} (hd : decode bytes pc = .ok (.ishr, 1)) (hv : x >>> (y &&& 31) = v)  (hp : pc + 1 = pc') (k : Go p e below P (T.setTop (mkF m pc' Ls (.int v :: rest)))) : Go p e below P (T.setTop (mkF m pc Ls (.int y :: .int x :: rest))) := by
  subst hp; subst hv; exact Go.on (fun t => XS.ishr X.here B.1 rfl (hb B.2.1 hd) rfl ) k
theorem s_iushr (B : Ctx p s m meth c Z own nm bytes maxL ret) (X : Stand p l e R s m args below meth c T locs cells slots) {x : Int32} {y : Int32} {v : Int32} (hd : decode bytes pc = .ok (.iushr, 1)) (hv : (x.toUInt32 >>> (y &&& 31).toUInt32).toInt32 = v)  (hp : pc + 1 = pc') (k : Go p e below P (T.setTop (mkF m pc' Ls (.int v :: rest)))) : Go p e below P (T.setTop (mkF m pc Ls (.int y :: .int x :: rest))) := by
  subst hp; subst hv; exact Go.on (fun t => XS.iushr X.here B.1 rfl (hb B.2.1 hd) rfl ) k
theorem s_lshl (B : Ctx p s m meth c Z own nm bytes maxL ret) (X : Stand p l e R s m args below meth c T locs cells slots) {x : Int64} {y : Int32} {v : Int64} (hd : decode bytes pc = .ok (.lshl, 1)) (hv : x <<< (y &&& 0x3f).toInt64 = v)  (hp : pc + 1 = pc') (k : Go p e below P (T.setTop (mkF m pc' Ls (.long v :: rest)))) : Go p e below P (T.setTop (mkF m pc Ls (.int y :: .long x :: rest))) := by
  subst hp; subst hv; exact Go.on (fun t => XS.lshl X.here B.1 rfl (hb B.2.1 hd) rfl ) k
theorem s_lshr (B : Ctx p s m meth c Z own nm bytes maxL ret) (X : Stand p l e R s m args below meth c T locs cells slots) {x : Int64} {y : Int32} {v : Int64} (hd : decode bytes pc = .ok (.lshr, 1)) (hv : x >>> (y &&& 0x3f).toInt64 = v)  (hp : pc + 1 = pc') (k : Go p e below P (T.setTop (mkF m pc' Ls (.long v :: rest)))) : Go p e below P (T.setTop (mkF m pc Ls (.int y :: .long x :: rest))) := by
  subst hp; subst hv; exact Go.on (fun t => XS.lshr X.here B.1 rfl (hb B.2.1 hd) rfl ) k
theorem s_lushr (B : Ctx p s m meth c Z own nm bytes maxL ret) (X : Stand p l e R s m args below meth c T locs cells slots) {x : Int64} {y : Int32} {v : Int64} (hd : decode bytes pc = .ok (.lushr, 1)) (hv : (x.toUInt64 >>> (y &&& 0x3f).toInt64.toUInt64).toInt64 = v)  (hp : pc + 1 = pc') (k : Go p e below P (T.setTop (mkF m pc' Ls (.long v :: rest)))) : Go p e below P (T.setTop (mkF m pc Ls (.int y :: .long x :: rest))) := by
  subst hp; subst hv; exact Go.on (fun t => XS.lushr X.here B.1 rfl (hb B.2.1 hd) rfl ) k
theorem s_i2b (B : Ctx p s m meth c Z own nm bytes maxL ret) (X : Stand p l e R s m args below meth c T locs cells slots) {x : Int32} {v : Int32} (hd : decode bytes pc = .ok (.i2b, 1)) (hv : x.toInt8.toInt32 = v) (hp : pc + 1 = pc') (k : Go p e below P (T.setTop (mkF m pc' Ls (.int v :: rest)))) : Go p e below P (T.setTop (mkF m pc Ls (.int x :: rest))) := by
  subst hp; subst hv; exact Go.on (fun t => XS.i2b X.here B.1 rfl (hb B.2.1 hd) rfl) k
theorem s_i2c (B : Ctx p s m meth c Z own nm bytes maxL ret) (X : Stand p l e R s m args below meth c T locs cells slots) {x : Int32} {v : Int32} (hd : decode bytes pc = .ok (.i2c, 1)) (hv : x.toUInt32.toUInt16.toUInt32.toInt32 = v) (hp : pc + 1 = pc') (k : Go p e below P (T.setTop (mkF m pc' Ls (.int v :: rest)))) : Go p e below P (T.setTop (mkF m pc Ls (.int x :: rest))) := by
  subst hp; subst hv; exact Go.on (fun t => XS.i2c X.here B.1 rfl (hb B.2.1 hd) rfl) k
theorem s_i2s (B : Ctx p s m meth c Z own nm bytes maxL ret) (X : Stand p l e R s m args below meth c T locs cells slots) {x : Int32} {v : Int32} (hd : decode bytes pc = .ok (.i2s, 1)) (hv : x.toInt16.toInt32 = v) (hp : pc + 1 = pc') (k : Go p e below P (T.setTop (mkF m pc' Ls (.int v :: rest)))) : Go p e below P (T.setTop (mkF m pc Ls (.int x :: rest))) := by
  subst hp; subst hv; exact Go.on (fun t => XS.i2s X.here B.1 rfl (hb B.2.1 hd) rfl) k
theorem s_i2l (B : Ctx p s m meth c Z own nm bytes maxL ret) (X : Stand p l e R s m args below meth c T locs cells slots) {x : Int32} {v : Int64} (hd : decode bytes pc = .ok (.i2l, 1)) (hv : x.toInt64 = v) (hp : pc + 1 = pc') (k : Go p e below P (T.setTop (mkF m pc' Ls (.long v :: rest)))) : Go p e below P (T.setTop (mkF m pc Ls (.int x :: rest))) := by
  subst hp; subst hv; exact Go.on (fun t => XS.i2l X.here B.1 rfl (hb B.2.1 hd) rfl) k
theorem s_l2i (B : Ctx p s m meth c Z own nm bytes maxL ret) (X : Stand p l e R s m args below meth c T locs cells slots) {x : Int64} {v : Int32} (hd : decode bytes pc = .ok (.l2i, 1)) (hv : x.toInt32 = v) (hp : pc + 1 = pc') (k : Go p e below P (T.setTop (mkF m pc' Ls (.int v :: rest)))) : Go p e below P (T.setTop (mkF m pc Ls (.long x :: rest))) := by
  subst hp; subst hv; exact Go.on (fun t => XS.l2i X.here B.1 rfl (hb B.2.1 hd) rfl) k
theorem s_ineg (B : Ctx p s m meth c Z own nm bytes maxL ret) (X : Stand p l e R s m args below meth c T locs cells slots) {x : Int32} {v : Int32} (hd : decode bytes pc = .ok (.ineg, 1)) (hv : -x = v) (hp : pc + 1 = pc') (k : Go p e below P (T.setTop (mkF m pc' Ls (.int v :: rest)))) : Go p e below P (T.setTop (mkF m pc Ls (.int x :: rest))) := by
  subst hp; subst hv; exact Go.on (fun t => XS.ineg X.here B.1 rfl (hb B.2.1 hd) rfl) k
theorem s_lneg (B : Ctx p s m meth c Z own nm bytes maxL ret) (X : Stand p l e R s m args below meth c T locs cells slots) {x : Int64} {v : Int64} (hd : decode bytes pc = .ok (.lneg, 1)) (hv : -x = v) (hp : pc + 1 = pc') (k : Go p e below P (T.setTop (mkF m pc' Ls (.long v :: rest)))) : Go p e below P (T.setTop (mkF m pc Ls (.long x :: rest))) := by
  subst hp; subst hv; exact Go.on (fun t => XS.lneg X.here B.1 rfl (hb B.2.1 hd) rfl) k
theorem s_lcmp (B : Ctx p s m meth c Z own nm bytes maxL ret) (X : Stand p l e R s m args below meth c T locs cells slots) {x y : Int64} (hd : decode bytes pc = .ok (.lcmp, 1))  (hp : pc + 1 = pc') (k : Go p e below P (T.setTop (mkF m pc' Ls (.int (lcmpW x y) :: rest)))) : Go p e below P (T.setTop (mkF m pc Ls (.long y :: .long x :: rest))) := by
  subst hp; exact Go.on (fun t => XS.lcmp X.here B.1 rfl (hb B.2.1 hd) rfl) k
theorem s_dup (B : Ctx p s m meth c Z own nm bytes maxL ret) (X : Stand p l e R s m args below meth c T locs cells slots) {v : Value} (hd : decode bytes pc = .ok (.dup, 1)) (hc : v.category = 1) (hp : pc + 1 = pc') (k : Go p e below P (T.setTop (mkF m pc' Ls (v :: v :: rest)))) : Go p e below P (T.setTop (mkF m pc Ls (v :: rest))) := by
  subst hp; exact Go.on (fun t => XS.dup X.here B.1 rfl (hb B.2.1 hd) rfl hc) k
theorem s_pop (B : Ctx p s m meth c Z own nm bytes maxL ret) (X : Stand p l e R s m args below meth c T locs cells slots) {v : Value} (hd : decode bytes pc = .ok (.pop, 1)) (hc : v.category = 1) (hp : pc + 1 = pc') (k : Go p e below P (T.setTop (mkF m pc' Ls (rest)))) : Go p e below P (T.setTop (mkF m pc Ls (v :: rest))) := by
  subst hp; exact Go.on (fun t => XS.pop X.here B.1 rfl (hb B.2.1 hd) rfl hc) k
theorem s_swap (B : Ctx p s m meth c Z own nm bytes maxL ret) (X : Stand p l e R s m args below meth c T locs cells slots) {v w : Value} (hd : decode bytes pc = .ok (.swap, 1)) (hc : v.category = 1) (hc2 : w.category = 1) (hp : pc + 1 = pc') (k : Go p e below P (T.setTop (mkF m pc' Ls (w :: v :: rest)))) : Go p e below P (T.setTop (mkF m pc Ls (v :: w :: rest))) := by
  subst hp; exact Go.on (fun t => XS.swap X.here B.1 rfl (hb B.2.1 hd) rfl hc hc2) k
theorem s_dup_x1 (B : Ctx p s m meth c Z own nm bytes maxL ret) (X : Stand p l e R s m args below meth c T locs cells slots) {v w : Value} (hd : decode bytes pc = .ok (.dup_x1, 1)) (hc : v.category = 1) (hc2 : w.category = 1) (hp : pc + 1 = pc') (k : Go p e below P (T.setTop (mkF m pc' Ls (v :: w :: v :: rest)))) : Go p e below P (T.setTop (mkF m pc Ls (v :: w :: rest))) := by
  subst hp; exact Go.on (fun t => XS.dupX1 X.here B.1 rfl (hb B.2.1 hd) rfl hc hc2) k
theorem s_dup2 (B : Ctx p s m meth c Z own nm bytes maxL ret) (X : Stand p l e R s m args below meth c T locs cells slots) {v w : Value} (hd : decode bytes pc = .ok (.dup2, 1)) (hc : v.category = 1) (hc2 : w.category = 1) (hp : pc + 1 = pc') (k : Go p e below P (T.setTop (mkF m pc' Ls (v :: w :: v :: w :: rest)))) : Go p e below P (T.setTop (mkF m pc Ls (v :: w :: rest))) := by
  subst hp; exact Go.on (fun t => XT.dup2 X.here B.1 rfl (hb B.2.1 hd) rfl hc hc2) k
theorem s_iinc (B : Ctx p s m meth c Z own nm bytes maxL ret) (X : Stand p l e R s m args below meth c T locs cells slots) {k0 : Nat} {i : Int} {x v : Int32} (hd : decode bytes pc = .ok (.iinc k0 i, 3)) (hl : Ls[k0]? = some (.val (.int x))) (hv : x + Int32.ofInt i = v) (hl' : storeLocals Ls k0 (.int v) = some Ls') (hp : pc + 3 = pc') (k : Go p e below P (T.setTop (mkF m pc' Ls' (rest)))) : Go p e below P (T.setTop (mkF m pc Ls (rest))) := by
  subst hp; subst hv; exact Go.on (fun t => XS.iinc X.here B.1 rfl (hb B.2.1 hd) hl hl') k
theorem s_goto (B : Ctx p s m meth c Z own nm bytes maxL ret) (X : Stand p l e R s m args below meth c T locs cells slots)  {o : Int} (hd : decode bytes pc = .ok (.goto o, 3))  (ho : 0 ≤ (pc : Int) + o) (hp : ((pc : Int) + o).toNat = pc') (k : Go p e below P (T.setTop (mkF m pc' Ls (rest)))) : Go p e below P (T.setTop (mkF m pc Ls (rest))) := Go.on (fun t => XS.goto X.here B.1 rfl rfl (hb B.2.1 hd) ho hp) k
theorem s_ifY (B : Ctx p s m meth c Z own nm bytes maxL ret) (X : Stand p l e R s m args below meth c T locs cells slots) {cd : ClassFile.Cond} {x : Int32} {o : Int} (hd : decode bytes pc = .ok (.ifCond cd o, 3)) (hc : ifCond.holds cd x = true) (ho : 0 ≤ (pc : Int) + o) (hp : ((pc : Int) + o).toNat = pc') (k : Go p e below P (T.setTop (mkF m pc' Ls (rest)))) : Go p e below P (T.setTop (mkF m pc Ls (.int x :: rest))) := Go.on (fun t => XS.ifYes X.here B.1 rfl rfl (hb B.2.1 hd) rfl hc ho hp) k
theorem s_ifN (B : Ctx p s m meth c Z own nm bytes maxL ret) (X : Stand p l e R s m args below meth c T locs cells slots) {cd : ClassFile.Cond} {x : Int32} {o : Int} (hd : decode bytes pc = .ok (.ifCond cd o, 3)) (hc : ifCond.holds cd x = false) (hp : pc + 3 = pc') (k : Go p e below P (T.setTop (mkF m pc' Ls (rest)))) : Go p e below P (T.setTop (mkF m pc Ls (.int x :: rest))) := by
  subst hp; exact Go.on (fun t => XS.ifNo X.here B.1 rfl (hb B.2.1 hd) rfl hc) k
theorem s_icmpY (B : Ctx p s m meth c Z own nm bytes maxL ret) (X : Stand p l e R s m args below meth c T locs cells slots) {cd : ClassFile.Cond} {x y : Int32} {o : Int} (hd : decode bytes pc = .ok (.if_icmp cd o, 3)) (hc : if_icmp.holds cd x y = true) (ho : 0 ≤ (pc : Int) + o) (hp : ((pc : Int) + o).toNat = pc') (k : Go p e below P (T.setTop (mkF m pc' Ls (rest)))) : Go p e below P (T.setTop (mkF m pc Ls (.int y :: .int x :: rest))) := Go.on (fun t => XS.icmpYes X.here B.1 rfl rfl (hb B.2.1 hd) rfl hc ho hp) k
theorem s_icmpN (B : Ctx p s m meth c Z own nm bytes maxL ret) (X : Stand p l e R s m args below meth c T locs cells slots) {cd : ClassFile.Cond} {x y : Int32} {o : Int} (hd : decode bytes pc = .ok (.if_icmp cd o, 3)) (hc : if_icmp.holds cd x y = false) (hp : pc + 3 = pc') (k : Go p e below P (T.setTop (mkF m pc' Ls (rest)))) : Go p e below P (T.setTop (mkF m pc Ls (.int y :: .int x :: rest))) := by
  subst hp; exact Go.on (fun t => XS.icmpNo X.here B.1 rfl (hb B.2.1 hd) rfl hc) k
theorem s_ifnullY (B : Ctx p s m meth c Z own nm bytes maxL ret) (X : Stand p l e R s m args below meth c T locs cells slots)  {o : Int} (hd : decode bytes pc = .ok (.ifnull o, 3))  (ho : 0 ≤ (pc : Int) + o) (hp : ((pc : Int) + o).toNat = pc') (k : Go p e below P (T.setTop (mkF m pc' Ls (rest)))) : Go p e below P (T.setTop (mkF m pc Ls (.null :: rest))) := Go.on (fun t => XS.ifnullYes X.here B.1 rfl rfl (hb B.2.1 hd) rfl ho hp) k
theorem s_ifnullN (B : Ctx p s m meth c Z own nm bytes maxL ret) (X : Stand p l e R s m args below meth c T locs cells slots) {b : Addr} {o : Int} (hd : decode bytes pc = .ok (.ifnull o, 3))  (hp : pc + 3 = pc') (k : Go p e below P (T.setTop (mkF m pc' Ls (rest)))) : Go p e below P (T.setTop (mkF m pc Ls (.ref b :: rest))) := by
  subst hp; exact Go.on (fun t => XS.ifnullNo X.here B.1 rfl (hb B.2.1 hd) rfl) k
theorem s_ifnonnullY (B : Ctx p s m meth c Z own nm bytes maxL ret) (X : Stand p l e R s m args below meth c T locs cells slots) {b : Addr} {o : Int} (hd : decode bytes pc = .ok (.ifnonnull o, 3))  (ho : 0 ≤ (pc : Int) + o) (hp : ((pc : Int) + o).toNat = pc') (k : Go p e below P (T.setTop (mkF m pc' Ls (rest)))) : Go p e below P (T.setTop (mkF m pc Ls (.ref b :: rest))) := Go.on (fun t => XS.ifnonnullYes X.here B.1 rfl rfl (hb B.2.1 hd) rfl ho hp) k
theorem s_ifnonnullN (B : Ctx p s m meth c Z own nm bytes maxL ret) (X : Stand p l e R s m args below meth c T locs cells slots)  {o : Int} (hd : decode bytes pc = .ok (.ifnonnull o, 3))  (hp : pc + 3 = pc') (k : Go p e below P (T.setTop (mkF m pc' Ls (rest)))) : Go p e below P (T.setTop (mkF m pc Ls (.null :: rest))) := by
  subst hp; exact Go.on (fun t => XS.ifnonnullNo X.here B.1 rfl (hb B.2.1 hd) rfl) k
theorem b_icmp_eq (B : Ctx p s m meth c Z own nm bytes maxL ret) (X : Stand p l e R s m args below meth c T locs cells slots) {x y : Int32} {o : Int} {py pn : Nat} (hd : decode bytes pc = .ok (.if_icmp .eq o, 3)) (ho : 0 ≤ (pc : Int) + o) (hy : ((pc : Int) + o).toNat = py) (hn : pc + 3 = pn) (k1 : x = y → Go p e below P (T.setTop (mkF m py Ls (rest)))) (k2 : ¬ x = y → Go p e below P (T.setTop (mkF m pn Ls (rest)))) : Go p e below P (T.setTop (mkF m pc Ls (.int y :: .int x :: rest))) := by
  by_cases q : x = y
  · exact s_icmpY B X hd (teq q).1 ho hy (k1 q)
  · exact s_icmpN B X hd (feq q).1 hn (k2 q)
theorem b_if_eq (B : Ctx p s m meth c Z own nm bytes maxL ret) (X : Stand p l e R s m args below meth c T locs cells slots) {x : Int32} {o : Int} {py pn : Nat} (hd : decode bytes pc = .ok (.ifCond .eq o, 3)) (ho : 0 ≤ (pc : Int) + o) (hy : ((pc : Int) + o).toNat = py) (hn : pc + 3 = pn) (k1 : x = 0 → Go p e below P (T.setTop (mkF m py Ls (rest)))) (k2 : ¬ x = 0 → Go p e below P (T.setTop (mkF m pn Ls (rest)))) : Go p e below P (T.setTop (mkF m pc Ls (.int x :: rest))) := by
  by_cases q : x = 0
  · exact s_ifY B X hd ((if0 _ _).trans (teq q).1) ho hy (k1 q)
  · exact s_ifN B X hd ((if0 _ _).trans (feq q).1) hn (k2 q)
theorem b_icmp_ne (B : Ctx p s m meth c Z own nm bytes maxL ret) (X : Stand p l e R s m args below meth c T locs cells slots) {x y : Int32} {o : Int} {py pn : Nat} (hd : decode bytes pc = .ok (.if_icmp .ne o, 3)) (ho : 0 ≤ (pc : Int) + o) (hy : ((pc : Int) + o).toNat = py) (hn : pc + 3 = pn) (k1 : ¬ x = y → Go p e below P (T.setTop (mkF m py Ls (rest)))) (k2 : x = y → Go p e below P (T.setTop (mkF m pn Ls (rest)))) : Go p e below P (T.setTop (mkF m pc Ls (.int y :: .int x :: rest))) := by
  by_cases q : x = y
  · exact s_icmpN B X hd (teq q).2 hn (k2 q)
  · exact s_icmpY B X hd (feq q).2 ho hy (k1 q)
theorem b_if_ne (B : Ctx p s m meth c Z own nm bytes maxL ret) (X : Stand p l e R s m args below meth c T locs cells slots) {x : Int32} {o : Int} {py pn : Nat} (hd : decode bytes pc = .ok (.ifCond .ne o, 3)) (ho : 0 ≤ (pc : Int) + o) (hy : ((pc : Int) + o).toNat = py) (hn : pc + 3 = pn) (k1 : ¬ x = 0 → Go p e below P (T.setTop (mkF m py Ls (rest)))) (k2 : x = 0 → Go p e below P (T.setTop (mkF m pn Ls (rest)))) : Go p e below P (T.setTop (mkF m pc Ls (.int x :: rest))) := by
  by_cases q : x = 0
  · exact s_ifN B X hd ((if0 _ _).trans (teq q).2) hn (k2 q)
  · exact s_ifY B X hd ((if0 _ _).trans (feq q).2) ho hy (k1 q)
theorem b_icmp_lt (B : Ctx p s m meth c Z own nm bytes maxL ret) (X : Stand p l e R s m args below meth c T locs cells slots) {x y : Int32} {o : Int} {py pn : Nat} (hd : decode bytes pc = .ok (.if_icmp .lt o, 3)) (ho : 0 ≤ (pc : Int) + o) (hy : ((pc : Int) + o).toNat = py) (hn : pc + 3 = pn) (k1 : x < y → Go p e below P (T.setTop (mkF m py Ls (rest)))) (k2 : ¬ x < y → Go p e below P (T.setTop (mkF m pn Ls (rest)))) : Go p e below P (T.setTop (mkF m pc Ls (.int y :: .int x :: rest))) := by
  by_cases q : x < y
  · exact s_icmpY B X hd (tlt q).1 ho hy (k1 q)
  · exact s_icmpN B X hd (flt q).1 hn (k2 q)
theorem b_if_lt (B : Ctx p s m meth c Z own nm bytes maxL ret) (X : Stand p l e R s m args below meth c T locs cells slots) {x : Int32} {o : Int} {py pn : Nat} (hd : decode bytes pc = .ok (.ifCond .lt o, 3)) (ho : 0 ≤ (pc : Int) + o) (hy : ((pc : Int) + o).toNat = py) (hn : pc + 3 = pn) (k1 : x < 0 → Go p e below P (T.setTop (mkF m py Ls (rest)))) (k2 : ¬ x < 0 → Go p e below P (T.setTop (mkF m pn Ls (rest)))) : Go p e below P (T.setTop (mkF m pc Ls (.int x :: rest))) := by
  by_cases q : x < 0
  · exact s_ifY B X hd ((if0 _ _).trans (tlt q).1) ho hy (k1 q)
  · exact s_ifN B X hd ((if0 _ _).trans (flt q).1) hn (k2 q)
theorem b_icmp_ge (B : Ctx p s m meth c Z own nm bytes maxL ret) (X : Stand p l e R s m args below meth c T locs cells slots) {x y : Int32} {o : Int} {py pn : Nat} (hd : decode bytes pc = .ok (.if_icmp .ge o, 3)) (ho : 0 ≤ (pc : Int) + o) (hy : ((pc : Int) + o).toNat = py) (hn : pc + 3 = pn) (k1 : ¬ x < y → Go p e below P (T.setTop (mkF m py Ls (rest)))) (k2 : x < y → Go p e below P (T.setTop (mkF m pn Ls (rest)))) : Go p e below P (T.setTop (mkF m pc Ls (.int y :: .int x :: rest))) := by
  by_cases q : x < y
  · exact s_icmpN B X hd (tlt q).2.1 hn (k2 q)
  · exact s_icmpY B X hd (flt q).2.1 ho hy (k1 q)
theorem b_if_ge (B : Ctx p s m meth c Z own nm bytes maxL ret) (X : Stand p l e R s m args below meth c T locs cells slots) {x : Int32} {o : Int} {py pn : Nat} (hd : decode bytes pc = .ok (.ifCond .ge o, 3)) (ho : 0 ≤ (pc : Int) + o) (hy : ((pc : Int) + o).toNat = py) (hn : pc + 3 = pn) (k1 : ¬ x < 0 → Go p e below P (T.setTop (mkF m py Ls (rest)))) (k2 : x < 0 → Go p e below P (T.setTop (mkF m pn Ls (rest)))) : Go p e below P (T.setTop (mkF m pc Ls (.int x :: rest))) := by
  by_cases q : x < 0
  · exact s_ifN B X hd ((if0 _ _).trans (tlt q).2.1) hn (k2 q)
  · exact s_ifY B X hd ((if0 _ _).trans (flt q).2.1) ho hy (k1 q)
theorem b_icmp_gt (B : Ctx p s m meth c Z own nm bytes maxL ret) (X : Stand p l e R s m args below meth c T locs cells slots) {x y : Int32} {o : Int} {py pn : Nat} (hd : decode bytes pc = .ok (.if_icmp .gt o, 3)) (ho : 0 ≤ (pc : Int) + o) (hy : ((pc : Int) + o).toNat = py) (hn : pc + 3 = pn) (k1 : y < x → Go p e below P (T.setTop (mkF m py Ls (rest)))) (k2 : ¬ y < x → Go p e below P (T.setTop (mkF m pn Ls (rest)))) : Go p e below P (T.setTop (mkF m pc Ls (.int y :: .int x :: rest))) := by
  by_cases q : y < x
  · exact s_icmpY B X hd (tlt q).2.2.1 ho hy (k1 q)
  · exact s_icmpN B X hd (flt q).2.2.1 hn (k2 q)
theorem b_if_gt (B : Ctx p s m meth c Z own nm bytes maxL ret) (X : Stand p l e R s m args below meth c T locs cells slots) {x : Int32} {o : Int} {py pn : Nat} (hd : decode bytes pc = .ok (.ifCond .gt o, 3)) (ho : 0 ≤ (pc : Int) + o) (hy : ((pc : Int) + o).toNat = py) (hn : pc + 3 = pn) (k1 : 0 < x → Go p e below P (T.setTop (mkF m py Ls (rest)))) (k2 : ¬ 0 < x → Go p e below P (T.setTop (mkF m pn Ls (rest)))) : Go p e below P (T.setTop (mkF m pc Ls (.int x :: rest))) := by
  by_cases q : 0 < x
  · exact s_ifY B X hd ((if0 _ _).trans (tlt q).2.2.1) ho hy (k1 q)
  · exact s_ifN B X hd ((if0 _ _).trans (flt q).2.2.1) hn (k2 q)
theorem b_icmp_le (B : Ctx p s m meth c Z own nm bytes maxL ret) (X : Stand p l e R s m args below meth c T locs cells slots) {x y : Int32} {o : Int} {py pn : Nat} (hd : decode bytes pc = .ok (.if_icmp .le o, 3)) (ho : 0 ≤ (pc : Int) + o) (hy : ((pc : Int) + o).toNat = py) (hn : pc + 3 = pn) (k1 : ¬ y < x → Go p e below P (T.setTop (mkF m py Ls (rest)))) (k2 : y < x → Go p e below P (T.setTop (mkF m pn Ls (rest)))) : Go p e below P (T.setTop (mkF m pc Ls (.int y :: .int x :: rest))) := by
  by_cases q : y < x
  · exact s_icmpN B X hd (tlt q).2.2.2 hn (k2 q)
  · exact s_icmpY B X hd (flt q).2.2.2 ho hy (k1 q)
theorem b_if_le (B : Ctx p s m meth c Z own nm bytes maxL ret) (X : Stand p l e R s m args below meth c T locs cells slots) {x : Int32} {o : Int} {py pn : Nat} (hd : decode bytes pc = .ok (.ifCond .le o, 3)) (ho : 0 ≤ (pc : Int) + o) (hy : ((pc : Int) + o).toNat = py) (hn : pc + 3 = pn) (k1 : ¬ 0 < x → Go p e below P (T.setTop (mkF m py Ls (rest)))) (k2 : 0 < x → Go p e below P (T.setTop (mkF m pn Ls (rest)))) : Go p e below P (T.setTop (mkF m pc Ls (.int x :: rest))) := by
  by_cases q : 0 < x
  · exact s_ifN B X hd ((if0 _ _).trans (tlt q).2.2.2) hn (k2 q)
  · exact s_ifY B X hd ((if0 _ _).trans (flt q).2.2.2) ho hy (k1 q)
theorem b_lcmp_eq (B : Ctx p s m meth c Z own nm bytes maxL ret) (X : Stand p l e R s m args below meth c T locs cells slots) {x y : Int64} {pc0 : Nat} {o : Int} {py pn : Nat} (hd0 : decode bytes pc0 = .ok (.lcmp, 1)) (hp0 : pc0 + 1 = pc) (hd : decode bytes pc = .ok (.ifCond .eq o, 3)) (ho : 0 ≤ (pc : Int) + o) (hy : ((pc : Int) + o).toNat = py) (hn : pc + 3 = pn) (k1 : x = y → Go p e below P (T.setTop (mkF m py Ls (rest)))) (k2 : ¬ x = y → Go p e below P (T.setTop (mkF m pn Ls (rest)))) : Go p e below P (T.setTop (mkF m pc0 Ls (.long y :: .long x :: rest))) := by
  by_cases q : x = y
  · exact s_lcmp B X hd0 hp0 (s_ifY B X hd ((if0 _ _).trans (teq ((lw_eq x y).mpr q)).1) ho hy (k1 q))
  · exact s_lcmp B X hd0 hp0 (s_ifN B X hd ((if0 _ _).trans (feq (fun z => q ((lw_eq x y).mp z))).1) hn (k2 q))
theorem b_lcmp_ne (B : Ctx p s m meth c Z own nm bytes maxL ret) (X : Stand p l e R s m args below meth c T locs cells slots) {x y : Int64} {pc0 : Nat} {o : Int} {py pn : Nat} (hd0 : decode bytes pc0 = .ok (.lcmp, 1)) (hp0 : pc0 + 1 = pc) (hd : decode bytes pc = .ok (.ifCond .ne o, 3)) (ho : 0 ≤ (pc : Int) + o) (hy : ((pc : Int) + o).toNat = py) (hn : pc + 3 = pn) (k1 : ¬ x = y → Go p e below P (T.setTop (mkF m py Ls (rest)))) (k2 : x = y → Go p e below P (T.setTop (mkF m pn Ls (rest)))) : Go p e below P (T.setTop (mkF m pc0 Ls (.long y :: .long x :: rest))) := by
  by_cases q : x = y
  · exact s_lcmp B X hd0 hp0 (s_ifN B X hd ((if0 _ _).trans (teq ((lw_eq x y).mpr q)).2) hn (k2 q))
  · exact s_lcmp B X hd0 hp0 (s_ifY B X hd ((if0 _ _).trans (feq (fun z => q ((lw_eq x y).mp z))).2) ho hy (k1 q))
theorem b_lcmp_lt (B : Ctx p s m meth c Z own nm bytes maxL ret) (X : Stand p l e R s m args below meth c T locs cells slots) {x y : Int64} {pc0 : Nat} {o : Int} {py pn : Nat} (hd0 : decode bytes pc0 = .ok (.lcmp, 1)) (hp0 : pc0 + 1 = pc) (hd : decode bytes pc = .ok (.ifCond .lt o, 3)) (ho : 0 ≤ (pc : Int) + o) (hy : ((pc : Int) + o).toNat = py) (hn : pc + 3 = pn) (k1 : x < y → Go p e below P (T.setTop (mkF m py Ls (rest)))) (k2 : ¬ x < y → Go p e below P (T.setTop (mkF m pn Ls (rest)))) : Go p e below P (T.setTop (mkF m pc0 Ls (.long y :: .long x :: rest))) := by
  by_cases q : x < y
  · exact s_lcmp B X hd0 hp0 (s_ifY B X hd ((if0 _ _).trans (tlt ((lw_lt x y).mpr q)).1) ho hy (k1 q))
  · exact s_lcmp B X hd0 hp0 (s_ifN B X hd ((if0 _ _).trans (flt (fun z => q ((lw_lt x y).mp z))).1) hn (k2 q))
theorem b_lcmp_ge (B : Ctx p s m meth c Z own nm bytes maxL ret) (X : Stand p l e R s m args below meth c T locs cells slots) {x y : Int64} {pc0 : Nat} {o : Int} {py pn : Nat} (hd0 : decode bytes pc0 = .ok (.lcmp, 1)) (hp0 : pc0 + 1 = pc) (hd : decode bytes pc = .ok (.ifCond .ge o, 3)) (ho : 0 ≤ (pc : Int) + o) (hy : ((pc : Int) + o).toNat = py) (hn : pc + 3 = pn) (k1 : ¬ x < y → Go p e below P (T.setTop (mkF m py Ls (rest)))) (k2 : x < y → Go p e below P (T.setTop (mkF m pn Ls (rest)))) : Go p e below P (T.setTop (mkF m pc0 Ls (.long y :: .long x :: rest))) := by
  by_cases q : x < y
  · exact s_lcmp B X hd0 hp0 (s_ifN B X hd ((if0 _ _).trans (tlt ((lw_lt x y).mpr q)).2.1) hn (k2 q))
  · exact s_lcmp B X hd0 hp0 (s_ifY B X hd ((if0 _ _).trans (flt (fun z => q ((lw_lt x y).mp z))).2.1) ho hy (k1 q))
theorem b_lcmp_gt (B : Ctx p s m meth c Z own nm bytes maxL ret) (X : Stand p l e R s m args below meth c T locs cells slots) {x y : Int64} {pc0 : Nat} {o : Int} {py pn : Nat} (hd0 : decode bytes pc0 = .ok (.lcmp, 1)) (hp0 : pc0 + 1 = pc) (hd : decode bytes pc = .ok (.ifCond .gt o, 3)) (ho : 0 ≤ (pc : Int) + o) (hy : ((pc : Int) + o).toNat = py) (hn : pc + 3 = pn) (k1 : y < x → Go p e below P (T.setTop (mkF m py Ls (rest)))) (k2 : ¬ y < x → Go p e below P (T.setTop (mkF m pn Ls (rest)))) : Go p e below P (T.setTop (mkF m pc0 Ls (.long y :: .long x :: rest))) := by
  by_cases q : y < x
  · exact s_lcmp B X hd0 hp0 (s_ifY B X hd ((if0 _ _).trans (tlt ((lw_gt x y).mpr q)).2.2.1) ho hy (k1 q))
  · exact s_lcmp B X hd0 hp0 (s_ifN B X hd ((if0 _ _).trans (flt (fun z => q ((lw_gt x y).mp z))).2.2.1) hn (k2 q))
theorem b_lcmp_le (B : Ctx p s m meth c Z own nm bytes maxL ret) (X : Stand p l e R s m args below meth c T locs cells slots) {x y : Int64} {pc0 : Nat} {o : Int} {py pn : Nat} (hd0 : decode bytes pc0 = .ok (.lcmp, 1)) (hp0 : pc0 + 1 = pc) (hd : decode bytes pc = .ok (.ifCond .le o, 3)) (ho : 0 ≤ (pc : Int) + o) (hy : ((pc : Int) + o).toNat = py) (hn : pc + 3 = pn) (k1 : ¬ y < x → Go p e below P (T.setTop (mkF m py Ls (rest)))) (k2 : y < x → Go p e below P (T.setTop (mkF m pn Ls (rest)))) : Go p e below P (T.setTop (mkF m pc0 Ls (.long y :: .long x :: rest))) := by
  by_cases q : y < x
  · exact s_lcmp B X hd0 hp0 (s_ifN B X hd ((if0 _ _).trans (tlt ((lw_gt x y).mpr q)).2.2.2) hn (k2 q))
  · exact s_lcmp B X hd0 hp0 (s_ifY B X hd ((if0 _ _).trans (flt (fun z => q ((lw_gt x y).mp z))).2.2.2) ho hy (k1 q))
theorem b_acmp_eq (B : Ctx p s m meth c Z own nm bytes maxL ret) (X : Stand p l e R s m args below meth c T locs cells slots) {a b : Addr} {o : Int} {py pn : Nat} (hd : decode bytes pc = .ok (.if_acmp .eq o, 3)) (ho : 0 ≤ (pc : Int) + o) (hy : ((pc : Int) + o).toNat = py) (hn : pc + 3 = pn) (k1 : a = b → Go p e below P (T.setTop (mkF m py Ls (rest)))) (k2 : ¬ a = b → Go p e below P (T.setTop (mkF m pn Ls (rest)))) : Go p e below P (T.setTop (mkF m pc Ls (.ref b :: .ref a :: rest))) := by
  by_cases q : a = b
  · exact Go.on (fun t => Jvm.RoadKit.acmp X B.1 rfl rfl rfl (same := true) rfl (hb B.2.1 hd) rfl (decide_eq_true (congrArg Value.ref q)) ho (by simp [acV, hy])) (k1 q)
  · exact Go.on (fun t => Jvm.RoadKit.acmp X B.1 rfl rfl rfl (same := false) rfl (hb B.2.1 hd) rfl (decide_eq_false fun z => q (Value.ref.inj z)) ho (by simp [acV, hn])) (k2 q)
theorem b_acmp_ne (B : Ctx p s m meth c Z own nm bytes maxL ret) (X : Stand p l e R s m args below meth c T locs cells slots) {a b : Addr} {o : Int} {py pn : Nat} (hd : decode bytes pc = .ok (.if_acmp .ne o, 3)) (ho : 0 ≤ (pc : Int) + o) (hy : ((pc : Int) + o).toNat = py) (hn : pc + 3 = pn) (k1 : ¬ a = b → Go p e below P (T.setTop (mkF m py Ls (rest)))) (k2 : a = b → Go p e below P (T.setTop (mkF m pn Ls (rest)))) : Go p e below P (T.setTop (mkF m pc Ls (.ref b :: .ref a :: rest))) := by
  by_cases q : a = b
  · exact Go.on (fun t => Jvm.RoadKit.acmp X B.1 rfl rfl rfl (same := true) rfl (hb B.2.1 hd) rfl (decide_eq_true (congrArg Value.ref q)) ho (by simp [acV, hn])) (k2 q)
  · exact Go.on (fun t => Jvm.RoadKit.acmp X B.1 rfl rfl rfl (same := false) rfl (hb B.2.1 hd) rfl (decide_eq_false fun z => q (Value.ref.inj z)) ho (by simp [acV, hy])) (k1 q)
theorem b_ifnull (B : Ctx p s m meth c Z own nm bytes maxL ret) (X : Stand p l e R s m args below meth c T locs cells slots) {v : Value} {o : Int} {py pn : Nat} (hv : v.isRef = true) (hd : decode bytes pc = .ok (.ifnull o, 3)) (ho : 0 ≤ (pc : Int) + o) (hy : ((pc : Int) + o).toNat = py) (hn : pc + 3 = pn) (k1 : v = .null → Go p e below P (T.setTop (mkF m py Ls (rest)))) (k2 : ¬ v = .null → Go p e below P (T.setTop (mkF m pn Ls (rest)))) : Go p e below P (T.setTop (mkF m pc Ls (v :: rest))) := by
  rcases ref_cases hv with rfl | ⟨a, rfl⟩
  · exact s_ifnullY B X hd ho hy (k1 rfl)
  · exact s_ifnullN B X hd hn (k2 nofun)
theorem b_ifnonnull (B : Ctx p s m meth c Z own nm bytes maxL ret) (X : Stand p l e R s m args below meth c T locs cells slots) {v : Value} {o : Int} {py pn : Nat} (hv : v.isRef = true) (hd : decode bytes pc = .ok (.ifnonnull o, 3)) (ho : 0 ≤ (pc : Int) + o) (hy : ((pc : Int) + o).toNat = py) (hn : pc + 3 = pn) (k1 : ¬ v = .null → Go p e below P (T.setTop (mkF m py Ls (rest)))) (k2 : v = .null → Go p e below P (T.setTop (mkF m pn Ls (rest)))) : Go p e below P (T.setTop (mkF m pc Ls (v :: rest))) := by
  rcases ref_cases hv with rfl | ⟨a, rfl⟩
  · exact s_ifnonnullN B X hd hn (k2 rfl)
  · exact s_ifnonnullY B X hd ho hy (k1 nofun)
theorem s_ldc (B : Ctx p s m meth c Z own nm bytes maxL ret) (X : Stand p l e R s m args below meth c T locs cells slots) {i : Nat} {v : Int32} (w : (Jvm.Cond.constant own i v).before a0 Z = true) (hd : decode bytes pc = .ok (.ldc i, 2)) (hp : pc + 2 = pc') (k : Go p e below P (T.setTop (mkF m pc' Ls (.int v :: rest)))) : Go p e below P (T.setTop (mkF m pc Ls (rest))) := by
  subst hp; exact Go.on (fun t => X.ldcI B.1 B.2.2.2.1 (mv B.2.2.2.2.2.2.2 w) rfl (hb B.2.1 hd)) k
theorem s_ldc2 (B : Ctx p s m meth c Z own nm bytes maxL ret) (X : Stand p l e R s m args below meth c T locs cells slots) {i : Nat} {v : Int64} (w : (Jvm.Cond.constantLong own i v).before a0 Z = true) (hd : decode bytes pc = .ok (.ldc2_w i, 3)) (hp : pc + 3 = pc') (k : Go p e below P (T.setTop (mkF m pc' Ls (.long v :: rest)))) : Go p e below P (T.setTop (mkF m pc Ls (rest))) := by
  subst hp; exact Go.on (fun t => X.ldc2J B.1 B.2.2.2.1 (mv B.2.2.2.2.2.2.2 w) rfl (hb B.2.1 hd)) k
theorem s_getS (B : Ctx p s m meth c Z own nm bytes maxL ret) (X : Stand p l e R s m args below meth c T locs cells slots) {i : Nat} {R0 O n d : String} {v : Value} (eT : T.heap = h) (w : (Jvm.Cond.fieldLink own i R0 n d).before a0 Z = true) (via : Via Z R0 O n d) (F : Sta Z h O n d v) (hd : decode bytes pc = .ok (.getstatic i, 3)) (hp : pc + 3 = pc') (k : ∀ T', Stand p l e R s m args below meth c T' locs cells slots → T'.heap = h → Go p e below P (T'.setTop (mkF m pc' Ls (v :: rest)))) : Go p e below P (T.setTop (mkF m pc Ls (rest))) := by
  subst hp
  obtain ⟨T', X', e', st⟩ := getS X B.1 B.2.2.2.2.2.2.2 (host := "") B.2.2.2.1 w via eT F (g := mkF m pc Ls rest) rfl (hb B.2.1 hd)
  exact Go.on st (k T' X' e')
theorem s_getF (B : Ctx p s m meth c Z own nm bytes maxL ret) (X : Stand p l e R s m args below meth c T locs cells slots) {i : Nat} {R0 O n d host : String} {a : Addr} {v : Value} (eT : T.heap = h) (w : (Jvm.Cond.fieldLink own i R0 n d).before a0 Z = true ∨ (Jvm.Cond.fieldLinkNest own i R0 n d host).before a0 Z = true) (via : Via Z R0 O n d) (F : Fld Z h a O n d v) (hd : decode bytes pc = .ok (.getfield i, 3)) (hp : pc + 3 = pc') (k : ∀ T', Stand p l e R s m args below meth c T' locs cells slots → T'.heap = h → Go p e below P (T'.setTop (mkF m pc' Ls (v :: rest)))) : Go p e below P (T.setTop (mkF m pc Ls (.ref a :: rest))) := by
  subst hp
  obtain ⟨T', X', e', st⟩ := getF X B.1 B.2.2.2.2.2.2.2 B.2.2.2.1 w via eT F (g := mkF m pc Ls (.ref a :: rest)) rfl rfl (hb B.2.1 hd)
  exact Go.on st (k T' X' e')
theorem r_nar (B : Ctx p s m meth c Z own nm bytes maxL ret) (X : Stand p l e R s m args below meth c T locs cells slots) {Q : Option Value → Heap → List Loc → Prop} {kc kn : Nat} {z : Int32} {t : FieldType} (ht : t = .boolean ∨ t = .byte ∨ t = .char ∨ t = .short) (hr : ret = some t) (hd : decode bytes pc = .ok (.ireturn, 1)) (hq : Q (some (.int (nar t z))) T.heap locs) (hc : cells ≤ kc) (hs : slots ≤ kn) : Go p e below (OEnds s Q kc kn) (T.setTop (mkF m pc Ls (.int z :: rest))) := by
  obtain ⟨fs, hl, hrun, hended, hW, hsame⟩ := X.leave (v := (some (.int (nar t z)))) (fun h => by rw [B.2.2.2.2.2.1, hr] at h; first | rfl | cases h) B.2.2.2.2.2.2.1
  exact ⟨_, _, retN X B.1 (by rw [B.2.2.2.2.2.1, hr]) ht (hb B.2.1 hd) hl, hrun, hended, _, _, rfl, hq, ⟨_, rfl⟩, hW, hsame.mono hc hs⟩
theorem r_int (B : Ctx p s m meth c Z own nm bytes maxL ret) (X : Stand p l e R s m args below meth c T locs cells slots) {Q : Option Value → Heap → List Loc → Prop} {kc kn : Nat} {z : Int32} (hr : ret = some .int) (hd : decode bytes pc = .ok (.ireturn, 1)) (hq : Q (some (.int z)) T.heap locs) (hc : cells ≤ kc) (hs : slots ≤ kn) : Go p e below (OEnds s Q kc kn) (T.setTop (mkF m pc Ls (.int z :: rest))) := by
  obtain ⟨fs, hl, hrun, hended, hW, hsame⟩ := X.leave (v := (some (.int z))) (fun h => by rw [B.2.2.2.2.2.1, hr] at h; first | rfl | cases h) B.2.2.2.2.2.2.1
  exact ⟨_, _, retOut X B.1 (t := .int) (by rw [B.2.2.2.2.2.1, hr]) rfl (Or.inl ⟨rfl, Or.inl rfl, _, rfl⟩) (hb B.2.1 hd) hl, hrun, hended, _, _, rfl, hq, ⟨_, rfl⟩, hW, hsame.mono hc hs⟩
theorem r_long (B : Ctx p s m meth c Z own nm bytes maxL ret) (X : Stand p l e R s m args below meth c T locs cells slots) {Q : Option Value → Heap → List Loc → Prop} {kc kn : Nat} {z : Int64} (hr : ret = some .long) (hd : decode bytes pc = .ok (.lreturn, 1)) (hq : Q (some (.long z)) T.heap locs) (hc : cells ≤ kc) (hs : slots ≤ kn) : Go p e below (OEnds s Q kc kn) (T.setTop (mkF m pc Ls (.long z :: rest))) := by
  obtain ⟨fs, hl, hrun, hended, hW, hsame⟩ := X.leave (v := (some (.long z))) (fun h => by rw [B.2.2.2.2.2.1, hr] at h; first | rfl | cases h) B.2.2.2.2.2.2.1
  exact ⟨_, _, retOut X B.1 (t := .long) (by rw [B.2.2.2.2.2.1, hr]) rfl (Or.inr (Or.inl ⟨rfl, rfl, _, rfl⟩)) (hb B.2.1 hd) hl, hrun, hended, _, _, rfl, hq, ⟨_, rfl⟩, hW, hsame.mono hc hs⟩
theorem r_ref (B : Ctx p s m meth c Z own nm bytes maxL ret) (X : Stand p l e R s m args below meth c T locs cells slots) {Q : Option Value → Heap → List Loc → Prop} {kc kn : Nat} {v : Value} {t : FieldType} (ht : t.isReference = true) (hn : narrow t v = v) (hv : v.isRef = true) (hr : ret = some t) (hd : decode bytes pc = .ok (.areturn, 1)) (hq : Q (some v) T.heap locs) (hc : cells ≤ kc) (hs : slots ≤ kn) : Go p e below (OEnds s Q kc kn) (T.setTop (mkF m pc Ls (v :: rest))) := by
  obtain ⟨fs, hl, hrun, hended, hW, hsame⟩ := X.leave (v := (some v)) (fun h => by rw [B.2.2.2.2.2.1, hr] at h; first | rfl | cases h) B.2.2.2.2.2.2.1
  exact ⟨_, _, retOut X B.1 (t := t) (by rw [B.2.2.2.2.2.1, hr]) hn (Or.inr (Or.inr (Or.inr (Or.inr ⟨rfl, ht, hv⟩)))) (hb B.2.1 hd) hl, hrun, hended, _, _, rfl, hq, ⟨_, rfl⟩, hW, hsame.mono hc hs⟩
theorem r_void (B : Ctx p s m meth c Z own nm bytes maxL ret) (X : Stand p l e R s m args below meth c T locs cells slots) {Q : Option Value → Heap → List Loc → Prop} {kc kn : Nat} (hr : ret = none) (hd : decode bytes pc = .ok (.return_, 1)) (hq : Q none T.heap locs) (hc : cells ≤ kc) (hs : slots ≤ kn) : Go p e below (OEnds s Q kc kn) (T.setTop (mkF m pc Ls [])) := by
  obtain ⟨fs, hl, hrun, hended, hW, hsame⟩ := X.leave (v := none) (fun _ => rfl) B.2.2.2.2.2.2.1
  exact ⟨_, _, X.returnOut B.1 (by rw [B.2.2.2.2.2.1, hr]) (hb B.2.1 hd) hl, hrun, hended, _, _, rfl, hq, ⟨_, rfl⟩, hW, hsame.mono hc hs⟩
theorem c_virtual (B : Ctx p s m meth c Z own nm bytes maxL ret) (X : Stand p l e R s m args below meth c T locs cells slots) {y : MethodName} {bs : ByteArray} {mx : Nat} {rt : Option FieldType} {rm : Room} {i W : Nat} {argsL under : List Value} {Q : Option Value → Heap → List Loc → Prop} {st : List Value} {C : String} {b : Addr} (eT : T.heap = h) (w1 : (Jvm.Cond.methodLink own i y).before a0 Z = true) (w2 : (Jvm.Cond.declares y).before a0 Z = true) (w3 : (Jvm.Cond.selects C y y).before a0 Z = true) (w4 : (Jvm.Cond.instanceMethod y).before a0 Z = true) (wc : (Jvm.Cond.code y bs mx rt).before a0 Z = true) (wz : (Jvm.Cond.initialized y.cls).before a0 Z = true) (hy : y.cls ≠ "java/lang/invoke/MethodHandle" ∧ y.cls ≠ "java/lang/invoke/VarHandle") (hM : OMeets l Z y bs mx rt [] rm (.ref b :: argsL).toArray h Q) (E : Exa Z h b C) (hlen : ∀ sig, parseMethodDescriptor y.desc = some sig → argsL.length = sig.parameters.length) (hst : st = argsL.reverse ++ .ref b :: under) (hW : (under.map fun v => v.category).sum = W) (hf : rm.frames + 1 ≤ R.frames) (hlo : W + (mx + 11) + rm.locals ≤ R.locals) (hce : cells + rm.cells ≤ R.cells) (hsl : slots + rm.slots ≤ R.slots) (hsz : Ls.size = maxL) (hd : decode bytes pc = .ok (.invokevirtual i, 3)) (hp : pc + 3 = pc') (k : ∀ v T' L, Stand p l e R s m args below meth c T' (locs ++ L) (cells + rm.cells) (slots + rm.slots) → Q v T'.heap L → Go p e below P (T'.setTop (mkF m pc' Ls (v.toList ++ under)))) : Go p e below P (T.setTop (mkF m pc Ls st)) := by
  subst hp hst
  obtain ⟨cq, kq, qa, qb, qc⟩ := isOf B.2.2.2.2.2.2.2 eT E
  obtain ⟨v, _, ⟨T', L', k', n'⟩, -, X', ⟨Lc, hQ, l', y', z'⟩, st'⟩ := X.virtualBack B.1 (y := y) B.2.2.2.1 (mvT B.2.2.2.2.2.2.2 w1) (mvT B.2.2.2.2.2.2.2 w2) (notFace_of_selects (args := #[]) (mvT B.2.2.2.2.2.2.2 w3)) (mvT B.2.2.2.2.2.2.2 w3) (mvT B.2.2.2.2.2.2.2 w4) hy (z := y) (backOf (W := W) hM B.2.2.2.2.2.2.2 wc wz hf hlo) qa qc (g := mkF m pc Ls (argsL.reverse ++ .ref b :: under)) rfl (by rw [B.2.2.1]; exact hsz) (Steps.refl _) (argsL := argsL) (rest := under) hlen rfl (by show 2 * 0 + _ ≤ _; rw [Nat.mul_zero, Nat.zero_add]; exact Nat.le_of_eq hW) (hb B.2.1 hd) (fun _ _ => ⟨rfl, eT, hce, hsl⟩)
  dsimp only [Pt.U, Pt.locs, Pt.cells, Pt.slots] at X' l' y' z' st' hQ
  subst l' y' z'
  exact Go.on (fun t q => st'.trans q) (k v T' Lc X' hQ)
theorem c_static (B : Ctx p s m meth c Z own nm bytes maxL ret) (X : Stand p l e R s m args below meth c T locs cells slots) {y : MethodName} {bs : ByteArray} {mx : Nat} {rt : Option FieldType} {rm : Room} {i W : Nat} {argsL under : List Value} {Q : Option Value → Heap → List Loc → Prop} {st : List Value} (eT : T.heap = h) (w1 : (Jvm.Cond.methodLink own i y).before a0 Z = true) (w2 : (Jvm.Cond.static y).before a0 Z = true) (wc : (Jvm.Cond.code y bs mx rt).before a0 Z = true) (wz : (Jvm.Cond.initialized y.cls).before a0 Z = true) (hy : y.cls ≠ "java/lang/invoke/MethodHandle" ∧ y.cls ≠ "java/lang/invoke/VarHandle") (hM : OMeets l Z y bs mx rt [] rm argsL.toArray h Q) (hlen : ∀ sig, parseMethodDescriptor y.desc = some sig → argsL.length = sig.parameters.length) (hst : st = argsL.reverse ++ under) (hW : (under.map fun v => v.category).sum = W) (hf : rm.frames + 1 ≤ R.frames) (hlo : W + (mx + 11) + rm.locals ≤ R.locals) (hce : cells + rm.cells ≤ R.cells) (hsl : slots + rm.slots ≤ R.slots) (hsz : Ls.size = maxL) (hd : decode bytes pc = .ok (.invokestatic i, 3)) (hp : pc + 3 = pc') (k : ∀ v T' L, Stand p l e R s m args below meth c T' (locs ++ L) (cells + rm.cells) (slots + rm.slots) → Q v T'.heap L → Go p e below P (T'.setTop (mkF m pc' Ls (v.toList ++ under)))) : Go p e below P (T.setTop (mkF m pc Ls st)) := by
  subst hp hst
  obtain ⟨v, _, ⟨T', L', k', n'⟩, -, X', ⟨Lc, hQ, l', y', z'⟩, st'⟩ := Jvm.LawKit.callS X B.1 (y := y) B.2.2.2.1 (mvT B.2.2.2.2.2.2.2 w1) (mvT B.2.2.2.2.2.2.2 w2) (mvT B.2.2.2.2.2.2.2 wz) (mvT B.2.2.2.2.2.2.2 wc) hy (backOf (W := W) hM B.2.2.2.2.2.2.2 wc wz hf hlo) (g := mkF m pc Ls (argsL.reverse ++ under)) rfl (by rw [B.2.2.1]; exact hsz) (argsL := argsL) (rest := under) hlen rfl (by show 2 * 0 + _ ≤ _; rw [Nat.mul_zero, Nat.zero_add]; exact Nat.le_of_eq hW) (hb B.2.1 hd) (fun _ _ => ⟨rfl, eT, hce, hsl⟩)
  dsimp only [Pt.U, Pt.locs, Pt.cells, Pt.slots] at X' l' y' z' st' hQ
  subst l' y' z'
  exact Go.on st' (k v T' Lc X' hQ)
theorem c_init (B : Ctx p s m meth c Z own nm bytes maxL ret) (X : Stand p l e R s m args below meth c T locs cells slots) {y : MethodName} {bs : ByteArray} {mx : Nat} {rm : Room} {i W : Nat} {argsL under : List Value} {Q : Option Value → Heap → List Loc → Prop} {st : List Value} {b : Addr} (eT : T.heap = h) (hy1 : y.name = "<init>") (w1 : (Jvm.Cond.methodLink own i y).before a0 Z = true) (w2 : (Jvm.Cond.instanceMethod y).before a0 Z = true) (wc : (Jvm.Cond.code y bs mx none).before a0 Z = true) (wz : (Jvm.Cond.initialized y.cls).before a0 Z = true) (hy : y.cls ≠ "java/lang/invoke/MethodHandle" ∧ y.cls ≠ "java/lang/invoke/VarHandle") (hM : OMeets l Z y bs mx none [] rm (.ref b :: argsL).toArray h Q) (hlen : ∀ sig, parseMethodDescriptor y.desc = some sig → argsL.length = sig.parameters.length) (hst : st = argsL.reverse ++ .ref b :: under) (hW : (under.map fun v => v.category).sum = W) (hf : rm.frames + 1 ≤ R.frames) (hlo : W + (mx + 11) + rm.locals ≤ R.locals) (hce : cells + rm.cells ≤ R.cells) (hsl : slots + rm.slots ≤ R.slots) (hsz : Ls.size = maxL) (hd : decode bytes pc = .ok (.invokespecial i, 3)) (hp : pc + 3 = pc') (k : ∀ v T' L, Stand p l e R s m args below meth c T' (locs ++ L) (cells + rm.cells) (slots + rm.slots) → Q v T'.heap L → Go p e below P (T'.setTop (mkF m pc' Ls (v.toList ++ under)))) : Go p e below P (T.setTop (mkF m pc Ls st)) := by
  subst hp hst
  obtain ⟨v, _, ⟨T', L', k', n'⟩, -, X', ⟨Lc, hQ, l', y', z'⟩, st'⟩ := X.specialBack B.1 (y := y) hy1 B.2.2.2.1 (mvT B.2.2.2.2.2.2.2 w1) (mvT B.2.2.2.2.2.2.2 w2) (mvT B.2.2.2.2.2.2.2 wc) hy (backOf (W := W) hM B.2.2.2.2.2.2.2 wc wz hf hlo) (g := mkF m pc Ls (argsL.reverse ++ .ref b :: under)) rfl (by rw [B.2.2.1]; exact hsz) (Steps.refl _) (a := b) (argsL := argsL) (rest := under) hlen rfl (by show 2 * 0 + _ ≤ _; rw [Nat.mul_zero, Nat.zero_add]; exact Nat.le_of_eq hW) (hb B.2.1 hd) (fun _ _ => ⟨rfl, eT, hce, hsl⟩)
  dsimp only [Pt.U, Pt.locs, Pt.cells, Pt.slots] at X' l' y' z' st' hQ
  subst l' y' z'
  exact Go.on (fun t q => st'.trans q) (k v T' Lc X' hQ)
theorem p_virtual (B : Ctx p s m meth c Z own nm bytes maxL ret) (X : Stand p l e R s m args below meth c T locs cells slots) {y : MethodName} {bs : ByteArray} {mx : Nat} {rt : Option FieldType} {rm : Room} {i W : Nat} {argsL under : List Value} {st : List Value} {C : String} {b : Addr} {r : Option Value} (eT : T.heap = h) (w1 : (Jvm.Cond.methodLink own i y).before a0 Z = true) (w2 : (Jvm.Cond.declares y).before a0 Z = true) (w3 : (Jvm.Cond.selects C y y).before a0 Z = true) (w4 : (Jvm.Cond.instanceMethod y).before a0 Z = true) (wc : (Jvm.Cond.code y bs mx rt).before a0 Z = true) (wz : (Jvm.Cond.initialized y.cls).before a0 Z = true) (hy : y.cls ≠ "java/lang/invoke/MethodHandle" ∧ y.cls ≠ "java/lang/invoke/VarHandle") (hM : OMeets l Z y bs mx rt [] rm (.ref b :: argsL).toArray h (PureQ r h)) (E : Exa Z h b C) (hlen : ∀ sig, parseMethodDescriptor y.desc = some sig → argsL.length = sig.parameters.length) (hst : st = argsL.reverse ++ .ref b :: under) (hW : (under.map fun v => v.category).sum = W) (hf : rm.frames + 1 ≤ R.frames) (hlo : W + (mx + 11) + rm.locals ≤ R.locals) (hce : rm.cells = 0) (hsl : rm.slots = 0) (hc0 : cells ≤ R.cells) (hs0 : slots ≤ R.slots) (hsz : Ls.size = maxL) (hd : decode bytes pc = .ok (.invokevirtual i, 3)) (hp : pc + 3 = pc') (k : ∀ T', Stand p l e R s m args below meth c T' locs cells slots → T'.heap = h → Go p e below P (T'.setTop (mkF m pc' Ls (r.toList ++ under)))) : Go p e below P (T.setTop (mkF m pc Ls st)) := by
  refine c_virtual B X eT w1 w2 w3 w4 wc wz hy hM E hlen hst hW hf hlo (by omega) (by omega) hsz hd hp ?_
  intro v T' L X' hQ
  obtain ⟨rfl, rfl, e'⟩ := hQ
  rw [hce, hsl, List.append_nil] at X'
  exact k T' X' e'
theorem p_static (B : Ctx p s m meth c Z own nm bytes maxL ret) (X : Stand p l e R s m args below meth c T locs cells slots) {y : MethodName} {bs : ByteArray} {mx : Nat} {rt : Option FieldType} {rm : Room} {i W : Nat} {argsL under : List Value} {st : List Value}  {r : Option Value} (eT : T.heap = h) (w1 : (Jvm.Cond.methodLink own i y).before a0 Z = true) (w2 : (Jvm.Cond.static y).before a0 Z = true) (wc : (Jvm.Cond.code y bs mx rt).before a0 Z = true) (wz : (Jvm.Cond.initialized y.cls).before a0 Z = true) (hy : y.cls ≠ "java/lang/invoke/MethodHandle" ∧ y.cls ≠ "java/lang/invoke/VarHandle") (hM : OMeets l Z y bs mx rt [] rm argsL.toArray h (PureQ r h))  (hlen : ∀ sig, parseMethodDescriptor y.desc = some sig → argsL.length = sig.parameters.length) (hst : st = argsL.reverse ++ under) (hW : (under.map fun v => v.category).sum = W) (hf : rm.frames + 1 ≤ R.frames) (hlo : W + (mx + 11) + rm.locals ≤ R.locals) (hce : rm.cells = 0) (hsl : rm.slots = 0) (hc0 : cells ≤ R.cells) (hs0 : slots ≤ R.slots) (hsz : Ls.size = maxL) (hd : decode bytes pc = .ok (.invokestatic i, 3)) (hp : pc + 3 = pc') (k : ∀ T', Stand p l e R s m args below meth c T' locs cells slots → T'.heap = h → Go p e below P (T'.setTop (mkF m pc' Ls (r.toList ++ under)))) : Go p e below P (T.setTop (mkF m pc Ls st)) := by
  refine c_static B X eT w1 w2 wc wz hy hM hlen hst hW hf hlo (by omega) (by omega) hsz hd hp ?_
  intro v T' L X' hQ
  obtain ⟨rfl, rfl, e'⟩ := hQ
  rw [hce, hsl, List.append_nil] at X'
  exact k T' X' e'
theorem p_init (B : Ctx p s m meth c Z own nm bytes maxL ret) (X : Stand p l e R s m args below meth c T locs cells slots) {y : MethodName} {bs : ByteArray} {mx : Nat} {rm : Room} {i W : Nat} {argsL under : List Value} {st : List Value} {b : Addr} (eT : T.heap = h) (hy1 : y.name = "<init>") (w1 : (Jvm.Cond.methodLink own i y).before a0 Z = true) (w2 : (Jvm.Cond.instanceMethod y).before a0 Z = true) (wc : (Jvm.Cond.code y bs mx none).before a0 Z = true) (wz : (Jvm.Cond.initialized y.cls).before a0 Z = true) (hy : y.cls ≠ "java/lang/invoke/MethodHandle" ∧ y.cls ≠ "java/lang/invoke/VarHandle") (hM : OMeets l Z y bs mx none [] rm (.ref b :: argsL).toArray h (PureQ none h)) (hlen : ∀ sig, parseMethodDescriptor y.desc = some sig → argsL.length = sig.parameters.length) (hst : st = argsL.reverse ++ .ref b :: under) (hW : (under.map fun v => v.category).sum = W) (hf : rm.frames + 1 ≤ R.frames) (hlo : W + (mx + 11) + rm.locals ≤ R.locals) (hce : rm.cells = 0) (hsl : rm.slots = 0) (hc0 : cells ≤ R.cells) (hs0 : slots ≤ R.slots) (hsz : Ls.size = maxL) (hd : decode bytes pc = .ok (.invokespecial i, 3)) (hp : pc + 3 = pc') (k : ∀ T', Stand p l e R s m args below meth c T' locs cells slots → T'.heap = h → Go p e below P (T'.setTop (mkF m pc' Ls under))) : Go p e below P (T.setTop (mkF m pc Ls st)) := by
  refine c_init B X eT hy1 w1 w2 wc wz hy hM hlen hst hW hf hlo (by omega) (by omega) hsz hd hp ?_
  intro v T' L X' hQ
  obtain ⟨rfl, rfl, e'⟩ := hQ
  rw [hce, hsl, List.append_nil] at X'
  exact k T' X' e'
theorem c_virtualUp (B : Ctx p s m meth c Z own nm bytes maxL ret) (X : Stand p l e R s m args below meth c T locs cells slots) {y z : MethodName} {bs : ByteArray} {mx : Nat} {rt : Option FieldType} {rm : Room} {i W : Nat} {argsL under : List Value} {Q : Option Value → Heap → List Loc → Prop} {st : List Value} {C owner : String} {b : Addr} (eT : T.heap = h) (w1 : (Jvm.Cond.methodLink own i y).before a0 Z = true) (ws : (Jvm.Cond.sameMethod y.cls owner y.name y.desc).before a0 Z = true) (w2 : (Jvm.Cond.declares ⟨owner, y.name, y.desc⟩).before a0 Z = true) (w3 : (Jvm.Cond.selects C y z).before a0 Z = true) (w4 : (Jvm.Cond.instanceMethod z).before a0 Z = true) (wc : (Jvm.Cond.code z bs mx rt).before a0 Z = true) (wz : (Jvm.Cond.initialized z.cls).before a0 Z = true) (hy : owner ≠ "java/lang/invoke/MethodHandle" ∧ owner ≠ "java/lang/invoke/VarHandle") (hM : OMeets l Z z bs mx rt [] rm (.ref b :: argsL).toArray h Q) (E : Exa Z h b C) (hlen : ∀ sig, parseMethodDescriptor y.desc = some sig → argsL.length = sig.parameters.length) (hst : st = argsL.reverse ++ .ref b :: under) (hW : (under.map fun v => v.category).sum = W) (hf : rm.frames + 1 ≤ R.frames) (hlo : W + (mx + 11) + rm.locals ≤ R.locals) (hce : cells + rm.cells ≤ R.cells) (hsl : slots + rm.slots ≤ R.slots) (hsz : Ls.size = maxL) (hd : decode bytes pc = .ok (.invokevirtual i, 3)) (hp : pc + 3 = pc') (k : ∀ v T' L, Stand p l e R s m args below meth c T' (locs ++ L) (cells + rm.cells) (slots + rm.slots) → Q v T'.heap L → Go p e below P (T'.setTop (mkF m pc' Ls (v.toList ++ under)))) : Go p e below P (T.setTop (mkF m pc Ls st)) := by
  subst hp hst
  obtain ⟨cq, kq, qa, qb, qc⟩ := isOf B.2.2.2.2.2.2.2 eT E
  obtain ⟨v, _, ⟨T', L', k', n'⟩, -, X', ⟨Lc, hQ, l', y', z'⟩, st'⟩ := X.virtualBackUp B.1 (x := y) (y := z) B.2.2.2.1 (mvT B.2.2.2.2.2.2.2 w1) (mvT B.2.2.2.2.2.2.2 ws) (mvT B.2.2.2.2.2.2.2 w2) hy (mvT B.2.2.2.2.2.2.2 w3) (mvT B.2.2.2.2.2.2.2 w4) (backOf (W := W) hM B.2.2.2.2.2.2.2 wc wz hf hlo) qa qc (g := mkF m pc Ls (argsL.reverse ++ .ref b :: under)) rfl (by rw [B.2.2.1]; exact hsz) (Steps.refl _) (argsL := argsL) (rest := under) hlen rfl (by show 2 * 0 + _ ≤ _; rw [Nat.mul_zero, Nat.zero_add]; exact Nat.le_of_eq hW) (hb B.2.1 hd) (fun _ _ => ⟨rfl, eT, hce, hsl⟩)
  dsimp only [Pt.U, Pt.locs, Pt.cells, Pt.slots] at X' l' y' z' st' hQ
  subst l' y' z'
  exact Go.on (fun t q => st'.trans q) (k v T' Lc X' hQ)
theorem p_virtualUp (B : Ctx p s m meth c Z own nm bytes maxL ret) (X : Stand p l e R s m args below meth c T locs cells slots) {y z : MethodName} {bs : ByteArray} {mx : Nat} {rt : Option FieldType} {rm : Room} {i W : Nat} {argsL under : List Value} {st : List Value} {C owner : String} {b : Addr} {r : Option Value} (eT : T.heap = h) (w1 : (Jvm.Cond.methodLink own i y).before a0 Z = true) (ws : (Jvm.Cond.sameMethod y.cls owner y.name y.desc).before a0 Z = true) (w2 : (Jvm.Cond.declares ⟨owner, y.name, y.desc⟩).before a0 Z = true) (w3 : (Jvm.Cond.selects C y z).before a0 Z = true) (w4 : (Jvm.Cond.instanceMethod z).before a0 Z = true) (wc : (Jvm.Cond.code z bs mx rt).before a0 Z = true) (wz : (Jvm.Cond.initialized z.cls).before a0 Z = true) (hy : owner ≠ "java/lang/invoke/MethodHandle" ∧ owner ≠ "java/lang/invoke/VarHandle") (hM : OMeets l Z z bs mx rt [] rm (.ref b :: argsL).toArray h (PureQ r h)) (E : Exa Z h b C) (hlen : ∀ sig, parseMethodDescriptor y.desc = some sig → argsL.length = sig.parameters.length) (hst : st = argsL.reverse ++ .ref b :: under) (hW : (under.map fun v => v.category).sum = W) (hf : rm.frames + 1 ≤ R.frames) (hlo : W + (mx + 11) + rm.locals ≤ R.locals) (hce : rm.cells = 0) (hsl : rm.slots = 0) (hc0 : cells ≤ R.cells) (hs0 : slots ≤ R.slots) (hsz : Ls.size = maxL) (hd : decode bytes pc = .ok (.invokevirtual i, 3)) (hp : pc + 3 = pc') (k : ∀ T', Stand p l e R s m args below meth c T' locs cells slots → T'.heap = h → Go p e below P (T'.setTop (mkF m pc' Ls (r.toList ++ under)))) : Go p e below P (T.setTop (mkF m pc Ls st)) := by
  refine c_virtualUp B X eT w1 ws w2 w3 w4 wc wz hy hM E hlen hst hW hf hlo (by omega) (by omega) hsz hd hp ?_
  intro v T' L X' hQ
  obtain ⟨rfl, rfl, e'⟩ := hQ
  rw [hce, hsl, List.append_nil] at X'
  exact k T' X' e'
end Kit
end Jvm.OwnKit

namespace Jvm.OwnKit
open Sem ClassFile Op Lib Jvm.Stand Jvm.Free Jvm.LawKit Jvm.RoadKit
section Heap
variable {p : Program} {l : Launch} {e : Env} {R : Room} {s : State} {m : MethodId} {args : Array Value} {below : List Frame} {meth : Method} {c : Code} {T : State} {locs : List Loc} {cells slots : Nat} {Z : State} {a0 : Array Value} {h h' : Heap} {own nm : String} {bytes : ByteArray} {maxL : Nat} {ret : Option FieldType} {P : Outcome → State → Prop} {pc pc' : Nat} {Ls Ls' : Array Slot} {rest : List Value} {a b : Addr} {k : ClassId} {ty : FieldType} {n i : Nat} {f g : Nat → Value} {v w : Value} {sl : Nat} {ws : List Addr}
/-- an array at a: n places, place i holds f i -/
def Ary (Z : State) (h : Heap) (a : Addr) (k : ClassId) (ty : FieldType) (n : Nat) (f : Nat → Value) : Prop := ∃ c : Cell, Arr Z h a c ty ∧ c.cls = k ∧ c.slots.size = n ∧ n < 2 ^ 31 ∧ ∀ i, i < n → c.slots[i]? = some (f i)
def upd (f : Nat → Value) (j : Nat) (v : Value) : Nat → Value := fun i => if i = j then v else f i
def lst (L : List Value) (d : Value) : Nat → Value := fun i => L.getD i d
theorem Ary.lt (F : Ary Z h a k ty n f) : a < h.size := by obtain ⟨c, A, -⟩ := F; exact A.lt
theorem Ary.ext (E : Ext h h') (F : Ary Z h a k ty n f) : Ary Z h' a k ty n f := by obtain ⟨c, A, r⟩ := F; exact ⟨c, A.ext E, r⟩
theorem Ary.other (W : Wr h h' b sl v) (F : Ary Z h a k ty n f) (q : a ≠ b) : Ary Z h' a k ty n f := by obtain ⟨c, A, r⟩ := F; exact ⟨c, A.other W q, r⟩
theorem Ary.keep (F : Ary Z h a k ty n f) (K : Keep h h' ws) (q : a ∉ ws) : Ary Z h' a k ty n f := by obtain ⟨c, A, r⟩ := F; exact ⟨c, ⟨K.2.1 a c A.1 q, A.2⟩, r⟩
theorem Ary.congr (F : Ary Z h a k ty n f) (q : ∀ i, i < n → f i = g i) : Ary Z h a k ty n g := by obtain ⟨c, A, r1, r2, r3, r4⟩ := F; exact ⟨c, A, r1, r2, r3, fun i hi => by rw [r4 i hi, q i hi]⟩
theorem upd_lst {L : List Value} {d v : Value} {j : Nat} (hj : j < L.length) {L' : List Value} (e : L.set j v = L') : upd (lst L d) j v = lst L' d := by
  subst e; funext i
  simp only [upd, lst, List.getD_eq_getElem?_getD, List.getElem?_set]
  by_cases q : i = j
  · subst q; simp [hj]
  · simp [q, Ne.symm q]
theorem Ary.same {j : Nat} (W : Wr h h' a j v) (F : Ary Z h a k ty n f) : Ary Z h' a k ty n (upd f j v) := by
  obtain ⟨c, A, r1, r2, r3, r4⟩ := F
  obtain ⟨cell, w1, w2, w3, -⟩ := id W
  cases w1.symm.trans A.1
  refine ⟨_, A.same W, r1, by rw [sz_set]; exact r2, r3, fun i hi => ?_⟩
  by_cases q : i = j
  · subst q; simp [Cell.setSlot, upd, w3]
  · simp only [Cell.setSlot, upd, if_neg q]; rw [Array.getElem?_setIfInBounds_ne (Ne.symm q)]; exact r4 i hi
theorem Ary.of_new {x : Int32} {N : Nat} (A : Arr Z h a (newA k ty x) ty) (hx : ¬ x < 0) (hN : x.toNatClampNeg = N) : Ary Z h a k ty N (fun _ => defaultValue ty) := by
  subst hN
  refine ⟨_, A, rfl, sz_new _ _ _, (back32 hx).2, fun i hi => ?_⟩
  simp [newA, hi]
theorem Ary.of_rep (F : Ary Z h a k ty n (fun _ => v)) {L : List Value} (q : ∀ i, i < n → L.getD i v = v) : Ary Z h a k ty n (lst L v) := F.congr fun i hi => (q i hi).symm

theorem Ary.sto {C : String} {y : Addr} (F : Ary Z h a k ty n f) (O : Ovr Z k C) (I : Ins Z h y C true) : Sto Z h a (.ref y) := by obtain ⟨c, A, r, -⟩ := F; exact Sto.of A (r ▸ O) I
theorem Ary.full {L : List Value} {j : Nat} {L' : List Value} (F : Ary Z h a k ty n (upd (lst L w) j v)) (hj : j < L.length) (e : L.set j v = L') : Ary Z h a k ty n (lst L' w) := by rw [← upd_lst (d := w) hj e]; exact F
theorem Ary.stoA {C : String} {y : Addr} {t0 : FieldType} (F : Ary Z h a k ty n f) (O : OvrA Z k t0 C) (I : Ins Z h y C true) : Sto Z h a (.ref y) := by obtain ⟨c, A, r, -⟩ := F; exact Sto.ofVA A r O I
theorem old_le {n0 : Nat} (O : Old Z n0 h) : n0 ≤ h.size := O.1 ▸ O.2.1
theorem s_new (B : Ctx p s m meth c Z own nm bytes maxL ret) (X : Stand p l e R s m args below meth c T locs cells slots) {C : String} {i0 n0 : Nat} (eT : T.heap = h) (w : (Jvm.Cond.classLink own i0 C).before a0 Z = true) (wi : (Jvm.Cond.instantiable C n0).before a0 Z = true) (wz : (Jvm.Cond.initialized C).before a0 Z = true) (hc : cells + 1 ≤ R.cells) (hl : slots + n0 ≤ R.slots) (hd : decode bytes pc = .ok (.new i0, 3)) (hp : pc + 3 = pc') (k : ∀ T' h' a, a = h.size → Stand p l e R s m args below meth c T' locs (cells + 1) (slots + n0) → T'.heap = h' → Ext h h' → Exa Z h' a C → (∀ {O nm d : String} {ty : FieldType}, Laid Z a0 C O nm d → parseFieldDescriptor d = some ty → Fld Z h' a O nm d (defaultValue ty)) → Go p e below P (T'.setTop (mkF m pc' Ls (.ref a :: rest)))) : Go p e below P (T.setTop (mkF m pc Ls (rest))) := by
  subst hp
  obtain ⟨T', h', X', e', E, A, D, -, st⟩ := newO X B.1 B.2.2.2.2.2.2.2 B.2.2.2.1 w wi wz eT (g := mkF m pc Ls rest) rfl (hb B.2.1 hd) hc hl
  exact Go.on st (k T' h' _ rfl X' e' E A D)
theorem s_initO (B : Ctx p s m meth c Z own nm bytes maxL ret) (X : Stand p l e R s m args below meth c T locs cells slots) {i0 W : Nat} {a : Addr} (eT : T.heap = h) (w1 : (Jvm.Cond.methodLink own i0 Lib.objectInit).before a0 Z = true) (w2 : (Jvm.Cond.instanceMethod Lib.objectInit).before a0 Z = true) (w3 : (Jvm.Cond.code Lib.objectInit ⟨#[0xb1]⟩ 1 none).before a0 Z = true) (hW : (rest.map fun v => v.category).sum = W) (hf : 1 ≤ R.frames) (hl : W + 12 ≤ R.locals) (hsz : Ls.size = maxL) (hd : decode bytes pc = .ok (.invokespecial i0, 3)) (hp : pc + 3 = pc') (k : ∀ T', Stand p l e R s m args below meth c T' locs cells slots → T'.heap = h → Go p e below P (T'.setTop (mkF m pc' Ls (rest)))) : Go p e below P (T.setTop (mkF m pc Ls (.ref a :: rest))) := by
  subst hp
  obtain ⟨T', X', e', st⟩ := initO X B.1 B.2.2.2.2.2.2.2 B.2.2.2.1 w1 w2 w3 eT (g := mkF m pc Ls (.ref a :: rest)) rfl (by rw [B.2.2.1]; exact hsz) rfl (hb B.2.1 hd) hf (W := W) (by show 2 * 0 + _ ≤ _; rw [Nat.mul_zero, Nat.zero_add]; exact Nat.le_of_eq hW) hl
  exact Go.on st (k T' X' e')
theorem s_putF (B : Ctx p s m meth c Z own nm bytes maxL ret) (X : Stand p l e R s m args below meth c T locs cells slots) {i0 kk : Nat} {R0 O n d host C : String} {ty : FieldType} {a : Addr} {v old : Value} (eT : T.heap = h) (w : (Jvm.Cond.fieldLink own i0 R0 n d).before a0 Z = true ∨ (Jvm.Cond.fieldLinkNest own i0 R0 n d host).before a0 Z = true) (via : Via Z R0 O n d) (F : Fld Z h a O n d old) (E : Exa Z h a C) (L : (Jvm.Cond.lays C O n d).before a0 Z = true ∨ ((Jvm.Cond.laysFinal C O n d).before a0 Z = true ∧ own = O ∧ nm = "<init>")) (wi : (Jvm.Cond.instantiable C kk).before a0 Z = true) (hty : parseFieldDescriptor d = some ty) (hn : narrow ty v = v) (hf : fits ty v = true) (hd : decode bytes pc = .ok (.putfield i0, 3)) (hp : pc + 3 = pc') (k : ∀ T' h', Stand p l e R s m args below meth c T' (locs ++ [⟨a, Jvm.RoadKit.slotOf Z O n d⟩]) cells slots → T'.heap = h' → Wr h h' a (Jvm.RoadKit.slotOf Z O n d) v → Go p e below P (T'.setTop (mkF m pc' Ls (rest)))) : Go p e below P (T.setTop (mkF m pc Ls (v :: .ref a :: rest))) := by
  subst hp
  obtain ⟨T', h', X', e', W, st⟩ := putF X B.1 B.2.2.2.2.2.2.2 B.2.2.2.1 w via eT F E (L.imp id fun q => ⟨q.1, q.2.1, by rw [B.2.2.2.2.1]; exact q.2.2⟩) wi hty hn hf (g := mkF m pc Ls (v :: .ref a :: rest)) rfl rfl (hb B.2.1 hd)
  exact Go.on st (k T' h' X' e' W)
theorem s_putFN (B : Ctx p s m meth c Z own nm bytes maxL ret) (X : Stand p l e R s m args below meth c T locs cells slots) {i0 kk : Nat} {R0 O n d C : String} {ty : FieldType} {a : Addr} {v v' old : Value} (eT : T.heap = h) (w : (Jvm.Cond.fieldLink own i0 R0 n d).before a0 Z = true) (via : Via Z R0 O n d) (F : Fld Z h a O n d old) (E : Exa Z h a C) (L : (Jvm.Cond.lays C O n d).before a0 Z = true ∨ ((Jvm.Cond.laysFinal C O n d).before a0 Z = true ∧ own = O ∧ nm = "<init>")) (wi : (Jvm.Cond.instantiable C kk).before a0 Z = true) (hty : parseFieldDescriptor d = some ty) (hn : narrow ty v = v') (hf : fits ty v' = true) (hd : decode bytes pc = .ok (.putfield i0, 3)) (hp : pc + 3 = pc') (k : ∀ T' h', Stand p l e R s m args below meth c T' (locs ++ [⟨a, Jvm.RoadKit.slotOf Z O n d⟩]) cells slots → T'.heap = h' → Wr h h' a (Jvm.RoadKit.slotOf Z O n d) v' → Go p e below P (T'.setTop (mkF m pc' Ls (rest)))) : Go p e below P (T.setTop (mkF m pc Ls (v :: .ref a :: rest))) := by
  subst hp
  obtain ⟨T', h', X', e', W, st⟩ := putFN X B.1 B.2.2.2.2.2.2.2 B.2.2.2.1 w via eT F E (L.imp id fun q => ⟨q.1, q.2.1, by rw [B.2.2.2.2.1]; exact q.2.2⟩) wi hty hn hf (g := mkF m pc Ls (v :: .ref a :: rest)) rfl rfl (hb B.2.1 hd)
  exact Go.on st (k T' h' X' e' W)
theorem s_newP (B : Ctx p s m meth c Z own nm bytes maxL ret) (X : Stand p l e R s m args below meth c T locs cells slots) {aty : ArrayType} {x : Int32} {N : Nat} (eT : T.heap = h) (w : (Jvm.Cond.arrayClass (newarray.typeOf aty)).before a0 Z = true) (hn : ¬ x < 0) (hN : x.toNatClampNeg = N) {cap : Nat} (hcap : N ≤ cap) (hb8 : cap * 8 ≤ 536870912) (hc : cells + 1 ≤ R.cells) (hl : slots + cap ≤ R.slots) (hd : decode bytes pc = .ok (.newarray aty, 2)) (hp : pc + 2 = pc') (k : ∀ T' h' a kA, a = h.size → Stand p l e R s m args below meth c T' locs (cells + 1) (slots + cap) → T'.heap = h' → Ext h h' → Ary Z h' a kA (newarray.typeOf aty) N (fun _ => defaultValue (newarray.typeOf aty)) → Go p e below P (T'.setTop (mkF m pc' Ls (.ref a :: rest)))) : Go p e below P (T.setTop (mkF m pc Ls (.int x :: rest))) := by
  subst hp
  obtain ⟨T', h', cA, X', e', E, A, st⟩ := newP X B.1 B.2.2.2.2.2.2.2 w eT (g := mkF m pc Ls (.int x :: rest)) rfl (hb B.2.1 hd) rfl hn (cap := cap) (hN ▸ hcap) hb8 hc hl
  exact Go.on st (k T' h' _ cA rfl X' e' E (Ary.of_new A hn hN))
theorem s_newR (B : Ctx p s m meth c Z own nm bytes maxL ret) (X : Stand p l e R s m args below meth c T locs cells slots) {i0 : Nat} {C : String} {x : Int32} {N : Nat} (eT : T.heap = h) (w1 : (Jvm.Cond.classLink own i0 C).before a0 Z = true) (w2 : (Jvm.Cond.arrayOver (.object C)).before a0 Z = true) (hn : ¬ x < 0) (hN : x.toNatClampNeg = N) {cap : Nat} (hcap : N ≤ cap) (hb8 : cap * 8 ≤ 536870912) (hc : cells + 1 ≤ R.cells) (hl : slots + cap ≤ R.slots) (hd : decode bytes pc = .ok (.anewarray i0, 3)) (hp : pc + 3 = pc') (k : ∀ T' h' a kA, a = h.size → Stand p l e R s m args below meth c T' locs (cells + 1) (slots + cap) → T'.heap = h' → Ext h h' → Ary Z h' a kA (.object C) N (fun _ => .null) → Ovr Z kA C → Go p e below P (T'.setTop (mkF m pc' Ls (.ref a :: rest)))) : Go p e below P (T.setTop (mkF m pc Ls (.int x :: rest))) := by
  subst hp
  obtain ⟨T', h', cA, X', e', E, A, O, st⟩ := newR X B.1 B.2.2.2.2.2.2.2 B.2.2.2.1 w1 w2 eT (g := mkF m pc Ls (.int x :: rest)) rfl (hb B.2.1 hd) rfl hn (cap := cap) (hN ▸ hcap) hb8 hc hl
  exact Go.on st (k T' h' _ cA rfl X' e' E (Ary.of_new A hn hN) O)
theorem s_newRA (B : Ctx p s m meth c Z own nm bytes maxL ret) (X : Stand p l e R s m args below meth c T locs cells slots) {i0 : Nat} {C : String} {ty : FieldType} {x : Int32} {N : Nat} (eT : T.heap = h) (hC : (FieldType.array ty).toString = C) (w1 : (Jvm.Cond.classLink own i0 C).before a0 Z = true) (w2 : (Jvm.Cond.arrayOver (.array ty)).before a0 Z = true) (hn : ¬ x < 0) (hN : x.toNatClampNeg = N) {cap : Nat} (hcap : N ≤ cap) (hb8 : cap * 8 ≤ 536870912) (hc : cells + 1 ≤ R.cells) (hl : slots + cap ≤ R.slots) (hd : decode bytes pc = .ok (.anewarray i0, 3)) (hp : pc + 3 = pc') (k : ∀ T' h' a kA, a = h.size → Stand p l e R s m args below meth c T' locs (cells + 1) (slots + cap) → T'.heap = h' → Ext h h' → Ary Z h' a kA (.array ty) N (fun _ => .null) → OvrA Z kA ty C → Go p e below P (T'.setTop (mkF m pc' Ls (.ref a :: rest)))) : Go p e below P (T.setTop (mkF m pc Ls (.int x :: rest))) := by
  subst hp
  obtain ⟨T', h', cA, X', e', E, A, -, O, st⟩ := newRA X B.1 B.2.2.2.2.2.2.2 B.2.2.2.1 hC w1 w2 eT (g := mkF m pc Ls (.int x :: rest)) rfl (hb B.2.1 hd) rfl hn (cap := cap) (hN ▸ hcap) hb8 hc hl rfl
  exact Go.on st (k T' h' _ cA rfl X' e' E (Ary.of_new A hn hN) O)
theorem s_stI (B : Ctx p s m meth c Z own nm bytes maxL ret) (X : Stand p l e R s m args below meth c T locs cells slots) {a : Addr} {x : Int32} {j : Int32} {jn N : Nat} {f : Nat → Value} {kA : ClassId} (eT : T.heap = h) (A : Ary Z h a kA .int N f) (hj : ¬ j < 0) (hjn : j.toNatClampNeg = jn) (hlt : jn < N) (hd : decode bytes pc = .ok (.iastore, 1)) (hp : pc + 1 = pc') (k : ∀ T' h', Stand p l e R s m args below meth c T' (locs ++ [⟨a, jn⟩]) cells slots → T'.heap = h' → Wr h h' a jn (.int x) → Ary Z h' a kA .int N (upd f jn (.int x)) → Go p e below P (T'.setTop (mkF m pc' Ls (rest)))) : Go p e below P (T.setTop (mkF m pc Ls (.int x :: .int j :: .ref a :: rest))) := by
  subst hp
  subst hjn
  obtain ⟨cl, A1, q1, q2, q3, q4⟩ := id A
  obtain ⟨T', h', X', e', W, st⟩ := stI X B.1 B.2.2.2.2.2.2.2 eT A1 (j := j) (by rw [q2]; intro z; rcases z with z | z; exact hj z; omega) (g := mkF m pc Ls (.int x :: .int j :: .ref a :: rest)) rfl rfl (hb B.2.1 hd)
  exact Go.on st (k T' h' X' e' W (A.same W))
theorem s_stJ (B : Ctx p s m meth c Z own nm bytes maxL ret) (X : Stand p l e R s m args below meth c T locs cells slots) {a : Addr} {x : Int64} {j : Int32} {jn N : Nat} {f : Nat → Value} {kA : ClassId} (eT : T.heap = h) (A : Ary Z h a kA .long N f) (hj : ¬ j < 0) (hjn : j.toNatClampNeg = jn) (hlt : jn < N) (hd : decode bytes pc = .ok (.lastore, 1)) (hp : pc + 1 = pc') (k : ∀ T' h', Stand p l e R s m args below meth c T' (locs ++ [⟨a, jn⟩]) cells slots → T'.heap = h' → Wr h h' a jn (.long x) → Ary Z h' a kA .long N (upd f jn (.long x)) → Go p e below P (T'.setTop (mkF m pc' Ls (rest)))) : Go p e below P (T.setTop (mkF m pc Ls (.long x :: .int j :: .ref a :: rest))) := by
  subst hp
  subst hjn
  obtain ⟨cl, A1, q1, q2, q3, q4⟩ := id A
  obtain ⟨T', h', X', e', W, st⟩ := stJ X B.1 B.2.2.2.2.2.2.2 eT A1 (j := j) (by rw [q2]; intro z; rcases z with z | z; exact hj z; omega) (g := mkF m pc Ls (.long x :: .int j :: .ref a :: rest)) rfl rfl (hb B.2.1 hd)
  exact Go.on st (k T' h' X' e' W (A.same W))
theorem s_stB (B : Ctx p s m meth c Z own nm bytes maxL ret) (X : Stand p l e R s m args below meth c T locs cells slots) {a : Addr} {x : Int32} {j : Int32} {jn N : Nat} {f : Nat → Value} {kA : ClassId} (eT : T.heap = h) (A : Ary Z h a kA .byte N f) (hj : ¬ j < 0) (hjn : j.toNatClampNeg = jn) (hlt : jn < N) (hd : decode bytes pc = .ok (.bastore, 1)) (hp : pc + 1 = pc') (k : ∀ T' h', Stand p l e R s m args below meth c T' (locs ++ [⟨a, jn⟩]) cells slots → T'.heap = h' → Wr h h' a jn (.int (nar .byte x)) → Ary Z h' a kA .byte N (upd f jn (.int (nar .byte x))) → Go p e below P (T'.setTop (mkF m pc' Ls (rest)))) : Go p e below P (T.setTop (mkF m pc Ls (.int x :: .int j :: .ref a :: rest))) := by
  subst hp
  subst hjn
  obtain ⟨cl, A1, q1, q2, q3, q4⟩ := id A
  obtain ⟨T', h', X', e', W, st⟩ := stB X B.1 B.2.2.2.2.2.2.2 eT A1 (j := j) (by rw [q2]; intro z; rcases z with z | z; exact hj z; omega) (g := mkF m pc Ls (.int x :: .int j :: .ref a :: rest)) rfl rfl (hb B.2.1 hd)
  exact Go.on st (k T' h' X' e' W (A.same W))
theorem s_stZ (B : Ctx p s m meth c Z own nm bytes maxL ret) (X : Stand p l e R s m args below meth c T locs cells slots) {a : Addr} {x : Int32} {j : Int32} {jn N : Nat} {f : Nat → Value} {kA : ClassId} (eT : T.heap = h) (A : Ary Z h a kA .boolean N f) (hj : ¬ j < 0) (hjn : j.toNatClampNeg = jn) (hlt : jn < N) (hd : decode bytes pc = .ok (.bastore, 1)) (hp : pc + 1 = pc') (k : ∀ T' h', Stand p l e R s m args below meth c T' (locs ++ [⟨a, jn⟩]) cells slots → T'.heap = h' → Wr h h' a jn (.int (nar .boolean x)) → Ary Z h' a kA .boolean N (upd f jn (.int (nar .boolean x))) → Go p e below P (T'.setTop (mkF m pc' Ls (rest)))) : Go p e below P (T.setTop (mkF m pc Ls (.int x :: .int j :: .ref a :: rest))) := by
  subst hp
  subst hjn
  obtain ⟨cl, A1, q1, q2, q3, q4⟩ := id A
  obtain ⟨T', h', X', e', W, st⟩ := stZ X B.1 B.2.2.2.2.2.2.2 eT A1 (j := j) (by rw [q2]; intro z; rcases z with z | z; exact hj z; omega) (g := mkF m pc Ls (.int x :: .int j :: .ref a :: rest)) rfl rfl (hb B.2.1 hd)
  exact Go.on st (k T' h' X' e' W (A.same W))
theorem s_stC (B : Ctx p s m meth c Z own nm bytes maxL ret) (X : Stand p l e R s m args below meth c T locs cells slots) {a : Addr} {x : Int32} {j : Int32} {jn N : Nat} {f : Nat → Value} {kA : ClassId} (eT : T.heap = h) (A : Ary Z h a kA .char N f) (hj : ¬ j < 0) (hjn : j.toNatClampNeg = jn) (hlt : jn < N) (hd : decode bytes pc = .ok (.castore, 1)) (hp : pc + 1 = pc') (k : ∀ T' h', Stand p l e R s m args below meth c T' (locs ++ [⟨a, jn⟩]) cells slots → T'.heap = h' → Wr h h' a jn (.int (nar .char x)) → Ary Z h' a kA .char N (upd f jn (.int (nar .char x))) → Go p e below P (T'.setTop (mkF m pc' Ls (rest)))) : Go p e below P (T.setTop (mkF m pc Ls (.int x :: .int j :: .ref a :: rest))) := by
  subst hp
  subst hjn
  obtain ⟨cl, A1, q1, q2, q3, q4⟩ := id A
  obtain ⟨T', h', X', e', W, st⟩ := stC X B.1 B.2.2.2.2.2.2.2 eT A1 (j := j) (by rw [q2]; intro z; rcases z with z | z; exact hj z; omega) (g := mkF m pc Ls (.int x :: .int j :: .ref a :: rest)) rfl rfl (hb B.2.1 hd)
  exact Go.on st (k T' h' X' e' W (A.same W))
theorem s_stR (B : Ctx p s m meth c Z own nm bytes maxL ret) (X : Stand p l e R s m args below meth c T locs cells slots) {a : Addr} {v : Value} {ty : FieldType} {j : Int32} {jn N : Nat} {f : Nat → Value} {kA : ClassId} (eT : T.heap = h) (A : Ary Z h a kA ty N f) (hty : ty.isReference = true) (S : Sto Z h a v) (hj : ¬ j < 0) (hjn : j.toNatClampNeg = jn) (hlt : jn < N) (hd : decode bytes pc = .ok (.aastore, 1)) (hp : pc + 1 = pc') (k : ∀ T' h', Stand p l e R s m args below meth c T' (locs ++ [⟨a, jn⟩]) cells slots → T'.heap = h' → Wr h h' a jn v → Ary Z h' a kA ty N (upd f jn v) → Go p e below P (T'.setTop (mkF m pc' Ls (rest)))) : Go p e below P (T.setTop (mkF m pc Ls (v :: .int j :: .ref a :: rest))) := by
  subst hp
  subst hjn
  obtain ⟨cl, A1, q1, q2, q3, q4⟩ := id A
  obtain ⟨T', h', X', e', W, st⟩ := stR X B.1 B.2.2.2.2.2.2.2 eT A1 (j := j) (by rw [q2]; intro z; rcases z with z | z; exact hj z; omega) hty S (g := mkF m pc Ls (v :: .int j :: .ref a :: rest)) rfl rfl (hb B.2.1 hd)
  exact Go.on st (k T' h' X' e' W (A.same W))
theorem s_ldI (B : Ctx p s m meth c Z own nm bytes maxL ret) (X : Stand p l e R s m args below meth c T locs cells slots) {a : Addr} {v : Value} {j : Int32} {jn N : Nat} {f : Nat → Value} {kA : ClassId} (eT : T.heap = h) (A : Ary Z h a kA .int N f) (hj : ¬ j < 0) (hjn : j.toNatClampNeg = jn) (hlt : jn < N) (hv : f jn = v) (hd : decode bytes pc = .ok (.iaload, 1)) (hp : pc + 1 = pc') (k : Go p e below P (T.setTop (mkF m pc' Ls (v :: rest)))) : Go p e below P (T.setTop (mkF m pc Ls (.int j :: .ref a :: rest))) := by
  subst hp hjn hv
  obtain ⟨cl, A1, q1, q2, q3, q4⟩ := A
  exact Go.on (X.iaload B.1 (j := j) (by rw [eT]; exact A1.1) (State.isArrayOf_alike B.2.2.2.2.2.2.2.alike A1.2.1) A1.2.2 (by rw [q2]; intro z; rcases z with z | z; exact hj z; omega) (q4 _ hlt) (g := mkF m pc Ls (.int j :: .ref a :: rest)) rfl rfl (hb B.2.1 hd)) k
theorem s_ldJ (B : Ctx p s m meth c Z own nm bytes maxL ret) (X : Stand p l e R s m args below meth c T locs cells slots) {a : Addr} {v : Value} {j : Int32} {jn N : Nat} {f : Nat → Value} {kA : ClassId} (eT : T.heap = h) (A : Ary Z h a kA .long N f) (hj : ¬ j < 0) (hjn : j.toNatClampNeg = jn) (hlt : jn < N) (hv : f jn = v) (hd : decode bytes pc = .ok (.laload, 1)) (hp : pc + 1 = pc') (k : Go p e below P (T.setTop (mkF m pc' Ls (v :: rest)))) : Go p e below P (T.setTop (mkF m pc Ls (.int j :: .ref a :: rest))) := by
  subst hp hjn hv
  obtain ⟨cl, A1, q1, q2, q3, q4⟩ := A
  exact Go.on (X.laload B.1 (j := j) (by rw [eT]; exact A1.1) (State.isArrayOf_alike B.2.2.2.2.2.2.2.alike A1.2.1) A1.2.2 (by rw [q2]; intro z; rcases z with z | z; exact hj z; omega) (q4 _ hlt) (g := mkF m pc Ls (.int j :: .ref a :: rest)) rfl rfl (hb B.2.1 hd)) k
theorem s_ldB (B : Ctx p s m meth c Z own nm bytes maxL ret) (X : Stand p l e R s m args below meth c T locs cells slots) {a : Addr} {v : Value} {j : Int32} {jn N : Nat} {f : Nat → Value} {kA : ClassId} (eT : T.heap = h) (A : Ary Z h a kA .byte N f) (hj : ¬ j < 0) (hjn : j.toNatClampNeg = jn) (hlt : jn < N) (hv : f jn = v) (hd : decode bytes pc = .ok (.baload, 1)) (hp : pc + 1 = pc') (k : Go p e below P (T.setTop (mkF m pc' Ls (v :: rest)))) : Go p e below P (T.setTop (mkF m pc Ls (.int j :: .ref a :: rest))) := by
  subst hp hjn hv
  obtain ⟨cl, A1, q1, q2, q3, q4⟩ := A
  exact Go.on (X.baloadBytes B.1 (j := j) (by rw [eT]; exact A1.1) (State.isArrayOf_alike B.2.2.2.2.2.2.2.alike A1.2.1) A1.2.2 (by rw [q2]; intro z; rcases z with z | z; exact hj z; omega) (q4 _ hlt) (g := mkF m pc Ls (.int j :: .ref a :: rest)) rfl rfl (hb B.2.1 hd)) k
theorem s_ldZ (B : Ctx p s m meth c Z own nm bytes maxL ret) (X : Stand p l e R s m args below meth c T locs cells slots) {a : Addr} {v : Value} {j : Int32} {jn N : Nat} {f : Nat → Value} {kA : ClassId} (eT : T.heap = h) (A : Ary Z h a kA .boolean N f) (hj : ¬ j < 0) (hjn : j.toNatClampNeg = jn) (hlt : jn < N) (hv : f jn = v) (hd : decode bytes pc = .ok (.baload, 1)) (hp : pc + 1 = pc') (k : Go p e below P (T.setTop (mkF m pc' Ls (v :: rest)))) : Go p e below P (T.setTop (mkF m pc Ls (.int j :: .ref a :: rest))) := by
  subst hp hjn hv
  obtain ⟨cl, A1, q1, q2, q3, q4⟩ := A
  exact Go.on (X.baloadBooleans B.1 (j := j) (by rw [eT]; exact A1.1) (State.isArrayOf_alike B.2.2.2.2.2.2.2.alike A1.2.1) A1.2.2 (by rw [q2]; intro z; rcases z with z | z; exact hj z; omega) (q4 _ hlt) (g := mkF m pc Ls (.int j :: .ref a :: rest)) rfl rfl (hb B.2.1 hd)) k
theorem s_ldC (B : Ctx p s m meth c Z own nm bytes maxL ret) (X : Stand p l e R s m args below meth c T locs cells slots) {a : Addr} {v : Value} {j : Int32} {jn N : Nat} {f : Nat → Value} {kA : ClassId} (eT : T.heap = h) (A : Ary Z h a kA .char N f) (hj : ¬ j < 0) (hjn : j.toNatClampNeg = jn) (hlt : jn < N) (hv : f jn = v) (hd : decode bytes pc = .ok (.caload, 1)) (hp : pc + 1 = pc') (k : Go p e below P (T.setTop (mkF m pc' Ls (v :: rest)))) : Go p e below P (T.setTop (mkF m pc Ls (.int j :: .ref a :: rest))) := by
  subst hp hjn hv
  obtain ⟨cl, A1, q1, q2, q3, q4⟩ := A
  exact Go.on (X.caload B.1 (j := j) (by rw [eT]; exact A1.1) (State.isArrayOf_alike B.2.2.2.2.2.2.2.alike A1.2.1) A1.2.2 (by rw [q2]; intro z; rcases z with z | z; exact hj z; omega) (q4 _ hlt) (g := mkF m pc Ls (.int j :: .ref a :: rest)) rfl rfl (hb B.2.1 hd)) k
theorem s_ldR (B : Ctx p s m meth c Z own nm bytes maxL ret) (X : Stand p l e R s m args below meth c T locs cells slots) {a : Addr} {v : Value} {ty : FieldType} {j : Int32} {jn N : Nat} {f : Nat → Value} {kA : ClassId} (eT : T.heap = h) (A : Ary Z h a kA ty N f) (hty : ty.isReference = true) (hj : ¬ j < 0) (hjn : j.toNatClampNeg = jn) (hlt : jn < N) (hv : f jn = v) (hd : decode bytes pc = .ok (.aaload, 1)) (hp : pc + 1 = pc') (k : Go p e below P (T.setTop (mkF m pc' Ls (v :: rest)))) : Go p e below P (T.setTop (mkF m pc Ls (.int j :: .ref a :: rest))) := by
  subst hp hjn hv
  obtain ⟨cl, A1, q1, q2, q3, q4⟩ := A
  exact Go.on (X.aaload B.1 (j := j) (by rw [eT]; exact A1.1) (State.isArrayOf_alike B.2.2.2.2.2.2.2.alike A1.2.1) hty A1.2.2 (by rw [q2]; intro z; rcases z with z | z; exact hj z; omega) (q4 _ hlt) (g := mkF m pc Ls (.int j :: .ref a :: rest)) rfl rfl (hb B.2.1 hd)) k
theorem s_len (B : Ctx p s m meth c Z own nm bytes maxL ret) (X : Stand p l e R s m args below meth c T locs cells slots) {a : Addr} {v : Int32} {ty : FieldType} {N : Nat} {f : Nat → Value} {kA : ClassId} (eT : T.heap = h) (A : Ary Z h a kA ty N f) (hv : N.toInt32 = v) (hd : decode bytes pc = .ok (.arraylength, 1)) (hp : pc + 1 = pc') (k : Go p e below P (T.setTop (mkF m pc' Ls (.int v :: rest)))) : Go p e below P (T.setTop (mkF m pc Ls (.ref a :: rest))) := by
  subst hp hv
  obtain ⟨cl, A1, q1, q2, q3, q4⟩ := A
  subst q2
  exact Go.on (X.arraylength B.1 (by rw [eT]; exact A1.1) (State.isArrayOf_alike B.2.2.2.2.2.2.2.alike A1.2.1) (g := mkF m pc Ls (.ref a :: rest)) rfl rfl (hb B.2.1 hd)) k
theorem s_castY (B : Ctx p s m meth c Z own nm bytes maxL ret) (X : Stand p l e R s m args below meth c T locs cells slots) {i0 : Nat} {K : String} {a : Addr} (eT : T.heap = h) (w : (Jvm.Cond.classLink own i0 K).before a0 Z = true) (F : Ins Z h a K true) (hd : decode bytes pc = .ok (.checkcast i0, 3)) (hp : pc + 3 = pc') (k : ∀ T', Stand p l e R s m args below meth c T' locs cells slots → T'.heap = h → Go p e below P (T'.setTop (mkF m pc' Ls (.ref a :: rest)))) : Go p e below P (T.setTop (mkF m pc Ls (.ref a :: rest))) := by
  subst hp
  obtain ⟨T', X', e', st⟩ := castY X B.1 B.2.2.2.2.2.2.2 B.2.2.2.1 w eT F (g := mkF m pc Ls (.ref a :: rest)) rfl rfl (hb B.2.1 hd)
  exact Go.on st (k T' X' e')
theorem s_instY (B : Ctx p s m meth c Z own nm bytes maxL ret) (X : Stand p l e R s m args below meth c T locs cells slots) {i0 : Nat} {K : String} {a : Addr} (eT : T.heap = h) (w : (Jvm.Cond.classLink own i0 K).before a0 Z = true) (F : Ins Z h a K true) (hd : decode bytes pc = .ok (.instanceof i0, 3)) (hp : pc + 3 = pc') (k : ∀ T', Stand p l e R s m args below meth c T' locs cells slots → T'.heap = h → Go p e below P (T'.setTop (mkF m pc' Ls (.int 1 :: rest)))) : Go p e below P (T.setTop (mkF m pc Ls (.ref a :: rest))) := by
  subst hp
  obtain ⟨T', X', e', st⟩ := instY X B.1 B.2.2.2.2.2.2.2 B.2.2.2.1 w eT F (g := mkF m pc Ls (.ref a :: rest)) rfl rfl (hb B.2.1 hd)
  exact Go.on st (k T' X' e')
theorem s_tswIn (B : Ctx p s m meth c Z own nm bytes maxL ret) (X : Stand p l e R s m args below meth c T locs cells slots) {df lo hi : Int} {offs : Array Int} {len : Nat} {o : Int} {x : Int32} (hd : decode bytes pc = .ok (.tableswitch df lo hi offs, len)) (hin : ¬ (x.toInt < lo ∨ x.toInt > hi)) (hoff : offs[(x.toInt - lo).toNat]? = some o) (ho : 0 ≤ (pc : Int) + o) (hp : ((pc : Int) + o).toNat = pc') (k : Go p e below P (T.setTop (mkF m pc' Ls (rest)))) : Go p e below P (T.setTop (mkF m pc Ls (.int x :: rest))) := Go.on (fun t => XS.tswIn (g := mkF m pc Ls (.int x :: rest)) X.here B.1 rfl (pc0 := pc) rfl (hb B.2.1 hd) (i := x) (rest := rest) rfl hin hoff ho hp) k
theorem s_tswOut (B : Ctx p s m meth c Z own nm bytes maxL ret) (X : Stand p l e R s m args below meth c T locs cells slots) {df lo hi : Int} {offs : Array Int} {len : Nat} {x : Int32} (hd : decode bytes pc = .ok (.tableswitch df lo hi offs, len)) (hout : x.toInt < lo ∨ x.toInt > hi) (ho : 0 ≤ (pc : Int) + df) (hp : ((pc : Int) + df).toNat = pc') (k : Go p e below P (T.setTop (mkF m pc' Ls (rest)))) : Go p e below P (T.setTop (mkF m pc Ls (.int x :: rest))) := Go.on (fun t => XS.tswOut (g := mkF m pc Ls (.int x :: rest)) X.here B.1 rfl (pc0 := pc) rfl (hb B.2.1 hd) (i := x) (rest := rest) rfl hout ho hp) k
end Heap
end Jvm.OwnKit

namespace Jvm.OwnKit
open Sem ClassFile Op Lib Jvm.Stand Jvm.Free Jvm.LawKit Jvm.RoadKit
section Start
variable {args : Array Value} {s : State} {t u : Term}
theorem eqI_v {k : Int32} (h : (Jvm.Cond.eq t (.int k)).value args s none s [] = some true) : t.eval args s none [] s = some (.int k) := by
  cases ht : t.eval args s none [] s with
  | none => simp [Cond.value, ht] at h
  | some x => cases x <;> simp [Cond.value, ht, Term.eval] at h ⊢; exact h
theorem eqJ_v {k : Int64} (h : (Jvm.Cond.eq t (.long k)).value args s none s [] = some true) : t.eval args s none [] s = some (.long k) := by
  cases ht : t.eval args s none [] s with
  | none => simp [Cond.value, ht] at h
  | some x => cases x <;> simp [Cond.value, ht, Term.eval] at h ⊢; exact h
theorem eqR_v {a : Addr} (hu : u.eval args s none [] s = some (.ref a)) (h : (Jvm.Cond.eq t u).value args s none s [] = some true) : t.eval args s none [] s = some (.ref a) := by
  cases ht : t.eval args s none [] s with
  | none => simp [Cond.value, ht] at h
  | some x => cases x <;> simp [Cond.value, ht, hu] at h ⊢; exact h
end Start
end Jvm.OwnKit

namespace Jvm.OwnKit
open Sem ClassFile Op Lib Jvm.Stand Jvm.Free Jvm.LawKit Jvm.RoadKit
section Tab
variable {args : Array Value} {s : State} {t : Term} {a : Addr} {c : Cell} {ty : FieldType} {i n : Nat} {C : Jvm.Cond}
theorem tab_len {N : Int32} (ht : t.eval args s none [] s = some (.ref a)) (A : Arr s s.heap a c ty) (h : (Jvm.Cond.eq (.length t) (.int N)).value args s none s [] = some true) (hn : N.toNatClampNeg = n) : c.slots.size = n ∧ n < 2 ^ 31 := by
  have e := eqI_v h
  have hat := A.fin (Vm.Alike.refl s.vm)
  simp only [Term.eval, ht, Option.bind_eq_bind, Option.bind_some, hat] at e
  split at e
  · rename_i q
    have e2 : c.slots.size.toInt32 = N := by simpa using e
    have e3 := len_toInt q
    rw [e2] at e3
    have e4 : N.toNatClampNeg = c.slots.size := by simp only [Int32.toNatClampNeg]; rw [e3]; rfl
    rw [hn] at e4
    exact ⟨e4.symm, e4 ▸ q⟩
  · cases e
theorem tab_all (ht : t.eval args s none [] s = some (.ref a)) (A : Arr s s.heap a c ty) (h : (Jvm.Cond.all t C).value args s none s [] = some true) (hi : i < c.slots.size) : C.value args s none s [i] = some true := Cond.all_elim ht (A.fin (Vm.Alike.refl _)) h i hi
theorem tab_or {D : Jvm.Cond} (h : (Jvm.Cond.or C D).value args s none s [i] = some true) (hc : C.value args s none s [i] = some false) : D.value args s none s [i] = some true := by
  simp only [Cond.value, hc] at h; exact h
theorem tab_lo {k : Int32} (hi : i < 2 ^ 31) (q : k.toInt ≤ i) : (Jvm.Cond.lt (.index 0) (.int k)).value args s none s [i] = some false := by
  have e := len_toInt hi
  simp only [Cond.value, Term.index_eval, Term.int_eval]
  exact congrArg some (decide_eq_false fun z => by rw [Int32.lt_iff_toInt_lt, e] at z; omega)
theorem tab_hi {k : Int32} (hi : i < 2 ^ 31) (q : i < k.toInt) : (Jvm.Cond.le (.int k) (.index 0)).value args s none s [i] = some false := by
  have e := len_toInt hi
  simp only [Cond.value, Term.index_eval, Term.int_eval]
  exact congrArg some (decide_eq_false fun z => by rw [Int32.le_iff_toInt_le, e] at z; omega)
theorem tab_el {v : Value} {j : Term} (ht : t.eval args s none [i] s = some (.ref a)) (A : Arr s s.heap a c ty) (hi : i < 2 ^ 31) (h : (Term.elem t (.index 0)).eval args s none [i] s = some v) : c.slots[i]? = some v := by
  have e := (elem_in h ht (Term.index_eval i) A.1).2
  have e3 := len_toInt hi
  rwa [show i.toInt32.toNatClampNeg = i by simp only [Int32.toNatClampNeg]; rw [e3]; rfl] at e
theorem tab_at {v : Value} {k : Int32} (ht : t.eval args s none [] s = some (.ref a)) (A : Arr s s.heap a c ty) (h : (Term.elem t (.int k)).eval args s none [] s = some v) (hk : k.toNatClampNeg = i) : c.slots[i]? = some v := by
  have e := (elem_in h ht rfl A.1).2
  rwa [hk] at e
theorem eqI_i {k : Int32} {t : Term} (h : (Jvm.Cond.eq t (.int k)).value args s none s [i] = some true) : t.eval args s none [i] s = some (.int k) := by
  cases ht : t.eval args s none [i] s with
  | none => simp [Cond.value, ht] at h
  | some x => cases x <;> simp [Cond.value, ht, Term.eval] at h ⊢; exact h
theorem tab_nat (hi : i < 2 ^ 31) : i.toInt32.toNatClampNeg = i := by
  have e3 := len_toInt hi
  simp only [Int32.toNatClampNeg]; rw [e3]; rfl
theorem tab_sub {t : Term} {k : Int32} (h : (Jvm.Cond.eq t (.sub (.index 0) (.int k))).value args s none s [i] = some true) : ∃ z, t.eval args s none [i] s = some (.int z) ∧ z = i.toInt32 - k := by
  cases ht : t.eval args s none [i] s with
  | none => simp [Cond.value, ht] at h
  | some x => cases x <;> simp [Cond.value, ht, Term.eval] at h ⊢; exact h
theorem tab_lng {t : Term} (h : (Jvm.Cond.eq (.op1 .i2l t) (.op2 .ladd (.op1 .i2l (.index 0)) (.long 4))).value args s none s [i] = some true) : ∃ z, t.eval args s none [i] s = some (.int z) ∧ z.toInt64 = i.toInt32.toInt64 + 4 := by
  cases ht : t.eval args s none [i] s with
  | none => simp [Cond.value, ht, Term.eval] at h
  | some x => cases x <;> simp [Cond.value, ht, Term.eval, Unary.apply, Binary.apply] at h ⊢; exact h
theorem tab_neg {z k : Int32} {n : Int} {P : Prop} (hi : i < 2 ^ 31) (e : z = i.toInt32 - k) (hk : k.toInt = n) (h : 0 ≤ (i : Int) - n ∧ 0 ≤ n) (hP : P) : z = -1 ↔ ¬ P := by
  have e3 := len_toInt hi; have e4 := c_isub i.toInt32 k; have r := rng32 (i.toInt32 - k); have m : (-1 : Int32).toInt = -1 := by decide
  constructor
  · intro q; rw [q] at e; rw [← e, m, e3, hk] at e4; omega
  · intro q; exact absurd hP q
theorem tab_neg4 {z : Int32} {P : Prop} (hi : i < 2 ^ 31) (e : z.toInt64 = i.toInt32.toInt64 + 4) (hP : P) : z = -1 ↔ ¬ P := by
  have e3 := len_toInt hi; have e4 := c_ladd i.toInt32.toInt64 4; have m : (-1 : Int32).toInt64.toInt = -1 := by decide
  have m4 : (4 : Int64).toInt = 4 := by decide
  constructor
  · intro q; rw [q] at e; rw [← e, m, c_i2l, e3, m4] at e4; omega
  · intro q; exact absurd hP q
end Tab
end Jvm.OwnKit

namespace Jvm.OwnKit
open Sem ClassFile Op Lib Jvm.Stand Jvm.Free Jvm.LawKit Jvm.RoadKit
section C
variable {p : Program} {l : Launch} {e : Env} {R : Room} {s : State} {m : MethodId} {args : Array Value} {below : List Frame} {meth : Method} {c : Code} {T : State} {locs : List Loc} {cells slots : Nat} {Z : State} {a0 : Array Value} {h h' : Heap} {own nm : String} {bytes : ByteArray} {maxL : Nat} {ret : Option FieldType} {P : Outcome → State → Prop} {pc pc' : Nat} {Ls Ls' : Array Slot} {rest : List Value} {a b : Addr} {k : ClassId} {ty : FieldType} {n i : Nat} {f g : Nat → Value} {v w : Value} {sl : Nat} {ws : List Addr}
theorem s_clone (B : Ctx p s m meth c Z own nm bytes maxL ret) (X : Stand p l e R s m args below meth c T locs cells slots) {i0 cap W : Nat} {ad : String} {a : Addr} {cl : Cell} {ty : FieldType} (eT : T.heap = h) (w1 : (Jvm.Cond.methodLink own i0 ⟨ad, "clone", "()Ljava/lang/Object;"⟩).before a0 Z = true) (w2 : (Jvm.Cond.sameMethod ad "java/lang/Object" "clone" "()Ljava/lang/Object;").before a0 Z = true) (w3 : (Jvm.Cond.native ⟨"java/lang/Object", "clone", "()Ljava/lang/Object;"⟩).before a0 Z = true)
    (w4 : (Jvm.Cond.instanceMethod ⟨"java/lang/Object", "clone", "()Ljava/lang/Object;"⟩).before a0 Z = true) (w5 : (Jvm.Cond.selects ad ⟨ad, "clone", "()Ljava/lang/Object;"⟩ ⟨"java/lang/Object", "clone", "()Ljava/lang/Object;"⟩).before a0 Z = true) (w6 : (Jvm.Cond.castable ad "java/lang/Cloneable").before a0 Z = true)
    (A : Arr Z h a cl ty) (E : Exa Z h a ad) (F : FitC Z cl) (hW : (rest.map fun v => v.category).sum = W) (hf : 1 ≤ R.frames) (hl : W + 14 ≤ R.locals) (hcap : cl.slots.size ≤ cap) (hc : cells + 1 ≤ R.cells) (hsl : slots + cap ≤ R.slots) (hsz : Ls.size = maxL) (hd : decode bytes pc = .ok (.invokevirtual i0, 3)) (hp : pc + 3 = pc')
    (k : ∀ T' h' a', a' = h.size → Stand p l e R s m args below meth c T' locs (cells + 1) (slots + cap) → T'.heap = h' → Ext h h' → Arr Z h' a' (cloneOf cl) ty → Exa Z h' a' ad → Go p e below P (T'.setTop (mkF m pc' Ls (.ref a' :: rest)))) : Go p e below P (T.setTop (mkF m pc Ls (.ref a :: rest))) := by
  subst hp
  obtain ⟨T', h', X', e', E', A', F', st⟩ := cloneA X B.1 B.2.2.2.2.2.2.2 B.2.2.2.1 w1 w2 w3 w4 w5 w6 eT A E F (g := mkF m pc Ls (.ref a :: rest)) rfl (by rw [B.2.2.1]; exact hsz) rfl (hb B.2.1 hd) hf (W := W) (cap := cap) (by show 2 * 0 + _ ≤ _; rw [Nat.mul_zero, Nat.zero_add]; exact Nat.le_of_eq hW) hl hcap hc hsl
  exact Go.on st (k T' h' _ rfl X' e' E' A' F')
theorem s_astoreG (B : Ctx p s m meth c Z own nm bytes maxL ret) (X : Stand p l e R s m args below meth c T locs cells slots) {k0 : Nat} {v : Value} {o : Slot} (hd : decode bytes pc = .ok (.astore k0, 2)) (hv : v.isRef = true) (hold : Ls[k0]? = some o) (ho : One o) (hl : Ls.setIfInBounds k0 (.val v) = Ls') (hp : pc + 2 = pc') (k : Go p e below P (T.setTop (mkF m pc' Ls' rest))) : Go p e below P (T.setTop (mkF m pc Ls (v :: rest))) := by
  subst hp hl; exact Go.on (fun t => XS.astoreS X.here B.1 rfl (hb B.2.1 hd) rfl hv (XT.cat1 hv) hold ho) k
end C
end Jvm.OwnKit

namespace Jvm.Pilot.@@N@@
open Jvm Jvm.ClassFile Sem Op Lib Jvm.Free Jvm.Stand Jvm.LawKit Jvm.RoadKit Jvm.OwnKit Bundle Jvm.Pilot.@@N@@.Jvm.D
theorem tw0 {Z : State} {a0 : Array Value} (hw : ∀ d ∈ tables_1, d.before a0 Z = true) : (Jvm.Cond.methodLink "com/example/waymark/waymark/directory/ResultCodeOfPinLaw" (7 : Nat) ({ cls := "com/example/waymark/waymark/directory/ResultCode", name := "of", desc := "(I)Lcom/example/waymark/waymark/directory/ResultCode;" } : Jvm.MethodName)).before a0 Z = true := hw _ (List.mem_of_getElem? (i := 0) rfl)
theorem tw1 {Z : State} {a0 : Array Value} (hw : ∀ d ∈ tables_1, d.before a0 Z = true) : (Jvm.Cond.static ({ cls := "com/example/waymark/waymark/directory/ResultCode", name := "of", desc := "(I)Lcom/example/waymark/waymark/directory/ResultCode;" } : Jvm.MethodName)).before a0 Z = true := hw _ (List.mem_of_getElem? (i := 1) rfl)
theorem tw2 {Z : State} {a0 : Array Value} (hw : ∀ d ∈ tables_1, d.before a0 Z = true) : (Jvm.Cond.initialized "com/example/waymark/waymark/directory/ResultCode").before a0 Z = true := hw _ (List.mem_of_getElem? (i := 2) rfl)
theorem tw3 {Z : State} {a0 : Array Value} (hw : ∀ d ∈ tables_1, d.before a0 Z = true) : (Jvm.Cond.code ({ cls := "com/example/waymark/waymark/directory/ResultCode", name := "of", desc := "(I)Lcom/example/waymark/waymark/directory/ResultCode;" } : Jvm.MethodName) prog_23_method_4_code (6 : Nat) (Option.some (Jvm.ClassFile.FieldType.object "com/example/waymark/waymark/directory/ResultCode"))).before a0 Z = true := hw _ (List.mem_of_getElem? (i := 3) rfl)
theorem tw4 {Z : State} {a0 : Array Value} (hw : ∀ d ∈ tables_1, d.before a0 Z = true) : (Jvm.Cond.fieldLink "com/example/waymark/waymark/directory/ResultCode" (82 : Nat) "com/example/waymark/waymark/directory/ResultCode" "OTHER" "Lcom/example/waymark/waymark/directory/ResultCode;").before a0 Z = true := hw _ (List.mem_of_getElem? (i := 4) rfl)
theorem tw5 {Z : State} {a0 : Array Value} (hw : ∀ d ∈ tables_1, d.before a0 Z = true) : (Jvm.Cond.laysStatic "com/example/waymark/waymark/directory/ResultCode" "OTHER" "Lcom/example/waymark/waymark/directory/ResultCode;").before a0 Z = true := hw _ (List.mem_of_getElem? (i := 5) rfl)
theorem tw6 {Z : State} {a0 : Array Value} (hw : ∀ d ∈ tables_1, d.before a0 Z = true) : (Jvm.Cond.methodLink "com/example/waymark/waymark/directory/ResultCode" (112 : Nat) ({ cls := "com/example/waymark/waymark/directory/ResultCode", name := "values", desc := "()[Lcom/example/waymark/waymark/directory/ResultCode;" } : Jvm.MethodName)).before a0 Z = true := hw _ (List.mem_of_getElem? (i := 6) rfl)
theorem tw7 {Z : State} {a0 : Array Value} (hw : ∀ d ∈ tables_1, d.before a0 Z = true) : (Jvm.Cond.static ({ cls := "com/example/waymark/waymark/directory/ResultCode", name := "values", desc := "()[Lcom/example/waymark/waymark/directory/ResultCode;" } : Jvm.MethodName)).before a0 Z = true := hw _ (List.mem_of_getElem? (i := 7) rfl)
theorem tw8 {Z : State} {a0 : Array Value} (hw : ∀ d ∈ tables_1, d.before a0 Z = true) : (Jvm.Cond.code ({ cls := "com/example/waymark/waymark/directory/ResultCode", name := "values", desc := "()[Lcom/example/waymark/waymark/directory/ResultCode;" } : Jvm.MethodName) prog_23_method_1_code (0 : Nat) (Option.some (Jvm.ClassFile.FieldType.array (Jvm.ClassFile.FieldType.object "com/example/waymark/waymark/directory/ResultCode")))).before a0 Z = true := hw _ (List.mem_of_getElem? (i := 8) rfl)
theorem tw9 {Z : State} {a0 : Array Value} (hw : ∀ d ∈ tables_1, d.before a0 Z = true) : (Jvm.Cond.fieldLink "com/example/waymark/waymark/directory/ResultCode" (85 : Nat) "com/example/waymark/waymark/directory/ResultCode" "$VALUES" "[Lcom/example/waymark/waymark/directory/ResultCode;").before a0 Z = true := hw _ (List.mem_of_getElem? (i := 9) rfl)
theorem tw10 {Z : State} {a0 : Array Value} (hw : ∀ d ∈ tables_1, d.before a0 Z = true) : (Jvm.Cond.laysStatic "com/example/waymark/waymark/directory/ResultCode" "$VALUES" "[Lcom/example/waymark/waymark/directory/ResultCode;").before a0 Z = true := hw _ (List.mem_of_getElem? (i := 10) rfl)
theorem tw11 {Z : State} {a0 : Array Value} (hw : ∀ d ∈ tables_1, d.before a0 Z = true) : (Jvm.Cond.methodLink "com/example/waymark/waymark/directory/ResultCode" (89 : Nat) ({ cls := "[Lcom/example/waymark/waymark/directory/ResultCode;", name := "clone", desc := "()Ljava/lang/Object;" } : Jvm.MethodName)).before a0 Z = true := hw _ (List.mem_of_getElem? (i := 11) rfl)
theorem tw12 {Z : State} {a0 : Array Value} (hw : ∀ d ∈ tables_1, d.before a0 Z = true) : (Jvm.Cond.sameMethod "[Lcom/example/waymark/waymark/directory/ResultCode;" "java/lang/Object" "clone" "()Ljava/lang/Object;").before a0 Z = true := hw _ (List.mem_of_getElem? (i := 12) rfl)
theorem tw14 {Z : State} {a0 : Array Value} (hw : ∀ d ∈ tables_1, d.before a0 Z = true) : (Jvm.Cond.instanceMethod ({ cls := "java/lang/Object", name := "clone", desc := "()Ljava/lang/Object;" } : Jvm.MethodName)).before a0 Z = true := hw _ (List.mem_of_getElem? (i := 14) rfl)
theorem tw15 {Z : State} {a0 : Array Value} (hw : ∀ d ∈ tables_1, d.before a0 Z = true) : (Jvm.Cond.selects "[Lcom/example/waymark/waymark/directory/ResultCode;" ({ cls := "[Lcom/example/waymark/waymark/directory/ResultCode;", name := "clone", desc := "()Ljava/lang/Object;" } : Jvm.MethodName) ({ cls := "java/lang/Object", name := "clone", desc := "()Ljava/lang/Object;" } : Jvm.MethodName)).before a0 Z = true := hw _ (List.mem_of_getElem? (i := 15) rfl)
theorem tw16 {Z : State} {a0 : Array Value} (hw : ∀ d ∈ tables_1, d.before a0 Z = true) : (Jvm.Cond.native ({ cls := "java/lang/Object", name := "clone", desc := "()Ljava/lang/Object;" } : Jvm.MethodName)).before a0 Z = true := hw _ (List.mem_of_getElem? (i := 16) rfl)
theorem tw17 {Z : State} {a0 : Array Value} (hw : ∀ d ∈ tables_1, d.before a0 Z = true) : (Jvm.Cond.castable "[Lcom/example/waymark/waymark/directory/ResultCode;" "java/lang/Cloneable").before a0 Z = true := hw _ (List.mem_of_getElem? (i := 17) rfl)
theorem tw18 {Z : State} {a0 : Array Value} (hw : ∀ d ∈ tables_1, d.before a0 Z = true) : (Jvm.Cond.laysStatic "com/example/waymark/waymark/directory/ResultCode" "SUCCESS" "Lcom/example/waymark/waymark/directory/ResultCode;").before a0 Z = true := hw _ (List.mem_of_getElem? (i := 18) rfl)
theorem tw19 {Z : State} {a0 : Array Value} (hw : ∀ d ∈ tables_1, d.before a0 Z = true) : (Jvm.Cond.laysStatic "com/example/waymark/waymark/directory/ResultCode" "PROTOCOL_ERROR" "Lcom/example/waymark/waymark/directory/ResultCode;").before a0 Z = true := hw _ (List.mem_of_getElem? (i := 19) rfl)
theorem tw20 {Z : State} {a0 : Array Value} (hw : ∀ d ∈ tables_1, d.before a0 Z = true) : (Jvm.Cond.laysStatic "com/example/waymark/waymark/directory/ResultCode" "TIME_LIMIT_EXCEEDED" "Lcom/example/waymark/waymark/directory/ResultCode;").before a0 Z = true := hw _ (List.mem_of_getElem? (i := 20) rfl)
theorem tw21 {Z : State} {a0 : Array Value} (hw : ∀ d ∈ tables_1, d.before a0 Z = true) : (Jvm.Cond.laysStatic "com/example/waymark/waymark/directory/ResultCode" "SIZE_LIMIT_EXCEEDED" "Lcom/example/waymark/waymark/directory/ResultCode;").before a0 Z = true := hw _ (List.mem_of_getElem? (i := 21) rfl)
theorem tw22 {Z : State} {a0 : Array Value} (hw : ∀ d ∈ tables_1, d.before a0 Z = true) : (Jvm.Cond.laysStatic "com/example/waymark/waymark/directory/ResultCode" "COMPARE_FALSE" "Lcom/example/waymark/waymark/directory/ResultCode;").before a0 Z = true := hw _ (List.mem_of_getElem? (i := 22) rfl)
theorem tw23 {Z : State} {a0 : Array Value} (hw : ∀ d ∈ tables_1, d.before a0 Z = true) : (Jvm.Cond.laysStatic "com/example/waymark/waymark/directory/ResultCode" "COMPARE_TRUE" "Lcom/example/waymark/waymark/directory/ResultCode;").before a0 Z = true := hw _ (List.mem_of_getElem? (i := 23) rfl)
theorem tw24 {Z : State} {a0 : Array Value} (hw : ∀ d ∈ tables_1, d.before a0 Z = true) : (Jvm.Cond.laysStatic "com/example/waymark/waymark/directory/ResultCode" "AUTH_METHOD_NOT_SUPPORTED" "Lcom/example/waymark/waymark/directory/ResultCode;").before a0 Z = true := hw _ (List.mem_of_getElem? (i := 24) rfl)
theorem tw25 {Z : State} {a0 : Array Value} (hw : ∀ d ∈ tables_1, d.before a0 Z = true) : (Jvm.Cond.laysStatic "com/example/waymark/waymark/directory/ResultCode" "STRONGER_AUTH_REQUIRED" "Lcom/example/waymark/waymark/directory/ResultCode;").before a0 Z = true := hw _ (List.mem_of_getElem? (i := 25) rfl)
theorem tw26 {Z : State} {a0 : Array Value} (hw : ∀ d ∈ tables_1, d.before a0 Z = true) : (Jvm.Cond.laysStatic "com/example/waymark/waymark/directory/ResultCode" "REFERRAL" "Lcom/example/waymark/waymark/directory/ResultCode;").before a0 Z = true := hw _ (List.mem_of_getElem? (i := 26) rfl)
theorem tw27 {Z : State} {a0 : Array Value} (hw : ∀ d ∈ tables_1, d.before a0 Z = true) : (Jvm.Cond.laysStatic "com/example/waymark/waymark/directory/ResultCode" "UNAVAILABLE_CRITICAL_EXTENSION" "Lcom/example/waymark/waymark/directory/ResultCode;").before a0 Z = true := hw _ (List.mem_of_getElem? (i := 27) rfl)
theorem tw28 {Z : State} {a0 : Array Value} (hw : ∀ d ∈ tables_1, d.before a0 Z = true) : (Jvm.Cond.laysStatic "com/example/waymark/waymark/directory/ResultCode" "NO_SUCH_ATTRIBUTE" "Lcom/example/waymark/waymark/directory/ResultCode;").before a0 Z = true := hw _ (List.mem_of_getElem? (i := 28) rfl)
theorem tw29 {Z : State} {a0 : Array Value} (hw : ∀ d ∈ tables_1, d.before a0 Z = true) : (Jvm.Cond.laysStatic "com/example/waymark/waymark/directory/ResultCode" "UNDEFINED_ATTRIBUTE_TYPE" "Lcom/example/waymark/waymark/directory/ResultCode;").before a0 Z = true := hw _ (List.mem_of_getElem? (i := 29) rfl)
theorem tw30 {Z : State} {a0 : Array Value} (hw : ∀ d ∈ tables_1, d.before a0 Z = true) : (Jvm.Cond.laysStatic "com/example/waymark/waymark/directory/ResultCode" "CONSTRAINT_VIOLATION" "Lcom/example/waymark/waymark/directory/ResultCode;").before a0 Z = true := hw _ (List.mem_of_getElem? (i := 30) rfl)
theorem tw31 {Z : State} {a0 : Array Value} (hw : ∀ d ∈ tables_1, d.before a0 Z = true) : (Jvm.Cond.laysStatic "com/example/waymark/waymark/directory/ResultCode" "ATTRIBUTE_OR_VALUE_EXISTS" "Lcom/example/waymark/waymark/directory/ResultCode;").before a0 Z = true := hw _ (List.mem_of_getElem? (i := 31) rfl)
theorem tw32 {Z : State} {a0 : Array Value} (hw : ∀ d ∈ tables_1, d.before a0 Z = true) : (Jvm.Cond.laysStatic "com/example/waymark/waymark/directory/ResultCode" "INVALID_ATTRIBUTE_SYNTAX" "Lcom/example/waymark/waymark/directory/ResultCode;").before a0 Z = true := hw _ (List.mem_of_getElem? (i := 32) rfl)
theorem tw33 {Z : State} {a0 : Array Value} (hw : ∀ d ∈ tables_1, d.before a0 Z = true) : (Jvm.Cond.laysStatic "com/example/waymark/waymark/directory/ResultCode" "NO_SUCH_OBJECT" "Lcom/example/waymark/waymark/directory/ResultCode;").before a0 Z = true := hw _ (List.mem_of_getElem? (i := 33) rfl)
theorem tw34 {Z : State} {a0 : Array Value} (hw : ∀ d ∈ tables_1, d.before a0 Z = true) : (Jvm.Cond.laysStatic "com/example/waymark/waymark/directory/ResultCode" "INVALID_DN_SYNTAX" "Lcom/example/waymark/waymark/directory/ResultCode;").before a0 Z = true := hw _ (List.mem_of_getElem? (i := 34) rfl)
theorem tw35 {Z : State} {a0 : Array Value} (hw : ∀ d ∈ tables_1, d.before a0 Z = true) : (Jvm.Cond.laysStatic "com/example/waymark/waymark/directory/ResultCode" "INVALID_CREDENTIALS" "Lcom/example/waymark/waymark/directory/ResultCode;").before a0 Z = true := hw _ (List.mem_of_getElem? (i := 35) rfl)
theorem tw36 {Z : State} {a0 : Array Value} (hw : ∀ d ∈ tables_1, d.before a0 Z = true) : (Jvm.Cond.laysStatic "com/example/waymark/waymark/directory/ResultCode" "UNAVAILABLE" "Lcom/example/waymark/waymark/directory/ResultCode;").before a0 Z = true := hw _ (List.mem_of_getElem? (i := 36) rfl)
theorem tw37 {Z : State} {a0 : Array Value} (hw : ∀ d ∈ tables_1, d.before a0 Z = true) : (Jvm.Cond.laysStatic "com/example/waymark/waymark/directory/ResultCode" "UNWILLING_TO_PERFORM" "Lcom/example/waymark/waymark/directory/ResultCode;").before a0 Z = true := hw _ (List.mem_of_getElem? (i := 37) rfl)
theorem tw38 {Z : State} {a0 : Array Value} (hw : ∀ d ∈ tables_1, d.before a0 Z = true) : (Jvm.Cond.laysStatic "com/example/waymark/waymark/directory/ResultCode" "NAMING_VIOLATION" "Lcom/example/waymark/waymark/directory/ResultCode;").before a0 Z = true := hw _ (List.mem_of_getElem? (i := 38) rfl)
theorem tw39 {Z : State} {a0 : Array Value} (hw : ∀ d ∈ tables_1, d.before a0 Z = true) : (Jvm.Cond.laysStatic "com/example/waymark/waymark/directory/ResultCode" "OBJECT_CLASS_VIOLATION" "Lcom/example/waymark/waymark/directory/ResultCode;").before a0 Z = true := hw _ (List.mem_of_getElem? (i := 39) rfl)
theorem tw40 {Z : State} {a0 : Array Value} (hw : ∀ d ∈ tables_1, d.before a0 Z = true) : (Jvm.Cond.laysStatic "com/example/waymark/waymark/directory/ResultCode" "NOT_ALLOWED_ON_NON_LEAF" "Lcom/example/waymark/waymark/directory/ResultCode;").before a0 Z = true := hw _ (List.mem_of_getElem? (i := 40) rfl)
theorem tw41 {Z : State} {a0 : Array Value} (hw : ∀ d ∈ tables_1, d.before a0 Z = true) : (Jvm.Cond.laysStatic "com/example/waymark/waymark/directory/ResultCode" "NOT_ALLOWED_ON_RDN" "Lcom/example/waymark/waymark/directory/ResultCode;").before a0 Z = true := hw _ (List.mem_of_getElem? (i := 41) rfl)
theorem tw42 {Z : State} {a0 : Array Value} (hw : ∀ d ∈ tables_1, d.before a0 Z = true) : (Jvm.Cond.laysStatic "com/example/waymark/waymark/directory/ResultCode" "ENTRY_ALREADY_EXISTS" "Lcom/example/waymark/waymark/directory/ResultCode;").before a0 Z = true := hw _ (List.mem_of_getElem? (i := 42) rfl)
theorem tw43 {Z : State} {a0 : Array Value} (hw : ∀ d ∈ tables_1, d.before a0 Z = true) : (Jvm.Cond.laysStatic "com/example/waymark/waymark/directory/ResultCode" "AFFECTS_MULTIPLE_DSAS" "Lcom/example/waymark/waymark/directory/ResultCode;").before a0 Z = true := hw _ (List.mem_of_getElem? (i := 43) rfl)
theorem tw45 {Z : State} {a0 : Array Value} (hw : ∀ d ∈ tables_1, d.before a0 Z = true) : (Jvm.Cond.classLink "com/example/waymark/waymark/directory/ResultCode" (90 : Nat) "[Lcom/example/waymark/waymark/directory/ResultCode;").before a0 Z = true := hw _ (List.mem_of_getElem? (i := 45) rfl)
theorem tw47 {Z : State} {a0 : Array Value} (hw : ∀ d ∈ tables_1, d.before a0 Z = true) : (Jvm.Cond.fieldLink "com/example/waymark/waymark/directory/ResultCode" (104 : Nat) "com/example/waymark/waymark/directory/ResultCode" "code" "I").before a0 Z = true := hw _ (List.mem_of_getElem? (i := 47) rfl)
theorem tw49 {Z : State} {a0 : Array Value} (hw : ∀ d ∈ tables_1, d.before a0 Z = true) : (Jvm.Cond.methodLink "com/example/waymark/waymark/directory/ResultCodeOfPinLaw" (13 : Nat) ({ cls := "com/example/waymark/waymark/directory/ResultCodeOfPinLaw", name := "listed", desc := "(I)Z" } : Jvm.MethodName)).before a0 Z = true := hw _ (List.mem_of_getElem? (i := 49) rfl)
theorem tw50 {Z : State} {a0 : Array Value} (hw : ∀ d ∈ tables_1, d.before a0 Z = true) : (Jvm.Cond.static ({ cls := "com/example/waymark/waymark/directory/ResultCodeOfPinLaw", name := "listed", desc := "(I)Z" } : Jvm.MethodName)).before a0 Z = true := hw _ (List.mem_of_getElem? (i := 50) rfl)
theorem tw51 {Z : State} {a0 : Array Value} (hw : ∀ d ∈ tables_1, d.before a0 Z = true) : (Jvm.Cond.initialized "com/example/waymark/waymark/directory/ResultCodeOfPinLaw").before a0 Z = true := hw _ (List.mem_of_getElem? (i := 51) rfl)
theorem tw52 {Z : State} {a0 : Array Value} (hw : ∀ d ∈ tables_1, d.before a0 Z = true) : (Jvm.Cond.code ({ cls := "com/example/waymark/waymark/directory/ResultCodeOfPinLaw", name := "listed", desc := "(I)Z" } : Jvm.MethodName) method_2_code (1 : Nat) (Option.some Jvm.ClassFile.FieldType.boolean)).before a0 Z = true := hw _ (List.mem_of_getElem? (i := 52) rfl)
theorem tw53 {Z : State} {a0 : Array Value} (hw : ∀ d ∈ tables_1, d.before a0 Z = true) : (Jvm.Cond.fieldLink "com/example/waymark/waymark/directory/ResultCodeOfPinLaw" (23 : Nat) "com/example/waymark/waymark/directory/ResultCode" "OTHER" "Lcom/example/waymark/waymark/directory/ResultCode;").before a0 Z = true := hw _ (List.mem_of_getElem? (i := 53) rfl)
theorem tw54 {Z : State} {a0 : Array Value} (hw : ∀ d ∈ tables_1, d.before a0 Z = true) : (Jvm.Cond.methodLink "com/example/waymark/waymark/directory/ResultCodeOfPinLaw" (19 : Nat) ({ cls := "com/example/waymark/waymark/directory/ResultCode", name := "code", desc := "()I" } : Jvm.MethodName)).before a0 Z = true := hw _ (List.mem_of_getElem? (i := 54) rfl)
theorem tw55 {Z : State} {a0 : Array Value} (hw : ∀ d ∈ tables_1, d.before a0 Z = true) : (Jvm.Cond.declares ({ cls := "com/example/waymark/waymark/directory/ResultCode", name := "code", desc := "()I" } : Jvm.MethodName)).before a0 Z = true := hw _ (List.mem_of_getElem? (i := 55) rfl)
theorem tw56 {Z : State} {a0 : Array Value} (hw : ∀ d ∈ tables_1, d.before a0 Z = true) : (Jvm.Cond.instanceMethod ({ cls := "com/example/waymark/waymark/directory/ResultCode", name := "code", desc := "()I" } : Jvm.MethodName)).before a0 Z = true := hw _ (List.mem_of_getElem? (i := 56) rfl)
theorem tw57 {Z : State} {a0 : Array Value} (hw : ∀ d ∈ tables_1, d.before a0 Z = true) : (Jvm.Cond.selects "com/example/waymark/waymark/directory/ResultCode" ({ cls := "com/example/waymark/waymark/directory/ResultCode", name := "code", desc := "()I" } : Jvm.MethodName) ({ cls := "com/example/waymark/waymark/directory/ResultCode", name := "code", desc := "()I" } : Jvm.MethodName)).before a0 Z = true := hw _ (List.mem_of_getElem? (i := 57) rfl)
theorem tw58 {Z : State} {a0 : Array Value} (hw : ∀ d ∈ tables_1, d.before a0 Z = true) : (Jvm.Cond.code ({ cls := "com/example/waymark/waymark/directory/ResultCode", name := "code", desc := "()I" } : Jvm.MethodName) prog_23_method_5_code (1 : Nat) (Option.some Jvm.ClassFile.FieldType.int)).before a0 Z = true := hw _ (List.mem_of_getElem? (i := 58) rfl)
abbrev mn0 : MethodName := ⟨"com/example/waymark/waymark/directory/ResultCode", "values", "()[Lcom/example/waymark/waymark/directory/ResultCode;"⟩
abbrev mn1 : MethodName := ⟨"com/example/waymark/waymark/directory/ResultCode", "of", "(I)Lcom/example/waymark/waymark/directory/ResultCode;"⟩
abbrev mn2 : MethodName := ⟨"com/example/waymark/waymark/directory/ResultCodeOfPinLaw", "listed", "(I)Z"⟩
abbrev mn3 : MethodName := ⟨"com/example/waymark/waymark/directory/ResultCode", "code", "()I"⟩
theorem pd_3 : parseMethodDescriptor "()I" = some ⟨[], some .int⟩ := by decide +kernel
theorem pd_2 : parseMethodDescriptor "(I)Z" = some ⟨[.int], some .boolean⟩ := by decide +kernel
theorem pd_1 : parseMethodDescriptor "(I)Lcom/example/waymark/waymark/directory/ResultCode;" = some ⟨[.int], some (.object "com/example/waymark/waymark/directory/ResultCode")⟩ := by decide +kernel
theorem pd_0 : parseMethodDescriptor "()[Lcom/example/waymark/waymark/directory/ResultCode;" = some ⟨[], some (.array (.object "com/example/waymark/waymark/directory/ResultCode"))⟩ := by decide +kernel
def klist : List Int32 := [0, 2, 3, 4, 5, 6, 7, 8, 10, 12, 16, 17, 19, 20, 21, 32, 34, 49, 52, 53, 64, 65, 66, 67, 68, 71, 80]
def K (j : Nat) : Int32 := klist.getD j 0
theorem K_mem {j : Nat} (h : j < 27) : K j ∈ klist := (by decide : ∀ j : Fin 27, K j.1 ∈ klist) ⟨j, h⟩
theorem mem_K {x : Int32} (h : x ∈ klist) : ∃ j, j < 27 ∧ K j = x := by
  obtain ⟨j, hj, e⟩ := List.getElem_of_mem h
  exact ⟨j, hj, by rw [← e]; simp [K, List.getD_eq_getElem?_getD, List.getElem?_eq_getElem hj]⟩
def fL (x : Int32) : Int32 := if x ∈ klist then 1 else 0
/-- the loop's answer: the last of the places i .. i + k - 1 whose code is x, else r -/
def fO (W : Nat → Addr) (x : Int32) : Nat → Nat → Addr → Addr
  | _, 0, r => r
  | i, k + 1, r => fO W x (i + 1) k (if K i = x then W i else r)
theorem fO_or (W : Nat → Addr) (x : Int32) : ∀ (k i : Nat) (r : Addr), (∃ j, i ≤ j ∧ j < i + k ∧ K j = x ∧ fO W x i k r = W j) ∨ ((∀ j, i ≤ j → j < i + k → K j ≠ x) ∧ fO W x i k r = r)
  | 0, i, r => Or.inr ⟨fun j h1 h2 => by omega, rfl⟩
  | k + 1, i, r => by
    rcases fO_or W x k (i + 1) (if K i = x then W i else r) with ⟨j, h1, h2, h3, h4⟩ | ⟨h1, h2⟩
    · exact Or.inl ⟨j, by omega, by omega, h3, h4⟩
    · by_cases q : K i = x
      · rw [if_pos q] at h2
        exact Or.inl ⟨i, Nat.le_refl _, by omega, q, by show fO W x (i + 1) k _ = _; rw [if_pos q]; exact h2⟩
      · rw [if_neg q] at h2
        refine Or.inr ⟨fun j h3 h4 => ?_, by show fO W x (i + 1) k _ = _; rw [if_neg q]; exact h2⟩
        rcases Nat.eq_or_lt_of_le h3 with e | e
        · exact e ▸ q
        · exact h1 j (by omega) (by omega)
/-- what the walks use of the enum -/
def OwnF (Z : State) (h : Heap) (w_OTHER w__VALUES : Addr) (W : Nat → Addr) : Prop := Sta Z h "com/example/waymark/waymark/directory/ResultCode" "OTHER" "Lcom/example/waymark/waymark/directory/ResultCode;" (.ref w_OTHER) ∧ Sta Z h "com/example/waymark/waymark/directory/ResultCode" "$VALUES" "[Lcom/example/waymark/waymark/directory/ResultCode;" (.ref w__VALUES) ∧ Exa Z h w__VALUES "[Lcom/example/waymark/waymark/directory/ResultCode;" ∧
  (∃ c : Cell, Arr Z h w__VALUES c (.object "com/example/waymark/waymark/directory/ResultCode") ∧ c.slots.size = 27 ∧ FitC Z c ∧ ∀ i, i < 27 → c.slots[i]? = some (.ref (W i))) ∧ W 26 = w_OTHER ∧ ∀ i, i < 27 → Exa Z h (W i) "com/example/waymark/waymark/directory/ResultCode" ∧ Fld Z h (W i) "com/example/waymark/waymark/directory/ResultCode" "code" "I" (.int (K i))
theorem OwnF.ext {Z : State} {h h' : Heap} {w_OTHER w__VALUES : Addr} {W : Nat → Addr} (E : Ext h h') (F : OwnF Z h w_OTHER w__VALUES W) : OwnF Z h' w_OTHER w__VALUES W := by
  obtain ⟨f1, f2, f3, ⟨c, f4, f5, f6, f7⟩, f8, f9⟩ := F
  exact ⟨f1.ext E, f2.ext E, f3.ext E, ⟨c, f4.ext E, f5, f6, f7⟩, f8, fun i hi => ⟨(f9 i hi).1.ext E, (f9 i hi).2.ext E⟩⟩
theorem d2_0 : decode prog_23_method_1_code 0 = .ok (.getstatic 85, 3) := by decide +kernel
theorem d2_3 : decode prog_23_method_1_code 3 = .ok (.invokevirtual 89, 3) := by decide +kernel
theorem d2_6 : decode prog_23_method_1_code 6 = .ok (.checkcast 90, 3) := by decide +kernel
theorem d2_9 : decode prog_23_method_1_code 9 = .ok (.areturn, 1) := by decide +kernel
theorem pn_rm_values : plainName "com/example/waymark/waymark/directory/ResultCode" = true := by first | (simp [plainName, overriddenIn]; done) | decide +kernel
set_option maxRecDepth 65536 in
set_option maxHeartbeats 40000000 in
theorem rm_values (l : Launch) (Z : State) (a0 : Array Value) (hw : ∀ d ∈ tables_1, d.before a0 Z = true) (w_OTHER w__VALUES : Addr) (W : Nat → Addr) (h0 : Heap) (F0 : OwnF Z h0 w_OTHER w__VALUES W) :
    OMeets l Z mn0 prog_23_method_1_code 0 (some (.array (.object "com/example/waymark/waymark/directory/ResultCode"))) [] ({ frames := 1, cells := 1, slots := 27, locals := 14 } : Room) #[] h0 (fun v h L => ∃ o k, v = some (.ref o) ∧ Fr h0.size L ∧ Ext h0 h ∧ Ary Z h o k (.object "com/example/waymark/waymark/directory/ResultCode") 27 (fun i => .ref (W i))) := by
  refine OMeets.of pn_rm_values #[] (fun m => by first | rfl | (simp [entryFrame, mkF, argsToLocals, Value.category, maxLocals]; done)) ?_
  intro p e s m below meth c s₁ B X0 e0
  obtain ⟨S_OTHER, S_V, E_V, ⟨cV, A_V, z_V, f_V, g_V⟩, hW, hE⟩ := id F0
  refine s_getS B X0 (pc' := 3) e0 (tw9 hw) Via.refl S_V d2_0 rfl (fun T1 X1 e1 => ?_)
  refine s_clone B X1 (pc' := 6) (W := 0) (cap := 27) e1 (tw11 hw) (tw12 hw) (tw16 hw) (tw14 hw) (tw15 hw) (tw17 hw) A_V E_V f_V rfl (by decide) (by decide) (by omega) (by decide) (by decide) rfl d2_3 rfl (fun T5 h5 o g5 X5 e5 E5 A5 F5 => ?_)
  refine s_castY B X5 (pc' := 9) e5 (tw45 hw) (Ins.self F5) d2_6 rfl (fun T6 X6 e6 => ?_)
  exact r_ref B X6 (t := (.array (.object "com/example/waymark/waymark/directory/ResultCode"))) rfl rfl rfl rfl d2_9 (by rw [e6]; exact ⟨o, cV.cls, rfl, Fr.nil _, E5, cloneOf cV, A5, rfl, z_V, by decide, g_V⟩) (by decide) (by decide)
theorem own_of27 {i : Nat} (h : i < 27) : Int32.ofNat i < 27 ∧ ¬ Int32.ofNat i < 0 ∧ (Int32.ofNat i).toNatClampNeg = i ∧ Int32.ofNat i + Int32.ofInt 1 = Int32.ofNat (i + 1) := (by decide : ∀ i : Fin 27, Int32.ofNat i.1 < 27 ∧ ¬ Int32.ofNat i.1 < 0 ∧ (Int32.ofNat i.1).toNatClampNeg = i.1 ∧ Int32.ofNat i.1 + Int32.ofInt 1 = Int32.ofNat (i.1 + 1)) ⟨i, h⟩
theorem d1_0 : decode prog_23_method_4_code 0 = .ok (.getstatic 82, 3) := by decide +kernel
theorem d1_3 : decode prog_23_method_4_code 3 = .ok (.astore_n 1, 1) := by decide +kernel
theorem d1_4 : decode prog_23_method_4_code 4 = .ok (.invokestatic 112, 3) := by decide +kernel
theorem d1_7 : decode prog_23_method_4_code 7 = .ok (.astore_n 2, 1) := by decide +kernel
theorem d1_8 : decode prog_23_method_4_code 8 = .ok (.aload_n 2, 1) := by decide +kernel
theorem d1_9 : decode prog_23_method_4_code 9 = .ok (.arraylength, 1) := by decide +kernel
theorem d1_10 : decode prog_23_method_4_code 10 = .ok (.istore_n 3, 1) := by decide +kernel
theorem d1_11 : decode prog_23_method_4_code 11 = .ok (.iconst 0, 1) := by decide +kernel
theorem d1_12 : decode prog_23_method_4_code 12 = .ok (.istore 4, 2) := by decide +kernel
theorem d1_14 : decode prog_23_method_4_code 14 = .ok (.iload 4, 2) := by decide +kernel
theorem d1_16 : decode prog_23_method_4_code 16 = .ok (.iload_n 3, 1) := by decide +kernel
theorem d1_17 : decode prog_23_method_4_code 17 = .ok (.if_icmp .ge 27, 3) := by decide +kernel
theorem d1_20 : decode prog_23_method_4_code 20 = .ok (.aload_n 2, 1) := by decide +kernel
theorem d1_21 : decode prog_23_method_4_code 21 = .ok (.iload 4, 2) := by decide +kernel
theorem d1_23 : decode prog_23_method_4_code 23 = .ok (.aaload, 1) := by decide +kernel
theorem d1_24 : decode prog_23_method_4_code 24 = .ok (.astore 5, 2) := by decide +kernel
theorem d1_26 : decode prog_23_method_4_code 26 = .ok (.aload 5, 2) := by decide +kernel
theorem d1_28 : decode prog_23_method_4_code 28 = .ok (.getfield 104, 3) := by decide +kernel
theorem d1_31 : decode prog_23_method_4_code 31 = .ok (.iload_n 0, 1) := by decide +kernel
theorem d1_32 : decode prog_23_method_4_code 32 = .ok (.if_icmp .ne 6, 3) := by decide +kernel
theorem d1_35 : decode prog_23_method_4_code 35 = .ok (.aload 5, 2) := by decide +kernel
theorem d1_37 : decode prog_23_method_4_code 37 = .ok (.astore_n 1, 1) := by decide +kernel
theorem d1_38 : decode prog_23_method_4_code 38 = .ok (.iinc 4 1, 3) := by decide +kernel
theorem d1_41 : decode prog_23_method_4_code 41 = .ok (.goto (-27), 3) := by decide +kernel
theorem d1_44 : decode prog_23_method_4_code 44 = .ok (.aload_n 1, 1) := by decide +kernel
theorem d1_45 : decode prog_23_method_4_code 45 = .ok (.areturn, 1) := by decide +kernel
theorem pn_rm_of : plainName "com/example/waymark/waymark/directory/ResultCode" = true := by first | (simp [plainName, overriddenIn]; done) | decide +kernel
set_option maxRecDepth 65536 in
set_option maxHeartbeats 40000000 in
theorem rm_of (l : Launch) (Z : State) (a0 : Array Value) (hw : ∀ d ∈ tables_1, d.before a0 Z = true) (x : Int32) (w_OTHER w__VALUES : Addr) (W : Nat → Addr) (h0 : Heap) (F0 : OwnF Z h0 w_OTHER w__VALUES W) :
    OMeets l Z mn1 prog_23_method_4_code 6 (some (.object "com/example/waymark/waymark/directory/ResultCode")) [] ({ frames := 2, cells := 1, slots := 27, locals := 25 } : Room) #[(.int x)] h0 (fun v h L => v = some (.ref (fO W x 0 27 w_OTHER)) ∧ Fr h0.size L ∧ Ext h0 h) := by
  refine OMeets.of pn_rm_of #[.val (.int x), .unset, .unset, .unset, .unset, .unset] (fun m => by first | rfl | (simp [entryFrame, mkF, argsToLocals, Value.category, maxLocals]; done)) ?_
  intro p e s m below meth c s₁ B X0 e0
  obtain ⟨S_OTHER, S_V, E_V, ⟨cV, A_V, z_V, f_V, g_V⟩, hW, hE⟩ := id F0
  refine s_getS B X0 (pc' := 3) e0 (tw4 hw) Via.refl S_OTHER d1_0 rfl (fun T1 X1 e1 => ?_)
  refine s_astoreN B X1 (pc' := 4) (Ls' := #[.val (.int x), .val (.ref w_OTHER), .unset, .unset, .unset, .unset]) d1_3 rfl rfl rfl ?_
  refine c_static B X1 (y := mn0) (pc' := 7) (argsL := []) (under := []) (W := 0) e1 (tw6 hw) (tw7 hw) (tw8 hw) (tw2 hw) (by decide) (rm_values l Z a0 hw w_OTHER w__VALUES W h0 F0) (lenOf pd_0 rfl) rfl rfl (by decide) (by decide) (by decide) (by decide) rfl d1_4 rfl (fun v2 T2 L2 X2 hQ => ?_)
  obtain ⟨o, k, rfl, N2, E2, A2⟩ := hQ
  have F2 := OwnF.ext E2 F0
  obtain ⟨-, -, -, -, -, hE2⟩ := id F2
  show Go p e below _ (T2.setTop (mkF m 7 #[.val (.int x), .val (.ref w_OTHER), .unset, .unset, .unset, .unset] [(.ref o)]))
  refine s_astoreN B X2 (pc' := 8) (Ls' := #[.val (.int x), .val (.ref w_OTHER), .val (.ref o), .unset, .unset, .unset]) d1_7 rfl rfl rfl ?_
  refine s_aloadN B X2 (pc' := 9) d1_8 rfl rfl rfl ?_
  refine s_len B X2 (pc' := 10) (v := (27 : Int32)) rfl A2 rfl d1_9 rfl ?_
  refine s_istoreN B X2 (pc' := 11) (Ls' := #[.val (.int x), .val (.ref w_OTHER), .val (.ref o), .val (.int (27 : Int32)), .unset, .unset]) d1_10 rfl rfl ?_
  refine s_iconst B X2 (pc' := 12) (v := (0 : Int32)) d1_11 rfl rfl ?_
  refine s_istore B X2 (pc' := 14) (Ls' := #[.val (.int x), .val (.ref w_OTHER), .val (.ref o), .val (.int (27 : Int32)), .val (.int (0 : Int32)), .unset]) d1_12 rfl rfl ?_
  have loop : ∀ (k i : Nat), i + k = 27 → ∀ (r : Addr) (s5 : Slot), One s5 → fO W x i k r = fO W x 0 27 w_OTHER → ∀ T, Stand p l e ({ frames := 2, cells := 1, slots := 27, locals := 25 } : Room) s m #[(.int x)] below meth c T ([] ++ L2) (0 + 1) (0 + 27) → T.heap = T2.heap → Go p e below (OEnds s (fun v h L => v = some (.ref (fO W x 0 27 w_OTHER)) ∧ Fr h0.size L ∧ Ext h0 h) ({ frames := 2, cells := 1, slots := 27, locals := 25 } : Room).cells ({ frames := 2, cells := 1, slots := 27, locals := 25 } : Room).slots) (T.setTop (mkF m 14 #[.val (.int x), .val (.ref r), .val (.ref o), .val (.int (27 : Int32)), .val (.int (Int32.ofNat i)), s5] [])) := by
    intro k
    induction k with
    | zero =>
      intro i hi r s5 h5 hr T X e
      obtain rfl : i = 27 := by omega
      refine s_iload B X (pc' := 16) d1_14 rfl rfl ?_
      refine s_iloadN B X (pc' := 17) d1_16 rfl rfl ?_
      refine b_icmp_ge B X (py := 44) (pn := 20) d1_17 (by decide) (by decide) rfl (fun _ => ?_) (fun q => absurd q (by decide))
      refine s_aloadN B X (pc' := 45) d1_44 rfl rfl rfl ?_
      exact r_ref B X (t := (.object "com/example/waymark/waymark/directory/ResultCode")) rfl rfl rfl rfl d1_45 ⟨congrArg (fun z => some (Value.ref z)) hr, (by simpa using N2), by rw [e]; exact E2⟩ (by decide) (by decide)
    | succ k ih =>
      intro i hi r s5 h5 hr T X e
      have hi27 : i < 27 := by omega
      obtain ⟨q1, q2, q3, q4⟩ := own_of27 hi27
      refine s_iload B X (pc' := 16) d1_14 rfl rfl ?_
      refine s_iloadN B X (pc' := 17) d1_16 rfl rfl ?_
      refine b_icmp_ge B X (py := 44) (pn := 20) d1_17 (by decide) (by decide) rfl (fun q => absurd q1 q) (fun _ => ?_)
      refine s_aloadN B X (pc' := 21) d1_20 rfl rfl rfl ?_
      refine s_iload B X (pc' := 23) d1_21 rfl rfl ?_
      refine s_ldR B X (pc' := 24) (jn := i) (v := (.ref (W i))) e (h := T2.heap) A2 rfl q2 q3 hi27 rfl d1_23 rfl ?_
      refine s_astoreG B X (pc' := 26) (Ls' := #[.val (.int x), .val (.ref r), .val (.ref o), .val (.int (27 : Int32)), .val (.int (Int32.ofNat i)), .val (.ref (W i))]) d1_24 rfl rfl h5 rfl rfl ?_
      refine s_aload B X (pc' := 28) d1_26 rfl rfl rfl ?_
      refine s_getF B X (pc' := 31) e (host := "") (Or.inl (tw47 hw)) Via.refl (hE2 i hi27).2 d1_28 rfl (fun T2 X2 e2 => ?_)
      refine s_iloadN B X2 (pc' := 32) d1_31 rfl rfl ?_
      refine b_icmp_ne B X2 (py := 38) (pn := 35) d1_32 (by decide) (by decide) rfl (fun hc32_3 => ?_) (fun hc32_3 => ?_)
      · refine s_iinc B X2 (pc' := 41) (v := (Int32.ofNat (i + 1))) (Ls' := #[.val (.int x), .val (.ref r), .val (.ref o), .val (.int (27 : Int32)), .val (.int (Int32.ofNat (i + 1))), .val (.ref (W i))]) d1_38 rfl q4 rfl rfl ?_
        refine s_goto B X2 (pc' := 14) d1_41 (by decide) (by decide) ?_
        exact ih (i + 1) (by omega) r _ (One.val rfl) (by rw [← hr]; show _ = fO W x (i + 1) k _; rw [if_neg hc32_3]) _ X2 e2
      · refine s_aload B X2 (pc' := 37) d1_35 rfl rfl rfl ?_
        refine s_astoreN B X2 (pc' := 38) (Ls' := #[.val (.int x), .val (.ref (W i)), .val (.ref o), .val (.int (27 : Int32)), .val (.int (Int32.ofNat i)), .val (.ref (W i))]) d1_37 rfl rfl rfl ?_
        refine s_iinc B X2 (pc' := 41) (v := (Int32.ofNat (i + 1))) (Ls' := #[.val (.int x), .val (.ref (W i)), .val (.ref o), .val (.int (27 : Int32)), .val (.int (Int32.ofNat (i + 1))), .val (.ref (W i))]) d1_38 rfl q4 rfl rfl ?_
        refine s_goto B X2 (pc' := 14) d1_41 (by decide) (by decide) ?_
        exact ih (i + 1) (by omega) (W i) _ (One.val rfl) (by rw [← hr]; show _ = fO W x (i + 1) k _; rw [if_pos hc32_3]) _ X2 e2
  exact loop 27 0 rfl w_OTHER .unset One.u rfl _ X2 rfl
theorem d3_0 : decode method_2_code 0 = .ok (.iload_n 0, 1) := by decide +kernel
theorem d3_1 : decode method_2_code 1 = .ok (.ifCond .eq 155, 3) := by decide +kernel
theorem d3_4 : decode method_2_code 4 = .ok (.iload_n 0, 1) := by decide +kernel
theorem d3_5 : decode method_2_code 5 = .ok (.iconst 2, 1) := by decide +kernel
theorem d3_6 : decode method_2_code 6 = .ok (.if_icmp .eq 150, 3) := by decide +kernel
theorem d3_9 : decode method_2_code 9 = .ok (.iload_n 0, 1) := by decide +kernel
theorem d3_10 : decode method_2_code 10 = .ok (.iconst 3, 1) := by decide +kernel
theorem d3_11 : decode method_2_code 11 = .ok (.if_icmp .eq 145, 3) := by decide +kernel
theorem d3_14 : decode method_2_code 14 = .ok (.iload_n 0, 1) := by decide +kernel
theorem d3_15 : decode method_2_code 15 = .ok (.iconst 4, 1) := by decide +kernel
theorem d3_16 : decode method_2_code 16 = .ok (.if_icmp .eq 140, 3) := by decide +kernel
theorem d3_19 : decode method_2_code 19 = .ok (.iload_n 0, 1) := by decide +kernel
theorem d3_20 : decode method_2_code 20 = .ok (.iconst 5, 1) := by decide +kernel
theorem d3_21 : decode method_2_code 21 = .ok (.if_icmp .eq 135, 3) := by decide +kernel
theorem d3_24 : decode method_2_code 24 = .ok (.iload_n 0, 1) := by decide +kernel
theorem d3_25 : decode method_2_code 25 = .ok (.bipush 6, 2) := by decide +kernel
theorem d3_27 : decode method_2_code 27 = .ok (.if_icmp .eq 129, 3) := by decide +kernel
theorem d3_30 : decode method_2_code 30 = .ok (.iload_n 0, 1) := by decide +kernel
theorem d3_31 : decode method_2_code 31 = .ok (.bipush 7, 2) := by decide +kernel
theorem d3_33 : decode method_2_code 33 = .ok (.if_icmp .eq 123, 3) := by decide +kernel
theorem d3_36 : decode method_2_code 36 = .ok (.iload_n 0, 1) := by decide +kernel
theorem d3_37 : decode method_2_code 37 = .ok (.bipush 8, 2) := by decide +kernel
theorem d3_39 : decode method_2_code 39 = .ok (.if_icmp .eq 117, 3) := by decide +kernel
theorem d3_42 : decode method_2_code 42 = .ok (.iload_n 0, 1) := by decide +kernel
theorem d3_43 : decode method_2_code 43 = .ok (.bipush 10, 2) := by decide +kernel
theorem d3_45 : decode method_2_code 45 = .ok (.if_icmp .eq 111, 3) := by decide +kernel
theorem d3_48 : decode method_2_code 48 = .ok (.iload_n 0, 1) := by decide +kernel
theorem d3_49 : decode method_2_code 49 = .ok (.bipush 12, 2) := by decide +kernel
theorem d3_51 : decode method_2_code 51 = .ok (.if_icmp .eq 105, 3) := by decide +kernel
theorem d3_54 : decode method_2_code 54 = .ok (.iload_n 0, 1) := by decide +kernel
theorem d3_55 : decode method_2_code 55 = .ok (.bipush 16, 2) := by decide +kernel
theorem d3_57 : decode method_2_code 57 = .ok (.if_icmp .eq 99, 3) := by decide +kernel
theorem d3_60 : decode method_2_code 60 = .ok (.iload_n 0, 1) := by decide +kernel
theorem d3_61 : decode method_2_code 61 = .ok (.bipush 17, 2) := by decide +kernel
theorem d3_63 : decode method_2_code 63 = .ok (.if_icmp .eq 93, 3) := by decide +kernel
theorem d3_66 : decode method_2_code 66 = .ok (.iload_n 0, 1) := by decide +kernel
theorem d3_67 : decode method_2_code 67 = .ok (.bipush 19, 2) := by decide +kernel
theorem d3_69 : decode method_2_code 69 = .ok (.if_icmp .eq 87, 3) := by decide +kernel
theorem d3_72 : decode method_2_code 72 = .ok (.iload_n 0, 1) := by decide +kernel
theorem d3_73 : decode method_2_code 73 = .ok (.bipush 20, 2) := by decide +kernel
theorem d3_75 : decode method_2_code 75 = .ok (.if_icmp .eq 81, 3) := by decide +kernel
theorem d3_78 : decode method_2_code 78 = .ok (.iload_n 0, 1) := by decide +kernel
theorem d3_79 : decode method_2_code 79 = .ok (.bipush 21, 2) := by decide +kernel
theorem d3_81 : decode method_2_code 81 = .ok (.if_icmp .eq 75, 3) := by decide +kernel
theorem d3_84 : decode method_2_code 84 = .ok (.iload_n 0, 1) := by decide +kernel
theorem d3_85 : decode method_2_code 85 = .ok (.bipush 32, 2) := by decide +kernel
theorem d3_87 : decode method_2_code 87 = .ok (.if_icmp .eq 69, 3) := by decide +kernel
theorem d3_90 : decode method_2_code 90 = .ok (.iload_n 0, 1) := by decide +kernel
theorem d3_91 : decode method_2_code 91 = .ok (.bipush 34, 2) := by decide +kernel
theorem d3_93 : decode method_2_code 93 = .ok (.if_icmp .eq 63, 3) := by decide +kernel
theorem d3_96 : decode method_2_code 96 = .ok (.iload_n 0, 1) := by decide +kernel
theorem d3_97 : decode method_2_code 97 = .ok (.bipush 49, 2) := by decide +kernel
theorem d3_99 : decode method_2_code 99 = .ok (.if_icmp .eq 57, 3) := by decide +kernel
theorem d3_102 : decode method_2_code 102 = .ok (.iload_n 0, 1) := by decide +kernel
theorem d3_103 : decode method_2_code 103 = .ok (.bipush 52, 2) := by decide +kernel
theorem d3_105 : decode method_2_code 105 = .ok (.if_icmp .eq 51, 3) := by decide +kernel
theorem d3_108 : decode method_2_code 108 = .ok (.iload_n 0, 1) := by decide +kernel
theorem d3_109 : decode method_2_code 109 = .ok (.bipush 53, 2) := by decide +kernel
theorem d3_111 : decode method_2_code 111 = .ok (.if_icmp .eq 45, 3) := by decide +kernel
theorem d3_114 : decode method_2_code 114 = .ok (.iload_n 0, 1) := by decide +kernel
theorem d3_115 : decode method_2_code 115 = .ok (.bipush 64, 2) := by decide +kernel
theorem d3_117 : decode method_2_code 117 = .ok (.if_icmp .eq 39, 3) := by decide +kernel
theorem d3_120 : decode method_2_code 120 = .ok (.iload_n 0, 1) := by decide +kernel
theorem d3_121 : decode method_2_code 121 = .ok (.bipush 65, 2) := by decide +kernel
theorem d3_123 : decode method_2_code 123 = .ok (.if_icmp .eq 33, 3) := by decide +kernel
theorem d3_126 : decode method_2_code 126 = .ok (.iload_n 0, 1) := by decide +kernel
theorem d3_127 : decode method_2_code 127 = .ok (.bipush 66, 2) := by decide +kernel
theorem d3_129 : decode method_2_code 129 = .ok (.if_icmp .eq 27, 3) := by decide +kernel
theorem d3_132 : decode method_2_code 132 = .ok (.iload_n 0, 1) := by decide +kernel
theorem d3_133 : decode method_2_code 133 = .ok (.bipush 67, 2) := by decide +kernel
theorem d3_135 : decode method_2_code 135 = .ok (.if_icmp .eq 21, 3) := by decide +kernel
theorem d3_138 : decode method_2_code 138 = .ok (.iload_n 0, 1) := by decide +kernel
theorem d3_139 : decode method_2_code 139 = .ok (.bipush 68, 2) := by decide +kernel
theorem d3_141 : decode method_2_code 141 = .ok (.if_icmp .eq 15, 3) := by decide +kernel
theorem d3_144 : decode method_2_code 144 = .ok (.iload_n 0, 1) := by decide +kernel
theorem d3_145 : decode method_2_code 145 = .ok (.bipush 71, 2) := by decide +kernel
theorem d3_147 : decode method_2_code 147 = .ok (.if_icmp .eq 9, 3) := by decide +kernel
theorem d3_150 : decode method_2_code 150 = .ok (.iload_n 0, 1) := by decide +kernel
theorem d3_151 : decode method_2_code 151 = .ok (.bipush 80, 2) := by decide +kernel
theorem d3_153 : decode method_2_code 153 = .ok (.if_icmp .ne 7, 3) := by decide +kernel
theorem d3_156 : decode method_2_code 156 = .ok (.iconst 1, 1) := by decide +kernel
theorem d3_157 : decode method_2_code 157 = .ok (.goto 4, 3) := by decide +kernel
theorem d3_160 : decode method_2_code 160 = .ok (.iconst 0, 1) := by decide +kernel
theorem d3_161 : decode method_2_code 161 = .ok (.ireturn, 1) := by decide +kernel
theorem pn_rm_listed : plainName "com/example/waymark/waymark/directory/ResultCodeOfPinLaw" = true := by first | (simp [plainName, overriddenIn]; done) | decide +kernel
set_option maxRecDepth 65536 in
set_option maxHeartbeats 40000000 in
theorem rm_listed (l : Launch) (Z : State) (a0 : Array Value) (hw : ∀ d ∈ tables_1, d.before a0 Z = true) (q0 : Int32) (h0 : Heap) :
    OMeets l Z mn2 method_2_code 1 (some .boolean) [] ({ frames := 0, cells := 0, slots := 0, locals := 0 } : Room) #[(.int q0)] h0 (PureQ (some (.int (fL q0))) h0) := by
  refine OMeets.of pn_rm_listed #[.val (.int q0)] (fun m => by first | rfl | (simp [entryFrame, mkF, argsToLocals, Value.category, maxLocals]; done)) ?_
  intro p e s m below meth c s₁ B X0 e0
  refine s_iloadN B X0 (pc' := 1) d3_0 rfl rfl ?_
  refine b_if_eq B X0 (py := 156) (pn := 4) d3_1 (by decide) (by decide) rfl (fun hc1_1 => ?_) (fun hc1_1 => ?_)
  · refine s_iconst B X0 (pc' := 157) (v := (1 : Int32)) d3_156 rfl rfl ?_
    refine s_goto B X0 (pc' := 161) d3_157 (by decide) (by decide) ?_
    exact r_nar B X0 (t := .boolean) (by simp) rfl d3_161 ⟨congrArg (fun z => some (Value.int z)) (show nar .boolean (1 : Int32) = fL q0 from by simp [fL, klist, nar, hc1_1]), rfl, e0⟩ (by decide) (by decide)
  · refine s_iloadN B X0 (pc' := 5) d3_4 rfl rfl ?_
    refine s_iconst B X0 (pc' := 6) (v := (2 : Int32)) d3_5 rfl rfl ?_
    refine b_icmp_eq B X0 (py := 156) (pn := 9) d3_6 (by decide) (by decide) rfl (fun hc6_2 => ?_) (fun hc6_2 => ?_)
    · refine s_iconst B X0 (pc' := 157) (v := (1 : Int32)) d3_156 rfl rfl ?_
      refine s_goto B X0 (pc' := 161) d3_157 (by decide) (by decide) ?_
      exact r_nar B X0 (t := .boolean) (by simp) rfl d3_161 ⟨congrArg (fun z => some (Value.int z)) (show nar .boolean (1 : Int32) = fL q0 from by simp [fL, klist, nar, hc1_1, hc6_2]), rfl, e0⟩ (by decide) (by decide)
    · refine s_iloadN B X0 (pc' := 10) d3_9 rfl rfl ?_
      refine s_iconst B X0 (pc' := 11) (v := (3 : Int32)) d3_10 rfl rfl ?_
      refine b_icmp_eq B X0 (py := 156) (pn := 14) d3_11 (by decide) (by decide) rfl (fun hc11_3 => ?_) (fun hc11_3 => ?_)
      · refine s_iconst B X0 (pc' := 157) (v := (1 : Int32)) d3_156 rfl rfl ?_
        refine s_goto B X0 (pc' := 161) d3_157 (by decide) (by decide) ?_
        exact r_nar B X0 (t := .boolean) (by simp) rfl d3_161 ⟨congrArg (fun z => some (Value.int z)) (show nar .boolean (1 : Int32) = fL q0 from by simp [fL, klist, nar, hc1_1, hc6_2, hc11_3]), rfl, e0⟩ (by decide) (by decide)
      · refine s_iloadN B X0 (pc' := 15) d3_14 rfl rfl ?_
        refine s_iconst B X0 (pc' := 16) (v := (4 : Int32)) d3_15 rfl rfl ?_
        refine b_icmp_eq B X0 (py := 156) (pn := 19) d3_16 (by decide) (by decide) rfl (fun hc16_4 => ?_) (fun hc16_4 => ?_)
        · refine s_iconst B X0 (pc' := 157) (v := (1 : Int32)) d3_156 rfl rfl ?_
          refine s_goto B X0 (pc' := 161) d3_157 (by decide) (by decide) ?_
          exact r_nar B X0 (t := .boolean) (by simp) rfl d3_161 ⟨congrArg (fun z => some (Value.int z)) (show nar .boolean (1 : Int32) = fL q0 from by simp [fL, klist, nar, hc1_1, hc6_2, hc11_3, hc16_4]), rfl, e0⟩ (by decide) (by decide)
        · refine s_iloadN B X0 (pc' := 20) d3_19 rfl rfl ?_
          refine s_iconst B X0 (pc' := 21) (v := (5 : Int32)) d3_20 rfl rfl ?_
          refine b_icmp_eq B X0 (py := 156) (pn := 24) d3_21 (by decide) (by decide) rfl (fun hc21_5 => ?_) (fun hc21_5 => ?_)
          · refine s_iconst B X0 (pc' := 157) (v := (1 : Int32)) d3_156 rfl rfl ?_
            refine s_goto B X0 (pc' := 161) d3_157 (by decide) (by decide) ?_
            exact r_nar B X0 (t := .boolean) (by simp) rfl d3_161 ⟨congrArg (fun z => some (Value.int z)) (show nar .boolean (1 : Int32) = fL q0 from by simp [fL, klist, nar, hc1_1, hc6_2, hc11_3, hc16_4, hc21_5]), rfl, e0⟩ (by decide) (by decide)
          · refine s_iloadN B X0 (pc' := 25) d3_24 rfl rfl ?_
            refine s_bipush B X0 (pc' := 27) (v := (6 : Int32)) d3_25 rfl rfl ?_
            refine b_icmp_eq B X0 (py := 156) (pn := 30) d3_27 (by decide) (by decide) rfl (fun hc27_6 => ?_) (fun hc27_6 => ?_)
            · refine s_iconst B X0 (pc' := 157) (v := (1 : Int32)) d3_156 rfl rfl ?_
              refine s_goto B X0 (pc' := 161) d3_157 (by decide) (by decide) ?_
              exact r_nar B X0 (t := .boolean) (by simp) rfl d3_161 ⟨congrArg (fun z => some (Value.int z)) (show nar .boolean (1 : Int32) = fL q0 from by simp [fL, klist, nar, hc1_1, hc6_2, hc11_3, hc16_4, hc21_5, hc27_6]), rfl, e0⟩ (by decide) (by decide)
            · refine s_iloadN B X0 (pc' := 31) d3_30 rfl rfl ?_
              refine s_bipush B X0 (pc' := 33) (v := (7 : Int32)) d3_31 rfl rfl ?_
              refine b_icmp_eq B X0 (py := 156) (pn := 36) d3_33 (by decide) (by decide) rfl (fun hc33_7 => ?_) (fun hc33_7 => ?_)
              · refine s_iconst B X0 (pc' := 157) (v := (1 : Int32)) d3_156 rfl rfl ?_
                refine s_goto B X0 (pc' := 161) d3_157 (by decide) (by decide) ?_
                exact r_nar B X0 (t := .boolean) (by simp) rfl d3_161 ⟨congrArg (fun z => some (Value.int z)) (show nar .boolean (1 : Int32) = fL q0 from by simp [fL, klist, nar, hc1_1, hc6_2, hc11_3, hc16_4, hc21_5, hc27_6, hc33_7]), rfl, e0⟩ (by decide) (by decide)
              · refine s_iloadN B X0 (pc' := 37) d3_36 rfl rfl ?_
                refine s_bipush B X0 (pc' := 39) (v := (8 : Int32)) d3_37 rfl rfl ?_
                refine b_icmp_eq B X0 (py := 156) (pn := 42) d3_39 (by decide) (by decide) rfl (fun hc39_8 => ?_) (fun hc39_8 => ?_)
                · refine s_iconst B X0 (pc' := 157) (v := (1 : Int32)) d3_156 rfl rfl ?_
                  refine s_goto B X0 (pc' := 161) d3_157 (by decide) (by decide) ?_
                  exact r_nar B X0 (t := .boolean) (by simp) rfl d3_161 ⟨congrArg (fun z => some (Value.int z)) (show nar .boolean (1 : Int32) = fL q0 from by simp [fL, klist, nar, hc1_1, hc6_2, hc11_3, hc16_4, hc21_5, hc27_6, hc33_7, hc39_8]), rfl, e0⟩ (by decide) (by decide)
                · refine s_iloadN B X0 (pc' := 43) d3_42 rfl rfl ?_
                  refine s_bipush B X0 (pc' := 45) (v := (10 : Int32)) d3_43 rfl rfl ?_
                  refine b_icmp_eq B X0 (py := 156) (pn := 48) d3_45 (by decide) (by decide) rfl (fun hc45_9 => ?_) (fun hc45_9 => ?_)
                  · refine s_iconst B X0 (pc' := 157) (v := (1 : Int32)) d3_156 rfl rfl ?_
                    refine s_goto B X0 (pc' := 161) d3_157 (by decide) (by decide) ?_
                    exact r_nar B X0 (t := .boolean) (by simp) rfl d3_161 ⟨congrArg (fun z => some (Value.int z)) (show nar .boolean (1 : Int32) = fL q0 from by simp [fL, klist, nar, hc1_1, hc6_2, hc11_3, hc16_4, hc21_5, hc27_6, hc33_7, hc39_8, hc45_9]), rfl, e0⟩ (by decide) (by decide)
                  · refine s_iloadN B X0 (pc' := 49) d3_48 rfl rfl ?_
                    refine s_bipush B X0 (pc' := 51) (v := (12 : Int32)) d3_49 rfl rfl ?_
                    refine b_icmp_eq B X0 (py := 156) (pn := 54) d3_51 (by decide) (by decide) rfl (fun hc51_10 => ?_) (fun hc51_10 => ?_)
                    · refine s_iconst B X0 (pc' := 157) (v := (1 : Int32)) d3_156 rfl rfl ?_
                      refine s_goto B X0 (pc' := 161) d3_157 (by decide) (by decide) ?_
                      exact r_nar B X0 (t := .boolean) (by simp) rfl d3_161 ⟨congrArg (fun z => some (Value.int z)) (show nar .boolean (1 : Int32) = fL q0 from by simp [fL, klist, nar, hc1_1, hc6_2, hc11_3, hc16_4, hc21_5, hc27_6, hc33_7, hc39_8, hc45_9, hc51_10]), rfl, e0⟩ (by decide) (by decide)
                    · refine s_iloadN B X0 (pc' := 55) d3_54 rfl rfl ?_
                      refine s_bipush B X0 (pc' := 57) (v := (16 : Int32)) d3_55 rfl rfl ?_
                      refine b_icmp_eq B X0 (py := 156) (pn := 60) d3_57 (by decide) (by decide) rfl (fun hc57_11 => ?_) (fun hc57_11 => ?_)
                      · refine s_iconst B X0 (pc' := 157) (v := (1 : Int32)) d3_156 rfl rfl ?_
                        refine s_goto B X0 (pc' := 161) d3_157 (by decide) (by decide) ?_
                        exact r_nar B X0 (t := .boolean) (by simp) rfl d3_161 ⟨congrArg (fun z => some (Value.int z)) (show nar .boolean (1 : Int32) = fL q0 from by simp [fL, klist, nar, hc1_1, hc6_2, hc11_3, hc16_4, hc21_5, hc27_6, hc33_7, hc39_8, hc45_9, hc51_10, hc57_11]), rfl, e0⟩ (by decide) (by decide)
                      · refine s_iloadN B X0 (pc' := 61) d3_60 rfl rfl ?_
                        refine s_bipush B X0 (pc' := 63) (v := (17 : Int32)) d3_61 rfl rfl ?_
                        refine b_icmp_eq B X0 (py := 156) (pn := 66) d3_63 (by decide) (by decide) rfl (fun hc63_12 => ?_) (fun hc63_12 => ?_)
                        · refine s_iconst B X0 (pc' := 157) (v := (1 : Int32)) d3_156 rfl rfl ?_
                          refine s_goto B X0 (pc' := 161) d3_157 (by decide) (by decide) ?_
                          exact r_nar B X0 (t := .boolean) (by simp) rfl d3_161 ⟨congrArg (fun z => some (Value.int z)) (show nar .boolean (1 : Int32) = fL q0 from by simp [fL, klist, nar, hc1_1, hc6_2, hc11_3, hc16_4, hc21_5, hc27_6, hc33_7, hc39_8, hc45_9, hc51_10, hc57_11, hc63_12]), rfl, e0⟩ (by decide) (by decide)
                        · refine s_iloadN B X0 (pc' := 67) d3_66 rfl rfl ?_
                          refine s_bipush B X0 (pc' := 69) (v := (19 : Int32)) d3_67 rfl rfl ?_
                          refine b_icmp_eq B X0 (py := 156) (pn := 72) d3_69 (by decide) (by decide) rfl (fun hc69_13 => ?_) (fun hc69_13 => ?_)
                          · refine s_iconst B X0 (pc' := 157) (v := (1 : Int32)) d3_156 rfl rfl ?_
                            refine s_goto B X0 (pc' := 161) d3_157 (by decide) (by decide) ?_
                            exact r_nar B X0 (t := .boolean) (by simp) rfl d3_161 ⟨congrArg (fun z => some (Value.int z)) (show nar .boolean (1 : Int32) = fL q0 from by simp [fL, klist, nar, hc1_1, hc6_2, hc11_3, hc16_4, hc21_5, hc27_6, hc33_7, hc39_8, hc45_9, hc51_10, hc57_11, hc63_12, hc69_13]), rfl, e0⟩ (by decide) (by decide)
                          · refine s_iloadN B X0 (pc' := 73) d3_72 rfl rfl ?_
                            refine s_bipush B X0 (pc' := 75) (v := (20 : Int32)) d3_73 rfl rfl ?_
                            refine b_icmp_eq B X0 (py := 156) (pn := 78) d3_75 (by decide) (by decide) rfl (fun hc75_14 => ?_) (fun hc75_14 => ?_)
                            · refine s_iconst B X0 (pc' := 157) (v := (1 : Int32)) d3_156 rfl rfl ?_
                              refine s_goto B X0 (pc' := 161) d3_157 (by decide) (by decide) ?_
                              exact r_nar B X0 (t := .boolean) (by simp) rfl d3_161 ⟨congrArg (fun z => some (Value.int z)) (show nar .boolean (1 : Int32) = fL q0 from by simp [fL, klist, nar, hc1_1, hc6_2, hc11_3, hc16_4, hc21_5, hc27_6, hc33_7, hc39_8, hc45_9, hc51_10, hc57_11, hc63_12, hc69_13, hc75_14]), rfl, e0⟩ (by decide) (by decide)
                            · refine s_iloadN B X0 (pc' := 79) d3_78 rfl rfl ?_
                              refine s_bipush B X0 (pc' := 81) (v := (21 : Int32)) d3_79 rfl rfl ?_
                              refine b_icmp_eq B X0 (py := 156) (pn := 84) d3_81 (by decide) (by decide) rfl (fun hc81_15 => ?_) (fun hc81_15 => ?_)
                              · refine s_iconst B X0 (pc' := 157) (v := (1 : Int32)) d3_156 rfl rfl ?_
                                refine s_goto B X0 (pc' := 161) d3_157 (by decide) (by decide) ?_
                                exact r_nar B X0 (t := .boolean) (by simp) rfl d3_161 ⟨congrArg (fun z => some (Value.int z)) (show nar .boolean (1 : Int32) = fL q0 from by simp [fL, klist, nar, hc1_1, hc6_2, hc11_3, hc16_4, hc21_5, hc27_6, hc33_7, hc39_8, hc45_9, hc51_10, hc57_11, hc63_12, hc69_13, hc75_14, hc81_15]), rfl, e0⟩ (by decide) (by decide)
                              · refine s_iloadN B X0 (pc' := 85) d3_84 rfl rfl ?_
                                refine s_bipush B X0 (pc' := 87) (v := (32 : Int32)) d3_85 rfl rfl ?_
                                refine b_icmp_eq B X0 (py := 156) (pn := 90) d3_87 (by decide) (by decide) rfl (fun hc87_16 => ?_) (fun hc87_16 => ?_)
                                · refine s_iconst B X0 (pc' := 157) (v := (1 : Int32)) d3_156 rfl rfl ?_
                                  refine s_goto B X0 (pc' := 161) d3_157 (by decide) (by decide) ?_
                                  exact r_nar B X0 (t := .boolean) (by simp) rfl d3_161 ⟨congrArg (fun z => some (Value.int z)) (show nar .boolean (1 : Int32) = fL q0 from by simp [fL, klist, nar, hc1_1, hc6_2, hc11_3, hc16_4, hc21_5, hc27_6, hc33_7, hc39_8, hc45_9, hc51_10, hc57_11, hc63_12, hc69_13, hc75_14, hc81_15, hc87_16]), rfl, e0⟩ (by decide) (by decide)
                                · refine s_iloadN B X0 (pc' := 91) d3_90 rfl rfl ?_
                                  refine s_bipush B X0 (pc' := 93) (v := (34 : Int32)) d3_91 rfl rfl ?_
                                  refine b_icmp_eq B X0 (py := 156) (pn := 96) d3_93 (by decide) (by decide) rfl (fun hc93_17 => ?_) (fun hc93_17 => ?_)
                                  · refine s_iconst B X0 (pc' := 157) (v := (1 : Int32)) d3_156 rfl rfl ?_
                                    refine s_goto B X0 (pc' := 161) d3_157 (by decide) (by decide) ?_
                                    exact r_nar B X0 (t := .boolean) (by simp) rfl d3_161 ⟨congrArg (fun z => some (Value.int z)) (show nar .boolean (1 : Int32) = fL q0 from by simp [fL, klist, nar, hc1_1, hc6_2, hc11_3, hc16_4, hc21_5, hc27_6, hc33_7, hc39_8, hc45_9, hc51_10, hc57_11, hc63_12, hc69_13, hc75_14, hc81_15, hc87_16, hc93_17]), rfl, e0⟩ (by decide) (by decide)
                                  · refine s_iloadN B X0 (pc' := 97) d3_96 rfl rfl ?_
                                    refine s_bipush B X0 (pc' := 99) (v := (49 : Int32)) d3_97 rfl rfl ?_
                                    refine b_icmp_eq B X0 (py := 156) (pn := 102) d3_99 (by decide) (by decide) rfl (fun hc99_18 => ?_) (fun hc99_18 => ?_)
                                    · refine s_iconst B X0 (pc' := 157) (v := (1 : Int32)) d3_156 rfl rfl ?_
                                      refine s_goto B X0 (pc' := 161) d3_157 (by decide) (by decide) ?_
                                      exact r_nar B X0 (t := .boolean) (by simp) rfl d3_161 ⟨congrArg (fun z => some (Value.int z)) (show nar .boolean (1 : Int32) = fL q0 from by simp [fL, klist, nar, hc1_1, hc6_2, hc11_3, hc16_4, hc21_5, hc27_6, hc33_7, hc39_8, hc45_9, hc51_10, hc57_11, hc63_12, hc69_13, hc75_14, hc81_15, hc87_16, hc93_17, hc99_18]), rfl, e0⟩ (by decide) (by decide)
                                    · refine s_iloadN B X0 (pc' := 103) d3_102 rfl rfl ?_
                                      refine s_bipush B X0 (pc' := 105) (v := (52 : Int32)) d3_103 rfl rfl ?_
                                      refine b_icmp_eq B X0 (py := 156) (pn := 108) d3_105 (by decide) (by decide) rfl (fun hc105_19 => ?_) (fun hc105_19 => ?_)
                                      · refine s_iconst B X0 (pc' := 157) (v := (1 : Int32)) d3_156 rfl rfl ?_
                                        refine s_goto B X0 (pc' := 161) d3_157 (by decide) (by decide) ?_
                                        exact r_nar B X0 (t := .boolean) (by simp) rfl d3_161 ⟨congrArg (fun z => some (Value.int z)) (show nar .boolean (1 : Int32) = fL q0 from by simp [fL, klist, nar, hc1_1, hc6_2, hc11_3, hc16_4, hc21_5, hc27_6, hc33_7, hc39_8, hc45_9, hc51_10, hc57_11, hc63_12, hc69_13, hc75_14, hc81_15, hc87_16, hc93_17, hc99_18, hc105_19]), rfl, e0⟩ (by decide) (by decide)
                                      · refine s_iloadN B X0 (pc' := 109) d3_108 rfl rfl ?_
                                        refine s_bipush B X0 (pc' := 111) (v := (53 : Int32)) d3_109 rfl rfl ?_
                                        refine b_icmp_eq B X0 (py := 156) (pn := 114) d3_111 (by decide) (by decide) rfl (fun hc111_20 => ?_) (fun hc111_20 => ?_)
                                        · refine s_iconst B X0 (pc' := 157) (v := (1 : Int32)) d3_156 rfl rfl ?_
                                          refine s_goto B X0 (pc' := 161) d3_157 (by decide) (by decide) ?_
                                          exact r_nar B X0 (t := .boolean) (by simp) rfl d3_161 ⟨congrArg (fun z => some (Value.int z)) (show nar .boolean (1 : Int32) = fL q0 from by simp [fL, klist, nar, hc1_1, hc6_2, hc11_3, hc16_4, hc21_5, hc27_6, hc33_7, hc39_8, hc45_9, hc51_10, hc57_11, hc63_12, hc69_13, hc75_14, hc81_15, hc87_16, hc93_17, hc99_18, hc105_19, hc111_20]), rfl, e0⟩ (by decide) (by decide)
                                        · refine s_iloadN B X0 (pc' := 115) d3_114 rfl rfl ?_
                                          refine s_bipush B X0 (pc' := 117) (v := (64 : Int32)) d3_115 rfl rfl ?_
                                          refine b_icmp_eq B X0 (py := 156) (pn := 120) d3_117 (by decide) (by decide) rfl (fun hc117_21 => ?_) (fun hc117_21 => ?_)
                                          · refine s_iconst B X0 (pc' := 157) (v := (1 : Int32)) d3_156 rfl rfl ?_
                                            refine s_goto B X0 (pc' := 161) d3_157 (by decide) (by decide) ?_
                                            exact r_nar B X0 (t := .boolean) (by simp) rfl d3_161 ⟨congrArg (fun z => some (Value.int z)) (show nar .boolean (1 : Int32) = fL q0 from by simp [fL, klist, nar, hc1_1, hc6_2, hc11_3, hc16_4, hc21_5, hc27_6, hc33_7, hc39_8, hc45_9, hc51_10, hc57_11, hc63_12, hc69_13, hc75_14, hc81_15, hc87_16, hc93_17, hc99_18, hc105_19, hc111_20, hc117_21]), rfl, e0⟩ (by decide) (by decide)
                                          · refine s_iloadN B X0 (pc' := 121) d3_120 rfl rfl ?_
                                            refine s_bipush B X0 (pc' := 123) (v := (65 : Int32)) d3_121 rfl rfl ?_
                                            refine b_icmp_eq B X0 (py := 156) (pn := 126) d3_123 (by decide) (by decide) rfl (fun hc123_22 => ?_) (fun hc123_22 => ?_)
                                            · refine s_iconst B X0 (pc' := 157) (v := (1 : Int32)) d3_156 rfl rfl ?_
                                              refine s_goto B X0 (pc' := 161) d3_157 (by decide) (by decide) ?_
                                              exact r_nar B X0 (t := .boolean) (by simp) rfl d3_161 ⟨congrArg (fun z => some (Value.int z)) (show nar .boolean (1 : Int32) = fL q0 from by simp [fL, klist, nar, hc1_1, hc6_2, hc11_3, hc16_4, hc21_5, hc27_6, hc33_7, hc39_8, hc45_9, hc51_10, hc57_11, hc63_12, hc69_13, hc75_14, hc81_15, hc87_16, hc93_17, hc99_18, hc105_19, hc111_20, hc117_21, hc123_22]), rfl, e0⟩ (by decide) (by decide)
                                            · refine s_iloadN B X0 (pc' := 127) d3_126 rfl rfl ?_
                                              refine s_bipush B X0 (pc' := 129) (v := (66 : Int32)) d3_127 rfl rfl ?_
                                              refine b_icmp_eq B X0 (py := 156) (pn := 132) d3_129 (by decide) (by decide) rfl (fun hc129_23 => ?_) (fun hc129_23 => ?_)
                                              · refine s_iconst B X0 (pc' := 157) (v := (1 : Int32)) d3_156 rfl rfl ?_
                                                refine s_goto B X0 (pc' := 161) d3_157 (by decide) (by decide) ?_
                                                exact r_nar B X0 (t := .boolean) (by simp) rfl d3_161 ⟨congrArg (fun z => some (Value.int z)) (show nar .boolean (1 : Int32) = fL q0 from by simp [fL, klist, nar, hc1_1, hc6_2, hc11_3, hc16_4, hc21_5, hc27_6, hc33_7, hc39_8, hc45_9, hc51_10, hc57_11, hc63_12, hc69_13, hc75_14, hc81_15, hc87_16, hc93_17, hc99_18, hc105_19, hc111_20, hc117_21, hc123_22, hc129_23]), rfl, e0⟩ (by decide) (by decide)
                                              · refine s_iloadN B X0 (pc' := 133) d3_132 rfl rfl ?_
                                                refine s_bipush B X0 (pc' := 135) (v := (67 : Int32)) d3_133 rfl rfl ?_
                                                refine b_icmp_eq B X0 (py := 156) (pn := 138) d3_135 (by decide) (by decide) rfl (fun hc135_24 => ?_) (fun hc135_24 => ?_)
                                                · refine s_iconst B X0 (pc' := 157) (v := (1 : Int32)) d3_156 rfl rfl ?_
                                                  refine s_goto B X0 (pc' := 161) d3_157 (by decide) (by decide) ?_
                                                  exact r_nar B X0 (t := .boolean) (by simp) rfl d3_161 ⟨congrArg (fun z => some (Value.int z)) (show nar .boolean (1 : Int32) = fL q0 from by simp [fL, klist, nar, hc1_1, hc6_2, hc11_3, hc16_4, hc21_5, hc27_6, hc33_7, hc39_8, hc45_9, hc51_10, hc57_11, hc63_12, hc69_13, hc75_14, hc81_15, hc87_16, hc93_17, hc99_18, hc105_19, hc111_20, hc117_21, hc123_22, hc129_23, hc135_24]), rfl, e0⟩ (by decide) (by decide)
                                                · refine s_iloadN B X0 (pc' := 139) d3_138 rfl rfl ?_
                                                  refine s_bipush B X0 (pc' := 141) (v := (68 : Int32)) d3_139 rfl rfl ?_
                                                  refine b_icmp_eq B X0 (py := 156) (pn := 144) d3_141 (by decide) (by decide) rfl (fun hc141_25 => ?_) (fun hc141_25 => ?_)
                                                  · refine s_iconst B X0 (pc' := 157) (v := (1 : Int32)) d3_156 rfl rfl ?_
                                                    refine s_goto B X0 (pc' := 161) d3_157 (by decide) (by decide) ?_
                                                    exact r_nar B X0 (t := .boolean) (by simp) rfl d3_161 ⟨congrArg (fun z => some (Value.int z)) (show nar .boolean (1 : Int32) = fL q0 from by simp [fL, klist, nar, hc1_1, hc6_2, hc11_3, hc16_4, hc21_5, hc27_6, hc33_7, hc39_8, hc45_9, hc51_10, hc57_11, hc63_12, hc69_13, hc75_14, hc81_15, hc87_16, hc93_17, hc99_18, hc105_19, hc111_20, hc117_21, hc123_22, hc129_23, hc135_24, hc141_25]), rfl, e0⟩ (by decide) (by decide)
                                                  · refine s_iloadN B X0 (pc' := 145) d3_144 rfl rfl ?_
                                                    refine s_bipush B X0 (pc' := 147) (v := (71 : Int32)) d3_145 rfl rfl ?_
                                                    refine b_icmp_eq B X0 (py := 156) (pn := 150) d3_147 (by decide) (by decide) rfl (fun hc147_26 => ?_) (fun hc147_26 => ?_)
                                                    · refine s_iconst B X0 (pc' := 157) (v := (1 : Int32)) d3_156 rfl rfl ?_
                                                      refine s_goto B X0 (pc' := 161) d3_157 (by decide) (by decide) ?_
                                                      exact r_nar B X0 (t := .boolean) (by simp) rfl d3_161 ⟨congrArg (fun z => some (Value.int z)) (show nar .boolean (1 : Int32) = fL q0 from by simp [fL, klist, nar, hc1_1, hc6_2, hc11_3, hc16_4, hc21_5, hc27_6, hc33_7, hc39_8, hc45_9, hc51_10, hc57_11, hc63_12, hc69_13, hc75_14, hc81_15, hc87_16, hc93_17, hc99_18, hc105_19, hc111_20, hc117_21, hc123_22, hc129_23, hc135_24, hc141_25, hc147_26]), rfl, e0⟩ (by decide) (by decide)
                                                    · refine s_iloadN B X0 (pc' := 151) d3_150 rfl rfl ?_
                                                      refine s_bipush B X0 (pc' := 153) (v := (80 : Int32)) d3_151 rfl rfl ?_
                                                      refine b_icmp_ne B X0 (py := 160) (pn := 156) d3_153 (by decide) (by decide) rfl (fun hc153_27 => ?_) (fun hc153_27 => ?_)
                                                      · refine s_iconst B X0 (pc' := 161) (v := (0 : Int32)) d3_160 rfl rfl ?_
                                                        exact r_nar B X0 (t := .boolean) (by simp) rfl d3_161 ⟨congrArg (fun z => some (Value.int z)) (show nar .boolean (0 : Int32) = fL q0 from by simp [fL, klist, nar, hc1_1, hc6_2, hc11_3, hc16_4, hc21_5, hc27_6, hc33_7, hc39_8, hc45_9, hc51_10, hc57_11, hc63_12, hc69_13, hc75_14, hc81_15, hc87_16, hc93_17, hc99_18, hc105_19, hc111_20, hc117_21, hc123_22, hc129_23, hc135_24, hc141_25, hc147_26, hc153_27]), rfl, e0⟩ (by decide) (by decide)
                                                      · refine s_iconst B X0 (pc' := 157) (v := (1 : Int32)) d3_156 rfl rfl ?_
                                                        refine s_goto B X0 (pc' := 161) d3_157 (by decide) (by decide) ?_
                                                        exact r_nar B X0 (t := .boolean) (by simp) rfl d3_161 ⟨congrArg (fun z => some (Value.int z)) (show nar .boolean (1 : Int32) = fL q0 from by simp [fL, klist, nar, hc1_1, hc6_2, hc11_3, hc16_4, hc21_5, hc27_6, hc33_7, hc39_8, hc45_9, hc51_10, hc57_11, hc63_12, hc69_13, hc75_14, hc81_15, hc87_16, hc93_17, hc99_18, hc105_19, hc111_20, hc117_21, hc123_22, hc129_23, hc135_24, hc141_25, hc147_26, hc153_27]), rfl, e0⟩ (by decide) (by decide)
theorem d4_0 : decode prog_23_method_5_code 0 = .ok (.aload_n 0, 1) := by decide +kernel
theorem d4_1 : decode prog_23_method_5_code 1 = .ok (.getfield 104, 3) := by decide +kernel
theorem d4_4 : decode prog_23_method_5_code 4 = .ok (.ireturn, 1) := by decide +kernel
theorem pn_rm_code : plainName "com/example/waymark/waymark/directory/ResultCode" = true := by first | (simp [plainName, overriddenIn]; done) | decide +kernel
set_option maxRecDepth 65536 in
set_option maxHeartbeats 40000000 in
theorem rm_code (l : Launch) (Z : State) (a0 : Array Value) (hw : ∀ d ∈ tables_1, d.before a0 Z = true) (o : Addr) (k : Int32) (h0 : Heap) (Fk : Fld Z h0 o "com/example/waymark/waymark/directory/ResultCode" "code" "I" (.int k)) :
    OMeets l Z mn3 prog_23_method_5_code 1 (some .int) [] ({ frames := 0, cells := 0, slots := 0, locals := 0 } : Room) #[(.ref o)] h0 (PureQ (some (.int k)) h0) := by
  refine OMeets.of pn_rm_code #[.val (.ref o)] (fun m => by first | rfl | (simp [entryFrame, mkF, argsToLocals, Value.category, maxLocals]; done)) ?_
  intro p e s m below meth c s₁ B X0 e0
  refine s_aloadN B X0 (pc' := 1) d4_0 rfl rfl rfl ?_
  refine s_getF B X0 (pc' := 4) e0 (host := "") (Or.inl (tw47 hw)) Via.refl Fk d4_1 rfl (fun T1 X1 e1 => ?_)
  exact r_int B X1 rfl d4_4 ⟨rfl, rfl, e1⟩ (by decide) (by decide)

theorem pn_rm_law : plainName "com/example/waymark/waymark/directory/ResultCodeOfPinLaw" = true := by first | (simp [plainName, overriddenIn]; done) | decide +kernel
set_option maxRecDepth 65536 in
set_option maxHeartbeats 40000000 in
theorem rm_law (l : Launch) (Z : State) (a0 : Array Value) (hw : ∀ d ∈ tables_1, d.before a0 Z = true) (i0 i1 : Int32) (w_OTHER w__VALUES : Addr) (W : Nat → Addr) (F0 : OwnF Z Z.heap w_OTHER w__VALUES W) :
    OMeets l Z x code maxLocals ret tables_1 room_1 #[(.int i0), (.int i1)] Z.heap (fun v h L => v = some (.int 1) ∧ Fr Z.heap.size L) := by
  refine OMeets.of pn_rm_law #[.val (.int i0), .val (.int i1), .unset, .unset] (fun m => by first | rfl | (simp [entryFrame, mkF, argsToLocals, Value.category, maxLocals]; done)) ?_
  intro p e s m below meth c s₁ B X0 e0
  obtain ⟨S_OTHER, -, -, -, hW, hE⟩ := id F0
  refine s_iloadN B X0 (pc' := 1) at_0 rfl rfl ?_
  refine s_iconst B X0 (pc' := 2) (v := (1 : Int32)) at_1 rfl rfl ?_
  refine s_iand B X0 (pc' := 3) (v := (i1 &&& (1 : Int32))) at_2 rfl rfl ?_
  refine b_if_eq B X0 (py := 17) (pn := 6) at_3 (by decide) (by decide) rfl (fun hc3_1 => ?_) (fun hc3_1 => ?_)
  · refine s_iloadN B X0 (pc' := 18) at_17 rfl rfl ?_
    refine s_istoreN B X0 (pc' := 19) (Ls' := #[.val (.int i0), .val (.int i1), .val (.int i0), .unset]) at_18 rfl rfl ?_
    refine s_iloadN B X0 (pc' := 20) at_19 rfl rfl ?_
    refine c_static B X0 (y := mn1) (pc' := 23) (argsL := [(.int i0)]) (under := []) (W := 0) e0 (tw0 hw) (tw1 hw) (tw3 hw) (tw2 hw) (by decide) (rm_of l Z a0 hw i0 w_OTHER w__VALUES W Z.heap F0) (lenOf pd_1 rfl) rfl rfl (by decide) (by decide) (by decide) (by decide) rfl at_20 rfl (fun v7 T7 L7 X7 hQ => ?_)
    obtain ⟨rfl, N7, E7⟩ := hQ
    have F7 := OwnF.ext E7 F0
    obtain ⟨S_OTHER, -, -, -, hW, hE⟩ := id F7
    rcases fO_or W i0 27 0 w_OTHER with ⟨j, -, hj, hx, hr⟩ | ⟨hx, hr⟩
    · rw [hr]
      rw [Nat.zero_add] at hj
      have hl : fL i0 = 1 := if_pos (hx ▸ K_mem hj)
      show Go p e below _ (T7.setTop (mkF m 23 #[.val (.int i0), .val (.int i1), .val (.int i0), .unset] [(.ref (W j))]))
      refine s_astoreN B X7 (pc' := 24) (Ls' := #[.val (.int i0), .val (.int i1), .val (.int i0), .val (.ref (W j))]) at_23 rfl rfl rfl ?_
      refine s_aloadN B X7 (pc' := 25) at_24 rfl rfl rfl ?_
      refine s_ifnonnullY B X7 (pc' := 30) at_25 (by decide) (by decide) ?_
      refine s_iloadN B X7 (pc' := 31) at_30 rfl rfl ?_
      refine p_static B X7 (y := mn2) (pc' := 34) (argsL := [(.int i0)]) (under := []) (W := 0) rfl (tw49 hw) (tw50 hw) (tw52 hw) (tw51 hw) (by decide) (rm_listed l Z a0 hw i0 T7.heap) (lenOf pd_2 rfl) rfl rfl (by decide) (by decide) rfl rfl (by decide) (by decide) rfl at_31 rfl (fun T2 X2 e2 => ?_)
      show Go p e below _ (T2.setTop (mkF m 34 #[.val (.int i0), .val (.int i1), .val (.int i0), .val (.ref (W j))] [(.int (fL i0))]))
      refine b_if_eq B X2 (py := 51) (pn := 37) at_34 (by decide) (by decide) rfl (fun q => absurd q (by rw [hl]; decide)) (fun _ => ?_)
      refine s_aloadN B X2 (pc' := 38) at_37 rfl rfl rfl ?_
      refine p_virtual B X2 (y := mn3) (pc' := 41) (argsL := []) (under := []) (W := 0) e2 (tw54 hw) (tw55 hw) (tw57 hw) (tw56 hw) (tw58 hw) (tw2 hw) (by decide) (rm_code l Z a0 hw (W j) (K j) T7.heap (hE j hj).2) (hE j hj).1 (lenOf pd_3 rfl) rfl rfl (by decide) (by decide) rfl rfl (by decide) (by decide) rfl at_38 rfl (fun T3 X3 e3 => ?_)
      show Go p e below _ (T3.setTop (mkF m 41 #[.val (.int i0), .val (.int i1), .val (.int i0), .val (.ref (W j))] [(.int (K j))]))
      refine s_iloadN B X3 (pc' := 42) at_41 rfl rfl ?_
      refine b_icmp_ne B X3 (py := 49) (pn := 45) at_42 (by decide) (by decide) rfl (fun q => absurd hx q) (fun _ => ?_)
      refine s_iconst B X3 (pc' := 46) (v := (1 : Int32)) at_45 rfl rfl ?_
      refine s_goto B X3 (pc' := 50) at_46 (by decide) (by decide) ?_
      exact r_nar B X3 (t := .boolean) (by simp) rfl at_50 ⟨rfl, by simpa using N7⟩ (by decide) (by decide)
    · rw [hr]
      have hl : fL i0 = 0 := if_neg fun z => by obtain ⟨j, h1, h2⟩ := mem_K z; exact hx j (Nat.zero_le _) (by omega) h2
      show Go p e below _ (T7.setTop (mkF m 23 #[.val (.int i0), .val (.int i1), .val (.int i0), .unset] [(.ref w_OTHER)]))
      refine s_astoreN B X7 (pc' := 24) (Ls' := #[.val (.int i0), .val (.int i1), .val (.int i0), .val (.ref w_OTHER)]) at_23 rfl rfl rfl ?_
      refine s_aloadN B X7 (pc' := 25) at_24 rfl rfl rfl ?_
      refine s_ifnonnullY B X7 (pc' := 30) at_25 (by decide) (by decide) ?_
      refine s_iloadN B X7 (pc' := 31) at_30 rfl rfl ?_
      refine p_static B X7 (y := mn2) (pc' := 34) (argsL := [(.int i0)]) (under := []) (W := 0) rfl (tw49 hw) (tw50 hw) (tw52 hw) (tw51 hw) (by decide) (rm_listed l Z a0 hw i0 T7.heap) (lenOf pd_2 rfl) rfl rfl (by decide) (by decide) rfl rfl (by decide) (by decide) rfl at_31 rfl (fun T4 X4 e4 => ?_)
      show Go p e below _ (T4.setTop (mkF m 34 #[.val (.int i0), .val (.int i1), .val (.int i0), .val (.ref w_OTHER)] [(.int (fL i0))]))
      refine b_if_eq B X4 (py := 51) (pn := 37) at_34 (by decide) (by decide) rfl (fun _ => ?_) (fun q => absurd hl q)
      refine s_aloadN B X4 (pc' := 52) at_51 rfl rfl rfl ?_
      refine s_getS B X4 (pc' := 55) e4 (tw53 hw) Via.refl S_OTHER at_52 rfl (fun T5 X5 e5 => ?_)
      refine b_acmp_ne B X5 (py := 62) (pn := 58) at_55 (by decide) (by decide) rfl (fun q => absurd rfl q) (fun _ => ?_)
      refine s_iconst B X5 (pc' := 59) (v := (1 : Int32)) at_58 rfl rfl ?_
      refine s_goto B X5 (pc' := 63) at_59 (by decide) (by decide) ?_
      exact r_nar B X5 (t := .boolean) (by simp) rfl at_63 ⟨rfl, by simpa using N7⟩ (by decide) (by decide)
  · refine s_iloadN B X0 (pc' := 7) at_6 rfl rfl ?_
    refine s_bipush B X0 (pc' := 9) (v := (127 : Int32)) at_7 rfl rfl ?_
    refine s_iand B X0 (pc' := 10) (v := (i0 &&& (127 : Int32))) at_9 rfl rfl ?_
    refine s_bipush B X0 (pc' := 12) (v := (8 : Int32)) at_10 rfl rfl ?_
    refine s_isub B X0 (pc' := 13) (v := ((i0 &&& (127 : Int32)) - (8 : Int32))) at_12 rfl rfl ?_
    refine s_istoreN B X0 (pc' := 14) (Ls' := #[.val (.int i0), .val (.int i1), .val (.int ((i0 &&& (127 : Int32)) - (8 : Int32))), .unset]) at_13 rfl rfl ?_
    refine s_goto B X0 (pc' := 19) at_14 (by decide) (by decide) ?_
    refine s_iloadN B X0 (pc' := 20) at_19 rfl rfl ?_
    refine c_static B X0 (y := mn1) (pc' := 23) (argsL := [(.int ((i0 &&& (127 : Int32)) - (8 : Int32)))]) (under := []) (W := 0) e0 (tw0 hw) (tw1 hw) (tw3 hw) (tw2 hw) (by decide) (rm_of l Z a0 hw ((i0 &&& (127 : Int32)) - (8 : Int32)) w_OTHER w__VALUES W Z.heap F0) (lenOf pd_1 rfl) rfl rfl (by decide) (by decide) (by decide) (by decide) rfl at_20 rfl (fun v7 T7 L7 X7 hQ => ?_)
    obtain ⟨rfl, N7, E7⟩ := hQ
    have F7 := OwnF.ext E7 F0
    obtain ⟨S_OTHER, -, -, -, hW, hE⟩ := id F7
    rcases fO_or W ((i0 &&& (127 : Int32)) - (8 : Int32)) 27 0 w_OTHER with ⟨j, -, hj, hx, hr⟩ | ⟨hx, hr⟩
    · rw [hr]
      rw [Nat.zero_add] at hj
      have hl : fL ((i0 &&& (127 : Int32)) - (8 : Int32)) = 1 := if_pos (hx ▸ K_mem hj)
      show Go p e below _ (T7.setTop (mkF m 23 #[.val (.int i0), .val (.int i1), .val (.int ((i0 &&& (127 : Int32)) - (8 : Int32))), .unset] [(.ref (W j))]))
      refine s_astoreN B X7 (pc' := 24) (Ls' := #[.val (.int i0), .val (.int i1), .val (.int ((i0 &&& (127 : Int32)) - (8 : Int32))), .val (.ref (W j))]) at_23 rfl rfl rfl ?_
      refine s_aloadN B X7 (pc' := 25) at_24 rfl rfl rfl ?_
      refine s_ifnonnullY B X7 (pc' := 30) at_25 (by decide) (by decide) ?_
      refine s_iloadN B X7 (pc' := 31) at_30 rfl rfl ?_
      refine p_static B X7 (y := mn2) (pc' := 34) (argsL := [(.int ((i0 &&& (127 : Int32)) - (8 : Int32)))]) (under := []) (W := 0) rfl (tw49 hw) (tw50 hw) (tw52 hw) (tw51 hw) (by decide) (rm_listed l Z a0 hw ((i0 &&& (127 : Int32)) - (8 : Int32)) T7.heap) (lenOf pd_2 rfl) rfl rfl (by decide) (by decide) rfl rfl (by decide) (by decide) rfl at_31 rfl (fun T6 X6 e6 => ?_)
      show Go p e below _ (T6.setTop (mkF m 34 #[.val (.int i0), .val (.int i1), .val (.int ((i0 &&& (127 : Int32)) - (8 : Int32))), .val (.ref (W j))] [(.int (fL ((i0 &&& (127 : Int32)) - (8 : Int32))))]))
      refine b_if_eq B X6 (py := 51) (pn := 37) at_34 (by decide) (by decide) rfl (fun q => absurd q (by rw [hl]; decide)) (fun _ => ?_)
      refine s_aloadN B X6 (pc' := 38) at_37 rfl rfl rfl ?_
      refine p_virtual B X6 (y := mn3) (pc' := 41) (argsL := []) (under := []) (W := 0) e6 (tw54 hw) (tw55 hw) (tw57 hw) (tw56 hw) (tw58 hw) (tw2 hw) (by decide) (rm_code l Z a0 hw (W j) (K j) T7.heap (hE j hj).2) (hE j hj).1 (lenOf pd_3 rfl) rfl rfl (by decide) (by decide) rfl rfl (by decide) (by decide) rfl at_38 rfl (fun T7 X7 e7 => ?_)
      show Go p e below _ (T7.setTop (mkF m 41 #[.val (.int i0), .val (.int i1), .val (.int ((i0 &&& (127 : Int32)) - (8 : Int32))), .val (.ref (W j))] [(.int (K j))]))
      refine s_iloadN B X7 (pc' := 42) at_41 rfl rfl ?_
      refine b_icmp_ne B X7 (py := 49) (pn := 45) at_42 (by decide) (by decide) rfl (fun q => absurd hx q) (fun _ => ?_)
      refine s_iconst B X7 (pc' := 46) (v := (1 : Int32)) at_45 rfl rfl ?_
      refine s_goto B X7 (pc' := 50) at_46 (by decide) (by decide) ?_
      exact r_nar B X7 (t := .boolean) (by simp) rfl at_50 ⟨rfl, by simpa using N7⟩ (by decide) (by decide)
    · rw [hr]
      have hl : fL ((i0 &&& (127 : Int32)) - (8 : Int32)) = 0 := if_neg fun z => by obtain ⟨j, h1, h2⟩ := mem_K z; exact hx j (Nat.zero_le _) (by omega) h2
      show Go p e below _ (T7.setTop (mkF m 23 #[.val (.int i0), .val (.int i1), .val (.int ((i0 &&& (127 : Int32)) - (8 : Int32))), .unset] [(.ref w_OTHER)]))
      refine s_astoreN B X7 (pc' := 24) (Ls' := #[.val (.int i0), .val (.int i1), .val (.int ((i0 &&& (127 : Int32)) - (8 : Int32))), .val (.ref w_OTHER)]) at_23 rfl rfl rfl ?_
      refine s_aloadN B X7 (pc' := 25) at_24 rfl rfl rfl ?_
      refine s_ifnonnullY B X7 (pc' := 30) at_25 (by decide) (by decide) ?_
      refine s_iloadN B X7 (pc' := 31) at_30 rfl rfl ?_
      refine p_static B X7 (y := mn2) (pc' := 34) (argsL := [(.int ((i0 &&& (127 : Int32)) - (8 : Int32)))]) (under := []) (W := 0) rfl (tw49 hw) (tw50 hw) (tw52 hw) (tw51 hw) (by decide) (rm_listed l Z a0 hw ((i0 &&& (127 : Int32)) - (8 : Int32)) T7.heap) (lenOf pd_2 rfl) rfl rfl (by decide) (by decide) rfl rfl (by decide) (by decide) rfl at_31 rfl (fun T8 X8 e8 => ?_)
      show Go p e below _ (T8.setTop (mkF m 34 #[.val (.int i0), .val (.int i1), .val (.int ((i0 &&& (127 : Int32)) - (8 : Int32))), .val (.ref w_OTHER)] [(.int (fL ((i0 &&& (127 : Int32)) - (8 : Int32))))]))
      refine b_if_eq B X8 (py := 51) (pn := 37) at_34 (by decide) (by decide) rfl (fun _ => ?_) (fun q => absurd hl q)
      refine s_aloadN B X8 (pc' := 52) at_51 rfl rfl rfl ?_
      refine s_getS B X8 (pc' := 55) e8 (tw53 hw) Via.refl S_OTHER at_52 rfl (fun T9 X9 e9 => ?_)
      refine b_acmp_ne B X9 (py := 62) (pn := 58) at_55 (by decide) (by decide) rfl (fun q => absurd rfl q) (fun _ => ?_)
      refine s_iconst B X9 (pc' := 59) (v := (1 : Int32)) at_58 rfl rfl ?_
      refine s_goto B X9 (pc' := 63) at_59 (by decide) (by decide) ?_
      exact r_nar B X9 (t := .boolean) (by simp) rfl at_63 ⟨rfl, by simpa using N7⟩ (by decide) (by decide)
set_option maxRecDepth 65536 in
set_option maxHeartbeats 40000000 in
theorem comes_1 {Post : Tables → Env → Array Value → State → Outcome → State → Prop} (hpost : ∀ tb e args s v u, (limb_1_1.after args s (.returned v) u = true ∧ limb_1_2.after args s (.returned v) u = true ∧ True) → FrameEnd s (.returned v) u (Jvm.fieldLocs frame_1_writes args s ++ Jvm.arrayLocs frame_1_arrays args s ++ Jvm.staticLocs frame_1_statics s) 16 128 → Post tb e args s (.returned v) u) :
    ArmFor flags0 classFile x code maxLocals ret World_1 tables_1 room_1 Calls_1 rest_1 Pre_1 Post := by
  intro l hfl _ _ p e ha hc hk s m args below hf hA hF happ hP
  obtain ⟨hcalls, hrest, hpre⟩ := hP
  obtain ⟨-, -, -, hnamed, -, -, -, hat⟩ := (Spec.applies_iff hf).mp happ
  obtain ⟨hg, hn⟩ := and_e (Cond.before_iff.mp (show (Jvm.Cond.and given_1 narrow_1).before args s = true from hpre))
  obtain ⟨h1, hg⟩ := and_e hg
  obtain ⟨w0, w1, rfl⟩ : ∃ w0 w1 : Value, args = #[w0, w1] := by
    have hs : args.size = 2 := by simpa [Cond.value, given_1] using h1
    obtain ⟨L⟩ := args
    match L, hs with
    | [w0, w1], _ => exact ⟨w0, w1, rfl⟩
  have hw := fun d (hd : d ∈ tables_1) => atoms_spec (ws := Jvm.Cond.code x code maxLocals ret :: tables_1) hat d (List.mem_cons_of_mem _ hd)
  have hfit : Fit s := fun {y c} hc i hi => by
    obtain ⟨ha, rfl⟩ := Array.getElem?_eq_some_iff.mp hc
    have q := List.all_eq_true.mp ((Array.all_eq_true_iff_forall_mem.mp hF) _ (Array.getElem_mem ha)) i (List.mem_range.mpr hi)
    simpa [Array.getElem?_eq_getElem hi] using q
  obtain ⟨hg0, hg⟩ := and_e hg
  have hg1 := hg
  obtain ⟨i0, ei0⟩ := is_v hg0
  obtain rfl : w0 = (.int i0) := Option.some.inj ei0
  obtain ⟨i1, ei1⟩ := is_v hg1
  obtain rfl : w1 = (.int i1) := Option.some.inj ei1
  obtain ⟨hn0, hn⟩ := and_e hn
  obtain ⟨hn1, hn⟩ := and_e hn
  obtain ⟨hn2, hn⟩ := and_e hn
  obtain ⟨hn3, hn⟩ := and_e hn
  obtain ⟨hn4, hn⟩ := and_e hn
  obtain ⟨hn5, hn⟩ := and_e hn
  obtain ⟨hn6, hn⟩ := and_e hn
  obtain ⟨hn7, hn⟩ := and_e hn
  obtain ⟨hn8, hn⟩ := and_e hn
  obtain ⟨hn9, hn⟩ := and_e hn
  obtain ⟨hn10, hn⟩ := and_e hn
  obtain ⟨hn11, hn⟩ := and_e hn
  obtain ⟨hn12, hn⟩ := and_e hn
  obtain ⟨hn13, hn⟩ := and_e hn
  obtain ⟨hn14, hn⟩ := and_e hn
  obtain ⟨hn15, hn⟩ := and_e hn
  obtain ⟨hn16, hn⟩ := and_e hn
  obtain ⟨hn17, hn⟩ := and_e hn
  obtain ⟨hn18, hn⟩ := and_e hn
  obtain ⟨hn19, hn⟩ := and_e hn
  obtain ⟨hn20, hn⟩ := and_e hn
  obtain ⟨hn21, hn⟩ := and_e hn
  obtain ⟨hn22, hn⟩ := and_e hn
  obtain ⟨hn23, hn⟩ := and_e hn
  obtain ⟨hn24, hn⟩ := and_e hn
  obtain ⟨hn25, hn⟩ := and_e hn
  obtain ⟨hn26, hn⟩ := and_e hn
  obtain ⟨hn27, hn⟩ := and_e hn
  obtain ⟨hn28, hn⟩ := and_e hn
  obtain ⟨hn29, hn⟩ := and_e hn
  obtain ⟨hn30, hn⟩ := and_e hn
  obtain ⟨hn31, hn⟩ := and_e hn
  obtain ⟨hn32, hn⟩ := and_e hn
  obtain ⟨hn33, hn⟩ := and_e hn
  obtain ⟨hn34, hn⟩ := and_e hn
  obtain ⟨hn35, hn⟩ := and_e hn
  obtain ⟨hn36, hn⟩ := and_e hn
  obtain ⟨hn37, hn⟩ := and_e hn
  obtain ⟨hn38, hn⟩ := and_e hn
  obtain ⟨hn39, hn⟩ := and_e hn
  obtain ⟨hn40, hn⟩ := and_e hn
  obtain ⟨hn41, hn⟩ := and_e hn
  obtain ⟨hn42, hn⟩ := and_e hn
  obtain ⟨hn43, hn⟩ := and_e hn
  obtain ⟨hn44, hn⟩ := and_e hn
  obtain ⟨hn45, hn⟩ := and_e hn
  obtain ⟨hn46, hn⟩ := and_e hn
  obtain ⟨hn47, hn⟩ := and_e hn
  obtain ⟨hn48, hn⟩ := and_e hn
  obtain ⟨hn49, hn⟩ := and_e hn
  obtain ⟨hn50, hn⟩ := and_e hn
  obtain ⟨hn51, hn⟩ := and_e hn
  obtain ⟨hn52, hn⟩ := and_e hn
  obtain ⟨hn53, hn⟩ := and_e hn
  obtain ⟨hn54, hn⟩ := and_e hn
  obtain ⟨hn55, hn⟩ := and_e hn
  obtain ⟨hn56, hn⟩ := and_e hn
  obtain ⟨hn57, hn⟩ := and_e hn
  obtain ⟨hn58, hn⟩ := and_e hn
  obtain ⟨hn59, hn⟩ := and_e hn
  obtain ⟨hn60, hn⟩ := and_e hn
  obtain ⟨hn61, hn⟩ := and_e hn
  obtain ⟨hn62, hn⟩ := and_e hn
  obtain ⟨hn63, hn⟩ := and_e hn
  obtain ⟨hn64, hn⟩ := and_e hn
  obtain ⟨hn65, hn⟩ := and_e hn
  obtain ⟨hn66, hn⟩ := and_e hn
  obtain ⟨hn67, hn⟩ := and_e hn
  obtain ⟨hn68, hn⟩ := and_e hn
  obtain ⟨hn69, hn⟩ := and_e hn
  obtain ⟨hn70, hn⟩ := and_e hn
  obtain ⟨hn71, hn⟩ := and_e hn
  obtain ⟨hn72, hn⟩ := and_e hn
  obtain ⟨hn73, hn⟩ := and_e hn
  obtain ⟨hn74, hn⟩ := and_e hn
  obtain ⟨hn75, hn⟩ := and_e hn
  obtain ⟨hn76, hn⟩ := and_e hn
  obtain ⟨hn77, hn⟩ := and_e hn
  obtain ⟨hn78, hn⟩ := and_e hn
  obtain ⟨hn79, hn⟩ := and_e hn
  obtain ⟨hn80, hn⟩ := and_e hn
  obtain ⟨hn81, hn⟩ := and_e hn
  obtain ⟨hn82, hn⟩ := and_e hn
  have hn83 := hn
  obtain ⟨w_OTHER, v_OTHER⟩ := exa_v hn0
  have S_OTHER := Sta.start v_OTHER (Or.inr ⟨(tw2 hw), (tw5 hw)⟩)
  have E_OTHER := Exa.start v_OTHER hn0
  obtain ⟨w__VALUES, v__VALUES⟩ := exa_v hn2
  have S__VALUES := Sta.start v__VALUES (Or.inr ⟨(tw2 hw), (tw10 hw)⟩)
  have E__VALUES := Exa.start v__VALUES hn2
  obtain ⟨w_SUCCESS, v_SUCCESS⟩ := exa_v hn4
  have S_SUCCESS := Sta.start v_SUCCESS (Or.inr ⟨(tw2 hw), (tw18 hw)⟩)
  have E_SUCCESS := Exa.start v_SUCCESS hn4
  obtain ⟨w_PROTOCOL_ERROR, v_PROTOCOL_ERROR⟩ := exa_v hn6
  have S_PROTOCOL_ERROR := Sta.start v_PROTOCOL_ERROR (Or.inr ⟨(tw2 hw), (tw19 hw)⟩)
  have E_PROTOCOL_ERROR := Exa.start v_PROTOCOL_ERROR hn6
  obtain ⟨w_TIME_LIMIT_EXCEEDED, v_TIME_LIMIT_EXCEEDED⟩ := exa_v hn8
  have S_TIME_LIMIT_EXCEEDED := Sta.start v_TIME_LIMIT_EXCEEDED (Or.inr ⟨(tw2 hw), (tw20 hw)⟩)
  have E_TIME_LIMIT_EXCEEDED := Exa.start v_TIME_LIMIT_EXCEEDED hn8
  obtain ⟨w_SIZE_LIMIT_EXCEEDED, v_SIZE_LIMIT_EXCEEDED⟩ := exa_v hn10
  have S_SIZE_LIMIT_EXCEEDED := Sta.start v_SIZE_LIMIT_EXCEEDED (Or.inr ⟨(tw2 hw), (tw21 hw)⟩)
  have E_SIZE_LIMIT_EXCEEDED := Exa.start v_SIZE_LIMIT_EXCEEDED hn10
  obtain ⟨w_COMPARE_FALSE, v_COMPARE_FALSE⟩ := exa_v hn12
  have S_COMPARE_FALSE := Sta.start v_COMPARE_FALSE (Or.inr ⟨(tw2 hw), (tw22 hw)⟩)
  have E_COMPARE_FALSE := Exa.start v_COMPARE_FALSE hn12
  obtain ⟨w_COMPARE_TRUE, v_COMPARE_TRUE⟩ := exa_v hn14
  have S_COMPARE_TRUE := Sta.start v_COMPARE_TRUE (Or.inr ⟨(tw2 hw), (tw23 hw)⟩)
  have E_COMPARE_TRUE := Exa.start v_COMPARE_TRUE hn14
  obtain ⟨w_AUTH_METHOD_NOT_SUPPORTED, v_AUTH_METHOD_NOT_SUPPORTED⟩ := exa_v hn16
  have S_AUTH_METHOD_NOT_SUPPORTED := Sta.start v_AUTH_METHOD_NOT_SUPPORTED (Or.inr ⟨(tw2 hw), (tw24 hw)⟩)
  have E_AUTH_METHOD_NOT_SUPPORTED := Exa.start v_AUTH_METHOD_NOT_SUPPORTED hn16
  obtain ⟨w_STRONGER_AUTH_REQUIRED, v_STRONGER_AUTH_REQUIRED⟩ := exa_v hn18
  have S_STRONGER_AUTH_REQUIRED := Sta.start v_STRONGER_AUTH_REQUIRED (Or.inr ⟨(tw2 hw), (tw25 hw)⟩)
  have E_STRONGER_AUTH_REQUIRED := Exa.start v_STRONGER_AUTH_REQUIRED hn18
  obtain ⟨w_REFERRAL, v_REFERRAL⟩ := exa_v hn20
  have S_REFERRAL := Sta.start v_REFERRAL (Or.inr ⟨(tw2 hw), (tw26 hw)⟩)
  have E_REFERRAL := Exa.start v_REFERRAL hn20
  obtain ⟨w_UNAVAILABLE_CRITICAL_EXTENSION, v_UNAVAILABLE_CRITICAL_EXTENSION⟩ := exa_v hn22
  have S_UNAVAILABLE_CRITICAL_EXTENSION := Sta.start v_UNAVAILABLE_CRITICAL_EXTENSION (Or.inr ⟨(tw2 hw), (tw27 hw)⟩)
  have E_UNAVAILABLE_CRITICAL_EXTENSION := Exa.start v_UNAVAILABLE_CRITICAL_EXTENSION hn22
  obtain ⟨w_NO_SUCH_ATTRIBUTE, v_NO_SUCH_ATTRIBUTE⟩ := exa_v hn24
  have S_NO_SUCH_ATTRIBUTE := Sta.start v_NO_SUCH_ATTRIBUTE (Or.inr ⟨(tw2 hw), (tw28 hw)⟩)
  have E_NO_SUCH_ATTRIBUTE := Exa.start v_NO_SUCH_ATTRIBUTE hn24
  obtain ⟨w_UNDEFINED_ATTRIBUTE_TYPE, v_UNDEFINED_ATTRIBUTE_TYPE⟩ := exa_v hn26
  have S_UNDEFINED_ATTRIBUTE_TYPE := Sta.start v_UNDEFINED_ATTRIBUTE_TYPE (Or.inr ⟨(tw2 hw), (tw29 hw)⟩)
  have E_UNDEFINED_ATTRIBUTE_TYPE := Exa.start v_UNDEFINED_ATTRIBUTE_TYPE hn26
  obtain ⟨w_CONSTRAINT_VIOLATION, v_CONSTRAINT_VIOLATION⟩ := exa_v hn28
  have S_CONSTRAINT_VIOLATION := Sta.start v_CONSTRAINT_VIOLATION (Or.inr ⟨(tw2 hw), (tw30 hw)⟩)
  have E_CONSTRAINT_VIOLATION := Exa.start v_CONSTRAINT_VIOLATION hn28
  obtain ⟨w_ATTRIBUTE_OR_VALUE_EXISTS, v_ATTRIBUTE_OR_VALUE_EXISTS⟩ := exa_v hn30
  have S_ATTRIBUTE_OR_VALUE_EXISTS := Sta.start v_ATTRIBUTE_OR_VALUE_EXISTS (Or.inr ⟨(tw2 hw), (tw31 hw)⟩)
  have E_ATTRIBUTE_OR_VALUE_EXISTS := Exa.start v_ATTRIBUTE_OR_VALUE_EXISTS hn30
  obtain ⟨w_INVALID_ATTRIBUTE_SYNTAX, v_INVALID_ATTRIBUTE_SYNTAX⟩ := exa_v hn32
  have S_INVALID_ATTRIBUTE_SYNTAX := Sta.start v_INVALID_ATTRIBUTE_SYNTAX (Or.inr ⟨(tw2 hw), (tw32 hw)⟩)
  have E_INVALID_ATTRIBUTE_SYNTAX := Exa.start v_INVALID_ATTRIBUTE_SYNTAX hn32
  obtain ⟨w_NO_SUCH_OBJECT, v_NO_SUCH_OBJECT⟩ := exa_v hn34
  have S_NO_SUCH_OBJECT := Sta.start v_NO_SUCH_OBJECT (Or.inr ⟨(tw2 hw), (tw33 hw)⟩)
  have E_NO_SUCH_OBJECT := Exa.start v_NO_SUCH_OBJECT hn34
  obtain ⟨w_INVALID_DN_SYNTAX, v_INVALID_DN_SYNTAX⟩ := exa_v hn36
  have S_INVALID_DN_SYNTAX := Sta.start v_INVALID_DN_SYNTAX (Or.inr ⟨(tw2 hw), (tw34 hw)⟩)
  have E_INVALID_DN_SYNTAX := Exa.start v_INVALID_DN_SYNTAX hn36
  obtain ⟨w_INVALID_CREDENTIALS, v_INVALID_CREDENTIALS⟩ := exa_v hn38
  have S_INVALID_CREDENTIALS := Sta.start v_INVALID_CREDENTIALS (Or.inr ⟨(tw2 hw), (tw35 hw)⟩)
  have E_INVALID_CREDENTIALS := Exa.start v_INVALID_CREDENTIALS hn38
  obtain ⟨w_UNAVAILABLE, v_UNAVAILABLE⟩ := exa_v hn40
  have S_UNAVAILABLE := Sta.start v_UNAVAILABLE (Or.inr ⟨(tw2 hw), (tw36 hw)⟩)
  have E_UNAVAILABLE := Exa.start v_UNAVAILABLE hn40
  obtain ⟨w_UNWILLING_TO_PERFORM, v_UNWILLING_TO_PERFORM⟩ := exa_v hn42
  have S_UNWILLING_TO_PERFORM := Sta.start v_UNWILLING_TO_PERFORM (Or.inr ⟨(tw2 hw), (tw37 hw)⟩)
  have E_UNWILLING_TO_PERFORM := Exa.start v_UNWILLING_TO_PERFORM hn42
  obtain ⟨w_NAMING_VIOLATION, v_NAMING_VIOLATION⟩ := exa_v hn44
  have S_NAMING_VIOLATION := Sta.start v_NAMING_VIOLATION (Or.inr ⟨(tw2 hw), (tw38 hw)⟩)
  have E_NAMING_VIOLATION := Exa.start v_NAMING_VIOLATION hn44
  obtain ⟨w_OBJECT_CLASS_VIOLATION, v_OBJECT_CLASS_VIOLATION⟩ := exa_v hn46
  have S_OBJECT_CLASS_VIOLATION := Sta.start v_OBJECT_CLASS_VIOLATION (Or.inr ⟨(tw2 hw), (tw39 hw)⟩)
  have E_OBJECT_CLASS_VIOLATION := Exa.start v_OBJECT_CLASS_VIOLATION hn46
  obtain ⟨w_NOT_ALLOWED_ON_NON_LEAF, v_NOT_ALLOWED_ON_NON_LEAF⟩ := exa_v hn48
  have S_NOT_ALLOWED_ON_NON_LEAF := Sta.start v_NOT_ALLOWED_ON_NON_LEAF (Or.inr ⟨(tw2 hw), (tw40 hw)⟩)
  have E_NOT_ALLOWED_ON_NON_LEAF := Exa.start v_NOT_ALLOWED_ON_NON_LEAF hn48
  obtain ⟨w_NOT_ALLOWED_ON_RDN, v_NOT_ALLOWED_ON_RDN⟩ := exa_v hn50
  have S_NOT_ALLOWED_ON_RDN := Sta.start v_NOT_ALLOWED_ON_RDN (Or.inr ⟨(tw2 hw), (tw41 hw)⟩)
  have E_NOT_ALLOWED_ON_RDN := Exa.start v_NOT_ALLOWED_ON_RDN hn50
  obtain ⟨w_ENTRY_ALREADY_EXISTS, v_ENTRY_ALREADY_EXISTS⟩ := exa_v hn52
  have S_ENTRY_ALREADY_EXISTS := Sta.start v_ENTRY_ALREADY_EXISTS (Or.inr ⟨(tw2 hw), (tw42 hw)⟩)
  have E_ENTRY_ALREADY_EXISTS := Exa.start v_ENTRY_ALREADY_EXISTS hn52
  obtain ⟨w_AFFECTS_MULTIPLE_DSAS, v_AFFECTS_MULTIPLE_DSAS⟩ := exa_v hn54
  have S_AFFECTS_MULTIPLE_DSAS := Sta.start v_AFFECTS_MULTIPLE_DSAS (Or.inr ⟨(tw2 hw), (tw43 hw)⟩)
  have E_AFFECTS_MULTIPLE_DSAS := Exa.start v_AFFECTS_MULTIPLE_DSAS hn54
  have F_SUCCESS_code := Fld.start ((fld_at v_SUCCESS).symm.trans (eqI_v hn57))
  have F_PROTOCOL_ERROR_code := Fld.start ((fld_at v_PROTOCOL_ERROR).symm.trans (eqI_v hn58))
  have F_TIME_LIMIT_EXCEEDED_code := Fld.start ((fld_at v_TIME_LIMIT_EXCEEDED).symm.trans (eqI_v hn59))
  have F_SIZE_LIMIT_EXCEEDED_code := Fld.start ((fld_at v_SIZE_LIMIT_EXCEEDED).symm.trans (eqI_v hn60))
  have F_COMPARE_FALSE_code := Fld.start ((fld_at v_COMPARE_FALSE).symm.trans (eqI_v hn61))
  have F_COMPARE_TRUE_code := Fld.start ((fld_at v_COMPARE_TRUE).symm.trans (eqI_v hn62))
  have F_AUTH_METHOD_NOT_SUPPORTED_code := Fld.start ((fld_at v_AUTH_METHOD_NOT_SUPPORTED).symm.trans (eqI_v hn63))
  have F_STRONGER_AUTH_REQUIRED_code := Fld.start ((fld_at v_STRONGER_AUTH_REQUIRED).symm.trans (eqI_v hn64))
  have F_REFERRAL_code := Fld.start ((fld_at v_REFERRAL).symm.trans (eqI_v hn65))
  have F_UNAVAILABLE_CRITICAL_EXTENSION_code := Fld.start ((fld_at v_UNAVAILABLE_CRITICAL_EXTENSION).symm.trans (eqI_v hn66))
  have F_NO_SUCH_ATTRIBUTE_code := Fld.start ((fld_at v_NO_SUCH_ATTRIBUTE).symm.trans (eqI_v hn67))
  have F_UNDEFINED_ATTRIBUTE_TYPE_code := Fld.start ((fld_at v_UNDEFINED_ATTRIBUTE_TYPE).symm.trans (eqI_v hn68))
  have F_CONSTRAINT_VIOLATION_code := Fld.start ((fld_at v_CONSTRAINT_VIOLATION).symm.trans (eqI_v hn69))
  have F_ATTRIBUTE_OR_VALUE_EXISTS_code := Fld.start ((fld_at v_ATTRIBUTE_OR_VALUE_EXISTS).symm.trans (eqI_v hn70))
  have F_INVALID_ATTRIBUTE_SYNTAX_code := Fld.start ((fld_at v_INVALID_ATTRIBUTE_SYNTAX).symm.trans (eqI_v hn71))
  have F_NO_SUCH_OBJECT_code := Fld.start ((fld_at v_NO_SUCH_OBJECT).symm.trans (eqI_v hn72))
  have F_INVALID_DN_SYNTAX_code := Fld.start ((fld_at v_INVALID_DN_SYNTAX).symm.trans (eqI_v hn73))
  have F_INVALID_CREDENTIALS_code := Fld.start ((fld_at v_INVALID_CREDENTIALS).symm.trans (eqI_v hn74))
  have F_UNAVAILABLE_code := Fld.start ((fld_at v_UNAVAILABLE).symm.trans (eqI_v hn75))
  have F_UNWILLING_TO_PERFORM_code := Fld.start ((fld_at v_UNWILLING_TO_PERFORM).symm.trans (eqI_v hn76))
  have F_NAMING_VIOLATION_code := Fld.start ((fld_at v_NAMING_VIOLATION).symm.trans (eqI_v hn77))
  have F_OBJECT_CLASS_VIOLATION_code := Fld.start ((fld_at v_OBJECT_CLASS_VIOLATION).symm.trans (eqI_v hn78))
  have F_NOT_ALLOWED_ON_NON_LEAF_code := Fld.start ((fld_at v_NOT_ALLOWED_ON_NON_LEAF).symm.trans (eqI_v hn79))
  have F_NOT_ALLOWED_ON_RDN_code := Fld.start ((fld_at v_NOT_ALLOWED_ON_RDN).symm.trans (eqI_v hn80))
  have F_ENTRY_ALREADY_EXISTS_code := Fld.start ((fld_at v_ENTRY_ALREADY_EXISTS).symm.trans (eqI_v hn81))
  have F_AFFECTS_MULTIPLE_DSAS_code := Fld.start ((fld_at v_AFFECTS_MULTIPLE_DSAS).symm.trans (eqI_v hn82))
  have F_OTHER_code := Fld.start ((fld_at v_OTHER).symm.trans (eqI_v hn83))
  obtain ⟨cV, AV⟩ := Arr.start v__VALUES hn1
  obtain ⟨zV, -⟩ := tab_len (n := 27) v__VALUES AV hn3 (by decide)
  have FF : OwnF s s.heap w_OTHER w__VALUES (fun j => [w_SUCCESS, w_PROTOCOL_ERROR, w_TIME_LIMIT_EXCEEDED, w_SIZE_LIMIT_EXCEEDED, w_COMPARE_FALSE, w_COMPARE_TRUE, w_AUTH_METHOD_NOT_SUPPORTED, w_STRONGER_AUTH_REQUIRED, w_REFERRAL, w_UNAVAILABLE_CRITICAL_EXTENSION, w_NO_SUCH_ATTRIBUTE, w_UNDEFINED_ATTRIBUTE_TYPE, w_CONSTRAINT_VIOLATION, w_ATTRIBUTE_OR_VALUE_EXISTS, w_INVALID_ATTRIBUTE_SYNTAX, w_NO_SUCH_OBJECT, w_INVALID_DN_SYNTAX, w_INVALID_CREDENTIALS, w_UNAVAILABLE, w_UNWILLING_TO_PERFORM, w_NAMING_VIOLATION, w_OBJECT_CLASS_VIOLATION, w_NOT_ALLOWED_ON_NON_LEAF, w_NOT_ALLOWED_ON_RDN, w_ENTRY_ALREADY_EXISTS, w_AFFECTS_MULTIPLE_DSAS, w_OTHER].getD j 0) := by
    refine ⟨S_OTHER, S__VALUES, E__VALUES, ⟨cV, AV, zV, FitC.start hfit AV, ?_⟩, rfl, ?_⟩
    · intro i hi
      match i, hi with
      | 0, _ => exact tab_at v__VALUES AV (eqR_v v_SUCCESS hn5) (by decide)
      | 1, _ => exact tab_at v__VALUES AV (eqR_v v_PROTOCOL_ERROR hn7) (by decide)
      | 2, _ => exact tab_at v__VALUES AV (eqR_v v_TIME_LIMIT_EXCEEDED hn9) (by decide)
      | 3, _ => exact tab_at v__VALUES AV (eqR_v v_SIZE_LIMIT_EXCEEDED hn11) (by decide)
      | 4, _ => exact tab_at v__VALUES AV (eqR_v v_COMPARE_FALSE hn13) (by decide)
      | 5, _ => exact tab_at v__VALUES AV (eqR_v v_COMPARE_TRUE hn15) (by decide)
      | 6, _ => exact tab_at v__VALUES AV (eqR_v v_AUTH_METHOD_NOT_SUPPORTED hn17) (by decide)
      | 7, _ => exact tab_at v__VALUES AV (eqR_v v_STRONGER_AUTH_REQUIRED hn19) (by decide)
      | 8, _ => exact tab_at v__VALUES AV (eqR_v v_REFERRAL hn21) (by decide)
      | 9, _ => exact tab_at v__VALUES AV (eqR_v v_UNAVAILABLE_CRITICAL_EXTENSION hn23) (by decide)
      | 10, _ => exact tab_at v__VALUES AV (eqR_v v_NO_SUCH_ATTRIBUTE hn25) (by decide)
      | 11, _ => exact tab_at v__VALUES AV (eqR_v v_UNDEFINED_ATTRIBUTE_TYPE hn27) (by decide)
      | 12, _ => exact tab_at v__VALUES AV (eqR_v v_CONSTRAINT_VIOLATION hn29) (by decide)
      | 13, _ => exact tab_at v__VALUES AV (eqR_v v_ATTRIBUTE_OR_VALUE_EXISTS hn31) (by decide)
      | 14, _ => exact tab_at v__VALUES AV (eqR_v v_INVALID_ATTRIBUTE_SYNTAX hn33) (by decide)
      | 15, _ => exact tab_at v__VALUES AV (eqR_v v_NO_SUCH_OBJECT hn35) (by decide)
      | 16, _ => exact tab_at v__VALUES AV (eqR_v v_INVALID_DN_SYNTAX hn37) (by decide)
      | 17, _ => exact tab_at v__VALUES AV (eqR_v v_INVALID_CREDENTIALS hn39) (by decide)
      | 18, _ => exact tab_at v__VALUES AV (eqR_v v_UNAVAILABLE hn41) (by decide)
      | 19, _ => exact tab_at v__VALUES AV (eqR_v v_UNWILLING_TO_PERFORM hn43) (by decide)
      | 20, _ => exact tab_at v__VALUES AV (eqR_v v_NAMING_VIOLATION hn45) (by decide)
      | 21, _ => exact tab_at v__VALUES AV (eqR_v v_OBJECT_CLASS_VIOLATION hn47) (by decide)
      | 22, _ => exact tab_at v__VALUES AV (eqR_v v_NOT_ALLOWED_ON_NON_LEAF hn49) (by decide)
      | 23, _ => exact tab_at v__VALUES AV (eqR_v v_NOT_ALLOWED_ON_RDN hn51) (by decide)
      | 24, _ => exact tab_at v__VALUES AV (eqR_v v_ENTRY_ALREADY_EXISTS hn53) (by decide)
      | 25, _ => exact tab_at v__VALUES AV (eqR_v v_AFFECTS_MULTIPLE_DSAS hn55) (by decide)
      | 26, _ => exact tab_at v__VALUES AV (eqR_v v_OTHER hn56) (by decide)
      | n + 27, h => exact absurd h (by omega)
    · intro i hi
      match i, hi with
      | 0, _ => exact ⟨E_SUCCESS, F_SUCCESS_code⟩
      | 1, _ => exact ⟨E_PROTOCOL_ERROR, F_PROTOCOL_ERROR_code⟩
      | 2, _ => exact ⟨E_TIME_LIMIT_EXCEEDED, F_TIME_LIMIT_EXCEEDED_code⟩
      | 3, _ => exact ⟨E_SIZE_LIMIT_EXCEEDED, F_SIZE_LIMIT_EXCEEDED_code⟩
      | 4, _ => exact ⟨E_COMPARE_FALSE, F_COMPARE_FALSE_code⟩
      | 5, _ => exact ⟨E_COMPARE_TRUE, F_COMPARE_TRUE_code⟩
      | 6, _ => exact ⟨E_AUTH_METHOD_NOT_SUPPORTED, F_AUTH_METHOD_NOT_SUPPORTED_code⟩
      | 7, _ => exact ⟨E_STRONGER_AUTH_REQUIRED, F_STRONGER_AUTH_REQUIRED_code⟩
      | 8, _ => exact ⟨E_REFERRAL, F_REFERRAL_code⟩
      | 9, _ => exact ⟨E_UNAVAILABLE_CRITICAL_EXTENSION, F_UNAVAILABLE_CRITICAL_EXTENSION_code⟩
      | 10, _ => exact ⟨E_NO_SUCH_ATTRIBUTE, F_NO_SUCH_ATTRIBUTE_code⟩
      | 11, _ => exact ⟨E_UNDEFINED_ATTRIBUTE_TYPE, F_UNDEFINED_ATTRIBUTE_TYPE_code⟩
      | 12, _ => exact ⟨E_CONSTRAINT_VIOLATION, F_CONSTRAINT_VIOLATION_code⟩
      | 13, _ => exact ⟨E_ATTRIBUTE_OR_VALUE_EXISTS, F_ATTRIBUTE_OR_VALUE_EXISTS_code⟩
      | 14, _ => exact ⟨E_INVALID_ATTRIBUTE_SYNTAX, F_INVALID_ATTRIBUTE_SYNTAX_code⟩
      | 15, _ => exact ⟨E_NO_SUCH_OBJECT, F_NO_SUCH_OBJECT_code⟩
      | 16, _ => exact ⟨E_INVALID_DN_SYNTAX, F_INVALID_DN_SYNTAX_code⟩
      | 17, _ => exact ⟨E_INVALID_CREDENTIALS, F_INVALID_CREDENTIALS_code⟩
      | 18, _ => exact ⟨E_UNAVAILABLE, F_UNAVAILABLE_code⟩
      | 19, _ => exact ⟨E_UNWILLING_TO_PERFORM, F_UNWILLING_TO_PERFORM_code⟩
      | 20, _ => exact ⟨E_NAMING_VIOLATION, F_NAMING_VIOLATION_code⟩
      | 21, _ => exact ⟨E_OBJECT_CLASS_VIOLATION, F_OBJECT_CLASS_VIOLATION_code⟩
      | 22, _ => exact ⟨E_NOT_ALLOWED_ON_NON_LEAF, F_NOT_ALLOWED_ON_NON_LEAF_code⟩
      | 23, _ => exact ⟨E_NOT_ALLOWED_ON_RDN, F_NOT_ALLOWED_ON_RDN_code⟩
      | 24, _ => exact ⟨E_ENTRY_ALREADY_EXISTS, F_ENTRY_ALREADY_EXISTS_code⟩
      | 25, _ => exact ⟨E_AFFECTS_MULTIPLE_DSAS, F_AFFECTS_MULTIPLE_DSAS_code⟩
      | 26, _ => exact ⟨E_OTHER, F_OTHER_code⟩
      | n + 27, h => exact absurd h (by omega)
  obtain ⟨n, o, h1, h2, h3, _, L, rfl, ⟨rfl, N⟩, hq⟩ := rm_law l s _ hw i0 i1 w_OTHER w__VALUES _ FF p e ha hc hk s m _ below hf ((Spec.applies_iff_loose hf).mp happ).1 ⟨rfl, State.Warmed39.refl s, rfl⟩ trivial
  refine ⟨n, _, h1, h2, h3, hpost _ _ _ _ _ _ ⟨Cond.after_iff.mpr rfl, Cond.after_iff.mpr (eq_i res_at (Term.int_eval (1)) rfl), trivial⟩ ⟨hq.1, hq.2.1, (hq.2.2.sift fun y hy => Or.inr (N y hy)).mono (by decide) (by decide)⟩⟩
theorem main_1_1 : Claimed_1_1 := comes_1 fun _ _ _ _ _ _ h hF => ⟨h.1, hF⟩
theorem main_1_2 : Claimed_1_2 := comes_1 fun _ _ _ _ _ _ h hF => ⟨h.2.1, hF⟩
end Jvm.Pilot.@@N@@
namespace Jvm.Pilot.@@N@@
open Jvm Jvm.ClassFile Sem Op Lib Jvm.Free Jvm.Stand Jvm.Pilot.@@N@@.Jvm.D
/-! MADE BY PROGRAM (witnessworld.py) out of the Statement's table words and the real class files: 13 classes; the members and pool entries that the words name. The judged class is class 1, her method 2. -/
namespace start1
open Jvm.ClassFile
def u (s : String) : CpInfo := .utf8 (stringToUtf16 s)
/-- a pool by its gaps: so many unusable entries, then the entry; so many at the end -/
def gap : Nat → List CpInfo → List CpInfo
  | 0, r => r
  | n + 1, r => .unusable :: gap n r
def poolList (es : List (Nat × CpInfo)) (last : Nat) : List CpInfo := es.foldr (fun e r => gap e.1 (e.2 :: r)) (gap last [])
def pool (es : List (Nat × CpInfo)) (last : Nat) : Array CpInfo := ⟨poolList es last⟩
def fileOf (pool : Array CpInfo) (this : Nat) (attrs : Array Attribute := #[]) (ms : Array MethodInfo := #[]) (fl : Nat := 33) (sup : Nat := 0) (ifs : Array Nat := #[]) (fds : Array FieldInfo := #[]) : ClassFile where
  minorVersion := 0
  majorVersion := 65
  constantPool := pool
  accessFlags := fl
  thisClass := this
  superClass := sup
  interfaces := ifs
  fields := fds
  methods := ms
  attributes := attrs
def plain (name : String) (sup : Option ClassId) : Class where
  name := name
  kind := .ordinary
  loader := none
  accessFlags := 33
  super := sup
  interfaces := #[]
  cf := none
  fields := #[]
  methods := #[]
  instanceTypes := #[]
  staticTypes := #[]
  resolved := #[]
  callSites := []
  init := .initialized
  statics := none
  mirror := none

def pool0 : Array CpInfo := pool [(5, u "<init>"), (0, u "()V"), (1, .class_ 10), (1, u "java/lang/Object"), (85, u "clone"), (0, u "()Ljava/lang/Object;")] 26

def k0m0 : Method := { name := "<init>", desc := "()V", sig := { parameters := [], returnType := none }, accessFlags := 1, code := none }
def k0m1 : Method := { name := "clone", desc := "()Ljava/lang/Object;", sig := { parameters := [], returnType := some (.object "java/lang/Object") }, accessFlags := 260, code := none }
/-- java/lang/Object -/
def k0 : Class := { plain "java/lang/Object" none with
  accessFlags := 33
  interfaces := #[]
  cf := some (fileOf pool0 8 #[] #[{ accessFlags := 1, nameIndex := 5, descriptorIndex := 6, attributes := #[] }, { accessFlags := 260, nameIndex := 96, descriptorIndex := 97, attributes := #[] }] 33 0 #[] #[])
  fields := #[]
  methods := #[k0m0, k0m1]
  instanceTypes := #[]
  staticTypes := #[]
  resolved := Array.replicate 124 none
  statics := none }

def pool1 : Array CpInfo := pool [(2, .class_ 4), (1, u "java/lang/Object"), (0, u "<init>"), (0, u "()V"), (0, .methodref 8 9), (0, .class_ 10), (0, .nameAndType 11 12), (0, u "com/example/waymark/waymark/directory/ResultCode"), (0, u "of"), (0, u "(I)Lcom/example/waymark/waymark/directory/ResultCode;"), (0, .methodref 14 15), (0, .class_ 16), (0, .nameAndType 17 18), (0, u "com/example/waymark/waymark/directory/ResultCodeOfPinLaw"), (0, u "listed"), (0, u "(I)Z"), (0, .methodref 8 20), (0, .nameAndType 21 22), (0, u "code"), (0, u "()I"), (0, .fieldref 8 24), (0, .nameAndType 25 26), (0, u "OTHER"), (0, u "Lcom/example/waymark/waymark/directory/ResultCode;"), (3, u "law"), (0, u "(II)Z")] 2

def k1m0 : Method := { name := "<init>", desc := "()V", sig := { parameters := [], returnType := none }, accessFlags := 2, code := none }
def k1c1 : Code := { maxStack := 2, maxLocals := 1, code := method_2_code, exceptionTable := #[], attributes := #[] }
def k1m1 : Method := { name := "listed", desc := "(I)Z", sig := { parameters := [.int], returnType := some .boolean }, accessFlags := 10, code := some k1c1 }
def k1c2 : Code := { maxStack := 2, maxLocals := 4, code := code, exceptionTable := #[], attributes := #[] }
def k1m2 : Method := { name := "law", desc := "(II)Z", sig := { parameters := [.int, .int], returnType := some .boolean }, accessFlags := 9, code := some k1c2 }
/-- com/example/waymark/waymark/directory/ResultCodeOfPinLaw -/
def k1 : Class := { plain "com/example/waymark/waymark/directory/ResultCodeOfPinLaw" (some 0) with
  accessFlags := 49
  interfaces := #[]
  cf := some (fileOf pool1 14 #[] #[{ accessFlags := 2, nameIndex := 5, descriptorIndex := 6, attributes := #[] }, { accessFlags := 10, nameIndex := 17, descriptorIndex := 18, attributes := #[] }, { accessFlags := 9, nameIndex := 30, descriptorIndex := 31, attributes := #[] }] 49 2 #[] #[])
  fields := #[]
  methods := #[k1m0, k1m1, k1m2]
  instanceTypes := #[]
  staticTypes := #[]
  resolved := Array.replicate 34 none
  statics := none }

def pool2 : Array CpInfo := pool [(1, .class_ 2), (0, u "java/lang/constant/Constable"), (0, .class_ 4), (0, u "java/lang/Object")] 6

/-- java/lang/constant/Constable -/
def k2 : Class := { plain "java/lang/constant/Constable" (some 0) with
  accessFlags := 1537
  interfaces := #[]
  cf := some (fileOf pool2 1 #[] #[] 1537 3 #[] #[])
  fields := #[]
  methods := #[]
  instanceTypes := #[]
  staticTypes := #[]
  resolved := Array.replicate 11 none
  statics := none }

def pool3 : Array CpInfo := pool [(1, .class_ 2), (0, u "java/lang/Comparable"), (0, .class_ 4), (0, u "java/lang/Object")] 7

/-- java/lang/Comparable -/
def k3 : Class := { plain "java/lang/Comparable" (some 0) with
  accessFlags := 1537
  interfaces := #[]
  cf := some (fileOf pool3 1 #[] #[] 1537 3 #[] #[])
  fields := #[]
  methods := #[]
  instanceTypes := #[]
  staticTypes := #[]
  resolved := Array.replicate 12 none
  statics := none }

def pool4 : Array CpInfo := pool [(1, .class_ 2), (0, u "java/io/Serializable"), (0, .class_ 4), (0, u "java/lang/Object")] 2

/-- java/io/Serializable -/
def k4 : Class := { plain "java/io/Serializable" (some 0) with
  accessFlags := 1537
  interfaces := #[]
  cf := some (fileOf pool4 1 #[] #[] 1537 3 #[] #[])
  fields := #[]
  methods := #[]
  instanceTypes := #[]
  staticTypes := #[]
  resolved := Array.replicate 7 none
  statics := none }

def pool5 : Array CpInfo := pool [(2, .class_ 4), (1, u "java/lang/Enum"), (0, u "name"), (0, u "Ljava/lang/String;"), (2, u "ordinal"), (0, u "I"), (1, .class_ 14), (1, u "java/lang/Object"), (4, u "hash"), (86, .class_ 108), (1, u "java/lang/Enum$EnumDesc"), (2, .class_ 112), (0, u "java/lang/constant/Constable"), (0, .class_ 114), (0, u "java/lang/Comparable"), (0, .class_ 116), (0, u "java/io/Serializable")] 87

/-- java/lang/Enum -/
def k5 : Class := { plain "java/lang/Enum" (some 0) with
  accessFlags := 1057
  interfaces := #[2, 3, 4]
  cf := some (fileOf pool5 2 #[.nestMembers #[106]] #[] 1057 12 #[111, 113, 115] #[{ accessFlags := 18, nameIndex := 5, descriptorIndex := 6, attributes := #[] }, { accessFlags := 18, nameIndex := 9, descriptorIndex := 10, attributes := #[] }, { accessFlags := 2, nameIndex := 19, descriptorIndex := 10, attributes := #[] }])
  fields := #[{ name := "name", type := (.object "java/lang/String"), accessFlags := 18, slot := 0, constantValue := 0 }, { name := "ordinal", type := .int, accessFlags := 18, slot := 1, constantValue := 0 }, { name := "hash", type := .int, accessFlags := 2, slot := 2, constantValue := 0 }]
  methods := #[]
  instanceTypes := #[(.object "java/lang/String"), .int, .int]
  staticTypes := #[]
  resolved := Array.replicate 204 none
  statics := none }

def pool6 : Array CpInfo := pool [(1, .class_ 2), (0, u "com/example/waymark/waymark/directory/ResultCode"), (2, u "SUCCESS"), (0, u "Lcom/example/waymark/waymark/directory/ResultCode;"), (2, u "PROTOCOL_ERROR"), (2, u "TIME_LIMIT_EXCEEDED"), (2, u "SIZE_LIMIT_EXCEEDED"), (2, u "COMPARE_FALSE"), (2, u "COMPARE_TRUE"), (2, u "AUTH_METHOD_NOT_SUPPORTED"), (2, u "STRONGER_AUTH_REQUIRED"), (2, u "REFERRAL"), (2, u "UNAVAILABLE_CRITICAL_EXTENSION"), (2, u "NO_SUCH_ATTRIBUTE"), (2, u "UNDEFINED_ATTRIBUTE_TYPE"), (2, u "CONSTRAINT_VIOLATION"), (2, u "ATTRIBUTE_OR_VALUE_EXISTS"), (2, u "INVALID_ATTRIBUTE_SYNTAX"), (2, u "NO_SUCH_OBJECT"), (2, u "INVALID_DN_SYNTAX"), (2, u "INVALID_CREDENTIALS"), (2, u "UNAVAILABLE"), (2, u "UNWILLING_TO_PERFORM"), (2, u "NAMING_VIOLATION"), (2, u "OBJECT_CLASS_VIOLATION"), (2, u "NOT_ALLOWED_ON_NON_LEAF"), (2, u "NOT_ALLOWED_ON_RDN"), (2, u "ENTRY_ALREADY_EXISTS"), (2, u "AFFECTS_MULTIPLE_DSAS"), (0, .fieldref 1 83), (0, .nameAndType 84 6), (0, u "OTHER"), (0, .fieldref 1 86), (0, .nameAndType 87 88), (0, u "$VALUES"), (0, u "[Lcom/example/waymark/waymark/directory/ResultCode;"), (0, .methodref 90 91), (0, .class_ 88), (0, .nameAndType 92 93), (0, u "clone"), (0, u "()Ljava/lang/Object;"), (1, .class_ 97), (1, u "java/lang/Enum"), (6, .fieldref 1 105), (0, .nameAndType 106 107), (0, u "code"), (0, u "I"), (2, u "identifier"), (0, u "Ljava/lang/String;"), (0, .methodref 1 113), (0, .nameAndType 114 115), (0, u "values"), (0, u "()[Lcom/example/waymark/waymark/directory/ResultCode;"), (93, u "of"), (0, u "(I)Lcom/example/waymark/waymark/directory/ResultCode;"), (1, u "()I")] 6

def k6c0 : Code := { maxStack := 1, maxLocals := 0, code := prog_23_method_1_code, exceptionTable := #[], attributes := #[] }
def k6m0 : Method := { name := "values", desc := "()[Lcom/example/waymark/waymark/directory/ResultCode;", sig := { parameters := [], returnType := some (.array (.object "com/example/waymark/waymark/directory/ResultCode")) }, accessFlags := 9, code := some k6c0 }
def k6c1 : Code := { maxStack := 2, maxLocals := 6, code := prog_23_method_4_code, exceptionTable := #[], attributes := #[] }
def k6m1 : Method := { name := "of", desc := "(I)Lcom/example/waymark/waymark/directory/ResultCode;", sig := { parameters := [.int], returnType := some (.object "com/example/waymark/waymark/directory/ResultCode") }, accessFlags := 9, code := some k6c1 }
def k6c2 : Code := { maxStack := 1, maxLocals := 1, code := prog_23_method_5_code, exceptionTable := #[], attributes := #[] }
def k6m2 : Method := { name := "code", desc := "()I", sig := { parameters := [], returnType := some .int }, accessFlags := 1, code := some k6c2 }
/-- com/example/waymark/waymark/directory/ResultCode -/
def k6 : Class := { plain "com/example/waymark/waymark/directory/ResultCode" (some 5) with
  accessFlags := 16433
  interfaces := #[]
  cf := some (fileOf pool6 1 #[] #[{ accessFlags := 9, nameIndex := 114, descriptorIndex := 115, attributes := #[] }, { accessFlags := 9, nameIndex := 209, descriptorIndex := 210, attributes := #[] }, { accessFlags := 1, nameIndex := 106, descriptorIndex := 212, attributes := #[] }] 16433 95 #[] #[{ accessFlags := 16409, nameIndex := 5, descriptorIndex := 6, attributes := #[] }, { accessFlags := 16409, nameIndex := 9, descriptorIndex := 6, attributes := #[] }, { accessFlags := 16409, nameIndex := 12, descriptorIndex := 6, attributes := #[] }, { accessFlags := 16409, nameIndex := 15, descriptorIndex := 6, attributes := #[] }, { accessFlags := 16409, nameIndex := 18, descriptorIndex := 6, attributes := #[] }, { accessFlags := 16409, nameIndex := 21, descriptorIndex := 6, attributes := #[] }, { accessFlags := 16409, nameIndex := 24, descriptorIndex := 6, attributes := #[] }, { accessFlags := 16409, nameIndex := 27, descriptorIndex := 6, attributes := #[] }, { accessFlags := 16409, nameIndex := 30, descriptorIndex := 6, attributes := #[] }, { accessFlags := 16409, nameIndex := 33, descriptorIndex := 6, attributes := #[] }, { accessFlags := 16409, nameIndex := 36, descriptorIndex := 6, attributes := #[] }, { accessFlags := 16409, nameIndex := 39, descriptorIndex := 6, attributes := #[] }, { accessFlags := 16409, nameIndex := 42, descriptorIndex := 6, attributes := #[] }, { accessFlags := 16409, nameIndex := 45, descriptorIndex := 6, attributes := #[] }, { accessFlags := 16409, nameIndex := 48, descriptorIndex := 6, attributes := #[] }, { accessFlags := 16409, nameIndex := 51, descriptorIndex := 6, attributes := #[] }, { accessFlags := 16409, nameIndex := 54, descriptorIndex := 6, attributes := #[] }, { accessFlags := 16409, nameIndex := 57, descriptorIndex := 6, attributes := #[] }, { accessFlags := 16409, nameIndex := 60, descriptorIndex := 6, attributes := #[] }, { accessFlags := 16409, nameIndex := 63, descriptorIndex := 6, attributes := #[] }, { accessFlags := 16409, nameIndex := 66, descriptorIndex := 6, attributes := #[] }, { accessFlags := 16409, nameIndex := 69, descriptorIndex := 6, attributes := #[] }, { accessFlags := 16409, nameIndex := 72, descriptorIndex := 6, attributes := #[] }, { accessFlags := 16409, nameIndex := 75, descriptorIndex := 6, attributes := #[] }, { accessFlags := 16409, nameIndex := 78, descriptorIndex := 6, attributes := #[] }, { accessFlags := 16409, nameIndex := 81, descriptorIndex := 6, attributes := #[] }, { accessFlags := 16409, nameIndex := 84, descriptorIndex := 6, attributes := #[] }, { accessFlags := 18, nameIndex := 106, descriptorIndex := 107, attributes := #[] }, { accessFlags := 18, nameIndex := 110, descriptorIndex := 111, attributes := #[] }, { accessFlags := 4122, nameIndex := 87, descriptorIndex := 88, attributes := #[] }])
  fields := #[{ name := "SUCCESS", type := (.object "com/example/waymark/waymark/directory/ResultCode"), accessFlags := 16409, slot := 0, constantValue := 0 }, { name := "PROTOCOL_ERROR", type := (.object "com/example/waymark/waymark/directory/ResultCode"), accessFlags := 16409, slot := 1, constantValue := 0 }, { name := "TIME_LIMIT_EXCEEDED", type := (.object "com/example/waymark/waymark/directory/ResultCode"), accessFlags := 16409, slot := 2, constantValue := 0 }, { name := "SIZE_LIMIT_EXCEEDED", type := (.object "com/example/waymark/waymark/directory/ResultCode"), accessFlags := 16409, slot := 3, constantValue := 0 }, { name := "COMPARE_FALSE", type := (.object "com/example/waymark/waymark/directory/ResultCode"), accessFlags := 16409, slot := 4, constantValue := 0 }, { name := "COMPARE_TRUE", type := (.object "com/example/waymark/waymark/directory/ResultCode"), accessFlags := 16409, slot := 5, constantValue := 0 }, { name := "AUTH_METHOD_NOT_SUPPORTED", type := (.object "com/example/waymark/waymark/directory/ResultCode"), accessFlags := 16409, slot := 6, constantValue := 0 }, { name := "STRONGER_AUTH_REQUIRED", type := (.object "com/example/waymark/waymark/directory/ResultCode"), accessFlags := 16409, slot := 7, constantValue := 0 }, { name := "REFERRAL", type := (.object "com/example/waymark/waymark/directory/ResultCode"), accessFlags := 16409, slot := 8, constantValue := 0 }, { name := "UNAVAILABLE_CRITICAL_EXTENSION", type := (.object "com/example/waymark/waymark/directory/ResultCode"), accessFlags := 16409, slot := 9, constantValue := 0 }, { name := "NO_SUCH_ATTRIBUTE", type := (.object "com/example/waymark/waymark/directory/ResultCode"), accessFlags := 16409, slot := 10, constantValue := 0 }, { name := "UNDEFINED_ATTRIBUTE_TYPE", type := (.object "com/example/waymark/waymark/directory/ResultCode"), accessFlags := 16409, slot := 11, constantValue := 0 }, { name := "CONSTRAINT_VIOLATION", type := (.object "com/example/waymark/waymark/directory/ResultCode"), accessFlags := 16409, slot := 12, constantValue := 0 }, { name := "ATTRIBUTE_OR_VALUE_EXISTS", type := (.object "com/example/waymark/waymark/directory/ResultCode"), accessFlags := 16409, slot := 13, constantValue := 0 }, { name := "INVALID_ATTRIBUTE_SYNTAX", type := (.object "com/example/waymark/waymark/directory/ResultCode"), accessFlags := 16409, slot := 14, constantValue := 0 }, { name := "NO_SUCH_OBJECT", type := (.object "com/example/waymark/waymark/directory/ResultCode"), accessFlags := 16409, slot := 15, constantValue := 0 }, { name := "INVALID_DN_SYNTAX", type := (.object "com/example/waymark/waymark/directory/ResultCode"), accessFlags := 16409, slot := 16, constantValue := 0 }, { name := "INVALID_CREDENTIALS", type := (.object "com/example/waymark/waymark/directory/ResultCode"), accessFlags := 16409, slot := 17, constantValue := 0 }, { name := "UNAVAILABLE", type := (.object "com/example/waymark/waymark/directory/ResultCode"), accessFlags := 16409, slot := 18, constantValue := 0 }, { name := "UNWILLING_TO_PERFORM", type := (.object "com/example/waymark/waymark/directory/ResultCode"), accessFlags := 16409, slot := 19, constantValue := 0 }, { name := "NAMING_VIOLATION", type := (.object "com/example/waymark/waymark/directory/ResultCode"), accessFlags := 16409, slot := 20, constantValue := 0 }, { name := "OBJECT_CLASS_VIOLATION", type := (.object "com/example/waymark/waymark/directory/ResultCode"), accessFlags := 16409, slot := 21, constantValue := 0 }, { name := "NOT_ALLOWED_ON_NON_LEAF", type := (.object "com/example/waymark/waymark/directory/ResultCode"), accessFlags := 16409, slot := 22, constantValue := 0 }, { name := "NOT_ALLOWED_ON_RDN", type := (.object "com/example/waymark/waymark/directory/ResultCode"), accessFlags := 16409, slot := 23, constantValue := 0 }, { name := "ENTRY_ALREADY_EXISTS", type := (.object "com/example/waymark/waymark/directory/ResultCode"), accessFlags := 16409, slot := 24, constantValue := 0 }, { name := "AFFECTS_MULTIPLE_DSAS", type := (.object "com/example/waymark/waymark/directory/ResultCode"), accessFlags := 16409, slot := 25, constantValue := 0 }, { name := "OTHER", type := (.object "com/example/waymark/waymark/directory/ResultCode"), accessFlags := 16409, slot := 26, constantValue := 0 }, { name := "code", type := .int, accessFlags := 18, slot := 3, constantValue := 0 }, { name := "identifier", type := (.object "java/lang/String"), accessFlags := 18, slot := 4, constantValue := 0 }, { name := "$VALUES", type := (.array (.object "com/example/waymark/waymark/directory/ResultCode")), accessFlags := 4122, slot := 27, constantValue := 0 }]
  methods := #[k6m0, k6m1, k6m2]
  instanceTypes := #[(.object "java/lang/String"), .int, .int, .int, (.object "java/lang/String")]
  staticTypes := #[(.object "com/example/waymark/waymark/directory/ResultCode"), (.object "com/example/waymark/waymark/directory/ResultCode"), (.object "com/example/waymark/waymark/directory/ResultCode"), (.object "com/example/waymark/waymark/directory/ResultCode"), (.object "com/example/waymark/waymark/directory/ResultCode"), (.object "com/example/waymark/waymark/directory/ResultCode"), (.object "com/example/waymark/waymark/directory/ResultCode"), (.object "com/example/waymark/waymark/directory/ResultCode"), (.object "com/example/waymark/waymark/directory/ResultCode"), (.object "com/example/waymark/waymark/directory/ResultCode"), (.object "com/example/waymark/waymark/directory/ResultCode"), (.object "com/example/waymark/waymark/directory/ResultCode"), (.object "com/example/waymark/waymark/directory/ResultCode"), (.object "com/example/waymark/waymark/directory/ResultCode"), (.object "com/example/waymark/waymark/directory/ResultCode"), (.object "com/example/waymark/waymark/directory/ResultCode"), (.object "com/example/waymark/waymark/directory/ResultCode"), (.object "com/example/waymark/waymark/directory/ResultCode"), (.object "com/example/waymark/waymark/directory/ResultCode"), (.object "com/example/waymark/waymark/directory/ResultCode"), (.object "com/example/waymark/waymark/directory/ResultCode"), (.object "com/example/waymark/waymark/directory/ResultCode"), (.object "com/example/waymark/waymark/directory/ResultCode"), (.object "com/example/waymark/waymark/directory/ResultCode"), (.object "com/example/waymark/waymark/directory/ResultCode"), (.object "com/example/waymark/waymark/directory/ResultCode"), (.object "com/example/waymark/waymark/directory/ResultCode"), (.array (.object "com/example/waymark/waymark/directory/ResultCode"))]
  resolved := Array.replicate 219 none
  statics := some 0 }

def pool7 : Array CpInfo := pool [(1, .class_ 2), (0, u "java/lang/Cloneable"), (0, .class_ 4), (0, u "java/lang/Object")] 2

/-- java/lang/Cloneable -/
def k7 : Class := { plain "java/lang/Cloneable" (some 0) with
  accessFlags := 1537
  interfaces := #[]
  cf := some (fileOf pool7 1 #[] #[] 1537 3 #[] #[])
  fields := #[]
  methods := #[]
  instanceTypes := #[]
  staticTypes := #[]
  resolved := Array.replicate 7 none
  statics := none }

/-- the primitive byte -/
def k8 : Class := { plain "byte" none with kind := .primitive 'B', accessFlags := 0x411 }
/-- [B -/
def k9 : Class := { plain "[B" (some 0) with kind := .array 8 .byte, interfaces := #[7, 4], accessFlags := 1041 }

/-- the primitive int -/
def k10 : Class := { plain "int" none with kind := .primitive 'I', accessFlags := 0x411 }
/-- [I -/
def k11 : Class := { plain "[I" (some 0) with kind := .array 10 .int, interfaces := #[7, 4], accessFlags := 1041 }

/-- [Lcom/example/waymark/waymark/directory/ResultCode; -/
def k12 : Class := { plain "[Lcom/example/waymark/waymark/directory/ResultCode;" (some 0) with kind := .array 6 (.object "com/example/waymark/waymark/directory/ResultCode"), interfaces := #[7, 4], accessFlags := 1041 }

def heap : Heap := #[{ cls := 6, slots := #[.ref 3, .ref 4, .ref 5, .ref 6, .ref 7, .ref 8, .ref 9, .ref 10, .ref 11, .ref 12, .ref 13, .ref 14, .ref 15, .ref 16, .ref 17, .ref 18, .ref 19, .ref 20, .ref 21, .ref 22, .ref 23, .ref 24, .ref 25, .ref 26, .ref 27, .ref 28, .ref 2, .ref 1], vm := .statics 6 },
  { cls := 12, slots := #[.ref 3, .ref 4, .ref 5, .ref 6, .ref 7, .ref 8, .ref 9, .ref 10, .ref 11, .ref 12, .ref 13, .ref 14, .ref 15, .ref 16, .ref 17, .ref 18, .ref 19, .ref 20, .ref 21, .ref 22, .ref 23, .ref 24, .ref 25, .ref 26, .ref 27, .ref 28, .ref 2], vm := .none },
  { cls := 6, slots := #[.null, .int 0, .int 0, .int 80, .null], vm := .none },
  { cls := 6, slots := #[.null, .int 0, .int 0, .int 0, .null], vm := .none },
  { cls := 6, slots := #[.null, .int 0, .int 0, .int 2, .null], vm := .none },
  { cls := 6, slots := #[.null, .int 0, .int 0, .int 3, .null], vm := .none },
  { cls := 6, slots := #[.null, .int 0, .int 0, .int 4, .null], vm := .none },
  { cls := 6, slots := #[.null, .int 0, .int 0, .int 5, .null], vm := .none },
  { cls := 6, slots := #[.null, .int 0, .int 0, .int 6, .null], vm := .none },
  { cls := 6, slots := #[.null, .int 0, .int 0, .int 7, .null], vm := .none },
  { cls := 6, slots := #[.null, .int 0, .int 0, .int 8, .null], vm := .none },
  { cls := 6, slots := #[.null, .int 0, .int 0, .int 10, .null], vm := .none },
  { cls := 6, slots := #[.null, .int 0, .int 0, .int 12, .null], vm := .none },
  { cls := 6, slots := #[.null, .int 0, .int 0, .int 16, .null], vm := .none },
  { cls := 6, slots := #[.null, .int 0, .int 0, .int 17, .null], vm := .none },
  { cls := 6, slots := #[.null, .int 0, .int 0, .int 19, .null], vm := .none },
  { cls := 6, slots := #[.null, .int 0, .int 0, .int 20, .null], vm := .none },
  { cls := 6, slots := #[.null, .int 0, .int 0, .int 21, .null], vm := .none },
  { cls := 6, slots := #[.null, .int 0, .int 0, .int 32, .null], vm := .none },
  { cls := 6, slots := #[.null, .int 0, .int 0, .int 34, .null], vm := .none },
  { cls := 6, slots := #[.null, .int 0, .int 0, .int 49, .null], vm := .none },
  { cls := 6, slots := #[.null, .int 0, .int 0, .int 52, .null], vm := .none },
  { cls := 6, slots := #[.null, .int 0, .int 0, .int 53, .null], vm := .none },
  { cls := 6, slots := #[.null, .int 0, .int 0, .int 64, .null], vm := .none },
  { cls := 6, slots := #[.null, .int 0, .int 0, .int 65, .null], vm := .none },
  { cls := 6, slots := #[.null, .int 0, .int 0, .int 66, .null], vm := .none },
  { cls := 6, slots := #[.null, .int 0, .int 0, .int 67, .null], vm := .none },
  { cls := 6, slots := #[.null, .int 0, .int 0, .int 68, .null], vm := .none },
  { cls := 6, slots := #[.null, .int 0, .int 0, .int 71, .null], vm := .none }]
def classes : Array Class := #[k0, k1, k2, k3, k4, k5, k6, k7, k8, k9, k10, k11, k12]
def interned : List (Array UInt16 × Addr) := []
def slotsUsed : Nat := 190
def theMethod : MethodId := ⟨1, 2⟩
def args0 : Array Value := #[.int 5, .int 6]
def aboutOver (below : List Frame) : State where
  vm := { classes := classes, interned := interned.toArray }
  heap := heap
  slotsUsed := slotsUsed
  threads := #[{ frames := .invoking theMethod args0 :: below }]
def below0 : List Frame := [.native { method := ⟨0, 0⟩, args := #[] }]
def about1 : State := aboutOver below0
def p0 : Program := .bare "" "" ""
def e0 : Env := launch0.env 0 0 0
theorem w_frames : about1.frames = Frame.invoking theMethod args0 :: below0 := rfl
set_option maxRecDepth 65536 in
theorem w_args : argsFit about1.vm theMethod args0 = true := by decide +kernel
set_option maxRecDepth 65536 in
theorem w_heap : heapFits about1 = true := by decide +kernel
set_option maxRecDepth 65536 in
theorem w_runnable : about1.curStatus? = some .runnable := by decide +kernel
set_option maxRecDepth 65536 in
theorem w_alone : about1.alone = true := by decide +kernel
set_option maxRecDepth 65536 in
theorem w_named : about1.methodNamed? x = some theMethod := by decide +kernel
set_option maxRecDepth 65536 in
theorem w_hears : about1.hears theMethod below0 = true := by decide +kernel
set_option maxRecDepth 65536 in
theorem w_ripe : about1.ripe theMethod args0 below0 = true := by decide +kernel
theorem w_running : about1.status = .running := rfl
set_option maxRecDepth 65536 in
theorem w_room : about1.hasRoom e0.platform room_1 = true :=
  launch0.hasRoom_least _ room_1 (by decide +kernel) (by decide +kernel) (by decide +kernel) (by decide +kernel) (by decide +kernel) (by decide +kernel)
theorem allAtoms_all (ts : List Jvm.Cond) (a : Array Jvm.Value) (st : Jvm.State) : (allAtoms ts).before a st = ts.all (fun c => c.before a st) := by
  induction ts with
  | nil => rfl
  | cons c t ih =>
    show (Jvm.Cond.and c (allAtoms t)).before a st = _
    rw [Jvm.Cond.before_and, ih, List.all_cons]
def words1 : List Jvm.Cond := Jvm.Cond.code x code maxLocals ret :: tables_1
/-- a 'code' word, met by the world's own term for the bytes: nothing is compared byte by byte -/
theorem code_word {y : MethodName} {bytes : ByteArray} {mx : Nat} {rt : Option FieldType} {a : Array Value} {s : State} {m : MethodId} {meth : Method} {c : Code} (h1 : s.methodNamed? y = some m) (h2 : s.vm.method? m = some meth) (h3 : meth.code = some c) (h4 : c.code = bytes)
    (h5 : (c.maxLocals == mx && c.exceptionTable.isEmpty && decide (c.maxStack ≤ mostOperands) && decide (meth.sig.returnType = rt) && !meth.locks && decide (parseMethodDescriptor y.desc = some meth.sig)) = true) : (Jvm.Cond.code y bytes mx rt).before a s = true := by
  simp only [Bool.and_eq_true, beq_iff_eq, Bool.not_eq_true', decide_eq_true_eq] at h5
  obtain ⟨⟨⟨⟨⟨g1, g2⟩, g3⟩, g4⟩, g5⟩, g6⟩ := h5
  simp [Cond.before, Cond.holds, Cond.value, h1, h2, h3, h4, g1, g2, g3, g4, g5, g6]
def isCode : Jvm.Cond → Bool
  | .code _ _ _ _ => true
  | _ => false
theorem all_split {L : List Jvm.Cond} {P : Jvm.Cond → Bool} (h1 : L.all (fun c => isCode c || P c) = true) (h2 : ∀ c ∈ L.filter isCode, P c = true) : L.all P = true := by
  refine List.all_eq_true.mpr fun c hc => ?_
  have h := List.all_eq_true.mp h1 c hc
  rcases Bool.eq_false_or_eq_true (isCode c) with hi | hi
  · exact h2 c (List.mem_filter.mpr ⟨hc, hi⟩)
  · simpa [hi] using h
set_option maxRecDepth 65536 in
theorem w_c0 : (Jvm.Cond.code x code maxLocals ret).before args0 about1 = true := code_word (m := ⟨1, 2⟩) (meth := k1m2) (c := k1c2) (by decide +kernel) rfl rfl rfl (by decide +kernel)
set_option maxRecDepth 65536 in
theorem w_c1 : (Jvm.Cond.code ({ cls := "com/example/waymark/waymark/directory/ResultCode", name := "of", desc := "(I)Lcom/example/waymark/waymark/directory/ResultCode;" } : Jvm.MethodName) prog_23_method_4_code (6 : Nat) (Option.some (Jvm.ClassFile.FieldType.object "com/example/waymark/waymark/directory/ResultCode"))).before args0 about1 = true := code_word (m := ⟨6, 1⟩) (meth := k6m1) (c := k6c1) (by decide +kernel) rfl rfl rfl (by decide +kernel)
set_option maxRecDepth 65536 in
theorem w_c2 : (Jvm.Cond.code ({ cls := "com/example/waymark/waymark/directory/ResultCode", name := "values", desc := "()[Lcom/example/waymark/waymark/directory/ResultCode;" } : Jvm.MethodName) prog_23_method_1_code (0 : Nat) (Option.some (Jvm.ClassFile.FieldType.array (Jvm.ClassFile.FieldType.object "com/example/waymark/waymark/directory/ResultCode")))).before args0 about1 = true := code_word (m := ⟨6, 0⟩) (meth := k6m0) (c := k6c0) (by decide +kernel) rfl rfl rfl (by decide +kernel)
set_option maxRecDepth 65536 in
theorem w_c3 : (Jvm.Cond.code ({ cls := "com/example/waymark/waymark/directory/ResultCodeOfPinLaw", name := "listed", desc := "(I)Z" } : Jvm.MethodName) method_2_code (1 : Nat) (Option.some Jvm.ClassFile.FieldType.boolean)).before args0 about1 = true := code_word (m := ⟨1, 1⟩) (meth := k1m1) (c := k1c1) (by decide +kernel) rfl rfl rfl (by decide +kernel)
set_option maxRecDepth 65536 in
theorem w_c4 : (Jvm.Cond.code ({ cls := "com/example/waymark/waymark/directory/ResultCode", name := "code", desc := "()I" } : Jvm.MethodName) prog_23_method_5_code (1 : Nat) (Option.some Jvm.ClassFile.FieldType.int)).before args0 about1 = true := code_word (m := ⟨6, 2⟩) (meth := k6m2) (c := k6c2) (by decide +kernel) rfl rfl rfl (by decide +kernel)
def codes1 : List Jvm.Cond := [Jvm.Cond.code x code maxLocals ret, Jvm.Cond.code ({ cls := "com/example/waymark/waymark/directory/ResultCode", name := "of", desc := "(I)Lcom/example/waymark/waymark/directory/ResultCode;" } : Jvm.MethodName) prog_23_method_4_code (6 : Nat) (Option.some (Jvm.ClassFile.FieldType.object "com/example/waymark/waymark/directory/ResultCode")), Jvm.Cond.code ({ cls := "com/example/waymark/waymark/directory/ResultCode", name := "values", desc := "()[Lcom/example/waymark/waymark/directory/ResultCode;" } : Jvm.MethodName) prog_23_method_1_code (0 : Nat) (Option.some (Jvm.ClassFile.FieldType.array (Jvm.ClassFile.FieldType.object "com/example/waymark/waymark/directory/ResultCode"))), Jvm.Cond.code ({ cls := "com/example/waymark/waymark/directory/ResultCodeOfPinLaw", name := "listed", desc := "(I)Z" } : Jvm.MethodName) method_2_code (1 : Nat) (Option.some Jvm.ClassFile.FieldType.boolean), Jvm.Cond.code ({ cls := "com/example/waymark/waymark/directory/ResultCode", name := "code", desc := "()I" } : Jvm.MethodName) prog_23_method_5_code (1 : Nat) (Option.some Jvm.ClassFile.FieldType.int)]
set_option maxRecDepth 65536 in
theorem codes_eq : words1.filter isCode = codes1 := rfl
theorem w_codes : ∀ c ∈ words1.filter isCode, c.before args0 about1 = true := by
  rw [codes_eq]
  intro c hc
  simp only [codes1, List.mem_cons, List.not_mem_nil, or_false] at hc
  rcases hc with rfl | rfl | rfl | rfl | rfl
  · exact w_c0
  · exact w_c1
  · exact w_c2
  · exact w_c3
  · exact w_c4
set_option maxRecDepth 65536 in
theorem w_t1 : (words1.take 24).all (fun c => isCode c || c.before args0 about1) = true := by decide +kernel
set_option maxRecDepth 65536 in
theorem w_t2 : ((words1.drop 24).take 24).all (fun c => isCode c || c.before args0 about1) = true := by decide +kernel
set_option maxRecDepth 65536 in
theorem w_t3 : ((words1.drop 24).drop 24).all (fun c => isCode c || c.before args0 about1) = true := by decide +kernel
theorem w_tables : (allAtoms (Jvm.Cond.code x code maxLocals ret :: tables_1)).before args0 about1 = true := by
  rw [allAtoms_all]
  show words1.all (fun c => c.before args0 about1) = true
  refine all_split ?_ w_codes
  rw [← List.take_append_drop 24 words1, List.all_append, w_t1, ← List.take_append_drop 24 (words1.drop 24), List.all_append, w_t2, w_t3]
  rfl
set_option maxRecDepth 65536 in
theorem w_case : (Jvm.Cond.and given_1 narrow_1).before args0 about1 = true := by decide +kernel
theorem w_applies : (headSpec (Jvm.Cond.code x code maxLocals ret :: tables_1) room_1).applies x e0.platform about1 = true :=
  (Spec.applies_iff w_frames).mpr ⟨w_running, w_runnable, w_alone, w_named, w_hears, w_ripe, w_room, w_tables⟩
theorem atStart : AtStart classFile x code maxLocals ret World_1 tables_1 room_1 Calls_1 rest_1 Pre_1 launch0 p0 e0 about1 theMethod args0 below0 :=
  ⟨lists_1, trivial, launch0.admits_env _ _ _, launch0.least_env, fairChoices_fair.cas, fairChoices_fair.clock, w_frames, w_args, w_heap, w_applies, trivial, trivial, w_case⟩
end start1
theorem witness_1 : WitnessClaimed_1 := ⟨start1.p0, start1.e0, start1.about1, start1.theMethod, start1.args0, start1.below0, start1.atStart⟩
end Jvm.Pilot.@@N@@
