import JvmDerived
import JvmDerived.Pilot.@@N@@Statement
import JvmDerived.Pilot.@@N@@Code
set_option linter.unusedVariables false
set_option linter.unusedSimpArgs false

namespace Jvm.OwnKit
open Sem ClassFile Op Lib Jvm.Stand Jvm.Free Jvm.LawKit Jvm.RoadKit
section Kit
variable {p : Program} {l : Launch} {e : Env} {R : Room} {s : State} {m : MethodId} {args : Array Value} {below : List Frame} {meth : Method} {c : Code} {T : State} {locs : List Loc} {cells slots : Nat} {Z : State} {a0 : Array Value} {h : Heap} {own nm : String} {bytes : ByteArray} {maxL : Nat} {ret : Option FieldType} {P : Outcome → State → Prop} {pc pc' : Nat} {Ls Ls' : Array Slot} {rest : List Value}
/-- from here the run ends, and P holds of its end -/
def Go (p : Program) (e : Env) (below : List Frame) (P : Outcome → State → Prop) (T0 : State) : Prop := ∃ t o, Steps p.tables e below T0 t ∧ t.status = .running ∧ Ended t below o ∧ P o t
theorem Go.on {T1 T2 : State} (st : ∀ t, Steps p.tables e below T2 t → Steps p.tables e below T1 t) (k : Go p e below P T2) : Go p e below P T1 := by
  obtain ⟨t, o, h1, h2⟩ := k; exact ⟨t, o, st t h1, h2⟩
/-- what a walk knows of the method that it walks -/
def Ctx (p : Program) (s : State) (m : MethodId) (meth : Method) (c : Code) (Z : State) (own nm : String) (bytes : ByteArray) (maxL : Nat) (ret : Option FieldType) : Prop :=
  p.tables.exec = Jvm.exec ∧ c.code = bytes ∧ c.maxLocals = maxL ∧ s.vm.findClass own = some m.cls ∧ meth.name = nm ∧ meth.sig.returnType = ret ∧ meth.locks = false ∧ Z.Warmed39 s.vm
/-- what a body's end says -/
def OEnds (s : State) (Q : Option Value → Heap → List Loc → Prop) (k n : Nat) (o : Outcome) (t : State) : Prop := ∃ v L, o = .returned v ∧ Q v t.heap L ∧ FrameEnd s o t L k n
/-- a contract: called with the arguments 'as' at the heap h0 it returns as Q says -/
abbrev OMeets (l : Launch) (Z : State) (y : MethodName) (bytes : ByteArray) (maxL : Nat) (ret : Option FieldType) (ws : List Jvm.Cond) (rm : Room) (as : Array Value) (h0 : Heap) (Q : Option Value → Heap → List Loc → Prop) : Prop :=
  MetFree l y (head1 (Jvm.Cond.code y bytes maxL ret :: ws) rm) (fun a U => a = as ∧ Z.Warmed39 U.vm ∧ U.heap = h0) (fun _ _ _ _ _ => True) (fun _ U o U' => ∃ v L, o = .returned v ∧ Q v U'.heap L ∧ FrameEnd U o U' L rm.cells rm.slots)
/-- it returns r, writes nothing and makes nothing -/
def PureQ (r : Option Value) (h0 : Heap) (v : Option Value) (h : Heap) (L : List Loc) : Prop := v = r ∧ L = [] ∧ h = h0
theorem OMeets.of {y : MethodName} {ws : List Jvm.Cond} {rm : Room} {as : Array Value} {h0 : Heap} {Q : Option Value → Heap → List Loc → Prop} (hpn : plainFor y = true) (ls : Array Slot) (hent : ∀ m, entryFrame m as maxL = mkF m 0 ls [])
    (body : ∀ p e s m below meth c s₁, Ctx p s m meth c Z y.cls y.name bytes maxL ret → Stand p l e rm s m as below meth c s₁ [] 0 0 → s₁.heap = h0 → Go p e below (OEnds s Q rm.cells rm.slots) (s₁.setTop (mkF m 0 ls []))) : OMeets l Z y bytes maxL ret ws rm as h0 Q := by
  refine MetFree.of_bodySF hpn hisR ?_
  intro p e s m args below meth c s₁ Bd hml0 hP hK
  obtain ⟨rfl, hZ, hh⟩ := hP
  have e0 : s₁.heap = h0 := by rw [← hh, Bd.state]; rfl
  have X0 := Stand.of_body Bd
  have B : Ctx p s m meth c Z y.cls y.name bytes maxL ret := ⟨Bd.exec, Bd.bytes, hml0, findClass_of_methodNamed Bd.named, (name_of_methodNamed Bd.named Bd.method).1, Bd.returns, Bd.notSynchronized, hZ⟩
  obtain ⟨t, o, h1, h2, h3, h4⟩ := body p e s m below meth c s₁ B X0 e0
  exact ⟨t, o, castTop (hent m) h1, h2, h3, h4⟩
/-! the single steps -/

theorem s_iloadN (B : Ctx p s m meth c Z own nm bytes maxL ret) (X : Stand p l e R s m args below meth c T locs cells slots) {k0 : Fin 4} {v : Int32} (hd : decode bytes pc = .ok (.iload_n k0, 1)) (hl : Ls[k0.val]? = some (.val (.int v))) (hp : pc + 1 = pc') (k : Go p e below P (T.setTop (mkF m pc' Ls (.int v :: rest)))) : Go p e below P (T.setTop (mkF m pc Ls (rest))) := by
  subst hp; exact Go.on (fun t => XS.iloadN X.here B.1 rfl (hb B.2.1 hd) hl) k
theorem s_iload (B : Ctx p s m meth c Z own nm bytes maxL ret) (X : Stand p l e R s m args below meth c T locs cells slots) {k0 : Nat} {v : Int32} (hd : decode bytes pc = .ok (.iload k0, 2)) (hl : Ls[k0]? = some (.val (.int v))) (hp : pc + 2 = pc') (k : Go p e below P (T.setTop (mkF m pc' Ls (.int v :: rest)))) : Go p e below P (T.setTop (mkF m pc Ls (rest))) := by
  subst hp; exact Go.on (fun t => XS.iload X.here B.1 rfl (hb B.2.1 hd) hl) k
theorem s_istoreN (B : Ctx p s m meth c Z own nm bytes maxL ret) (X : Stand p l e R s m args below meth c T locs cells slots) {k0 : Fin 4} {v : Int32} (hd : decode bytes pc = .ok (.istore_n k0, 1)) (hl : storeLocals Ls k0.val (.int v) = some Ls') (hp : pc + 1 = pc') (k : Go p e below P (T.setTop (mkF m pc' Ls' (rest)))) : Go p e below P (T.setTop (mkF m pc Ls (.int v :: rest))) := by
  subst hp; exact Go.on (fun t => XS.istoreN X.here B.1 rfl (hb B.2.1 hd) rfl hl) k
theorem s_istore (B : Ctx p s m meth c Z own nm bytes maxL ret) (X : Stand p l e R s m args below meth c T locs cells slots) {k0 : Nat} {v : Int32} (hd : decode bytes pc = .ok (.istore k0, 2)) (hl : storeLocals Ls k0 (.int v) = some Ls') (hp : pc + 2 = pc') (k : Go p e below P (T.setTop (mkF m pc' Ls' (rest)))) : Go p e below P (T.setTop (mkF m pc Ls (.int v :: rest))) := by
  subst hp; exact Go.on (fun t => XS.istore X.here B.1 rfl (hb B.2.1 hd) rfl hl) k
theorem s_lloadN (B : Ctx p s m meth c Z own nm bytes maxL ret) (X : Stand p l e R s m args below meth c T locs cells slots) {k0 : Fin 4} {v : Int64} (hd : decode bytes pc = .ok (.lload_n k0, 1)) (hl : Ls[k0.val]? = some (.val (.long v))) (hp : pc + 1 = pc') (k : Go p e below P (T.setTop (mkF m pc' Ls (.long v :: rest)))) : Go p e below P (T.setTop (mkF m pc Ls (rest))) := by
  subst hp; exact Go.on (fun t => XS.lloadN X.here B.1 rfl (hb B.2.1 hd) hl) k
theorem s_lload (B : Ctx p s m meth c Z own nm bytes maxL ret) (X : Stand p l e R s m args below meth c T locs cells slots) {k0 : Nat} {v : Int64} (hd : decode bytes pc = .ok (.lload k0, 2)) (hl : Ls[k0]? = some (.val (.long v))) (hp : pc + 2 = pc') (k : Go p e below P (T.setTop (mkF m pc' Ls (.long v :: rest)))) : Go p e below P (T.setTop (mkF m pc Ls (rest))) := by
  subst hp; exact Go.on (fun t => XS.lload X.here B.1 rfl (hb B.2.1 hd) hl) k
theorem s_lstoreN (B : Ctx p s m meth c Z own nm bytes maxL ret) (X : Stand p l e R s m args below meth c T locs cells slots) {k0 : Fin 4} {v : Int64} (hd : decode bytes pc = .ok (.lstore_n k0, 1)) (hl : storeLocals Ls k0.val (.long v) = some Ls') (hp : pc + 1 = pc') (k : Go p e below P (T.setTop (mkF m pc' Ls' (rest)))) : Go p e below P (T.setTop (mkF m pc Ls (.long v :: rest))) := by
  subst hp; exact Go.on (fun t => XS.lstoreN X.here B.1 rfl (hb B.2.1 hd) rfl hl) k
theorem s_lstore (B : Ctx p s m meth c Z own nm bytes maxL ret) (X : Stand p l e R s m args below meth c T locs cells slots) {k0 : Nat} {v : Int64} (hd : decode bytes pc = .ok (.lstore k0, 2)) (hl : storeLocals Ls k0 (.long v) = some Ls') (hp : pc + 2 = pc') (k : Go p e below P (T.setTop (mkF m pc' Ls' (rest)))) : Go p e below P (T.setTop (mkF m pc Ls (.long v :: rest))) := by
  subst hp; exact Go.on (fun t => XS.lstore X.here B.1 rfl (hb B.2.1 hd) rfl hl) k
theorem s_aloadN (B : Ctx p s m meth c Z own nm bytes maxL ret) (X : Stand p l e R s m args below meth c T locs cells slots) {k0 : Fin 4} {v : Value} (hd : decode bytes pc = .ok (.aload_n k0, 1)) (hl : Ls[k0.val]? = some (.val v)) (hv : v.isRef = true) (hp : pc + 1 = pc') (k : Go p e below P (T.setTop (mkF m pc' Ls (v :: rest)))) : Go p e below P (T.setTop (mkF m pc Ls (rest))) := by
  subst hp; exact Go.on (fun t => XS.aloadN X.here B.1 rfl (hb B.2.1 hd) hl hv) k
theorem s_aload (B : Ctx p s m meth c Z own nm bytes maxL ret) (X : Stand p l e R s m args below meth c T locs cells slots) {k0 : Nat} {v : Value} (hd : decode bytes pc = .ok (.aload k0, 2)) (hl : Ls[k0]? = some (.val v)) (hv : v.isRef = true) (hp : pc + 2 = pc') (k : Go p e below P (T.setTop (mkF m pc' Ls (v :: rest)))) : Go p e below P (T.setTop (mkF m pc Ls (rest))) := by
  subst hp; exact Go.on (fun t => XS.aload X.here B.1 rfl (hb B.2.1 hd) hl hv) k
theorem s_astoreN (B : Ctx p s m meth c Z own nm bytes maxL ret) (X : Stand p l e R s m args below meth c T locs cells slots) {k0 : Fin 4} {v : Value} (hd : decode bytes pc = .ok (.astore_n k0, 1)) (hv : v.isRef = true) (hl : storeLocals Ls k0.val v = some Ls') (hp : pc + 1 = pc') (k : Go p e below P (T.setTop (mkF m pc' Ls' (rest)))) : Go p e below P (T.setTop (mkF m pc Ls (v :: rest))) := by
  subst hp; exact Go.on (fun t => XS.astoreN X.here B.1 rfl (hb B.2.1 hd) rfl hv hl) k
theorem s_astore (B : Ctx p s m meth c Z own nm bytes maxL ret) (X : Stand p l e R s m args below meth c T locs cells slots) {k0 : Nat} {v : Value} (hd : decode bytes pc = .ok (.astore k0, 2)) (hv : v.isRef = true) (hl : storeLocals Ls k0 v = some Ls') (hp : pc + 2 = pc') (k : Go p e below P (T.setTop (mkF m pc' Ls' (rest)))) : Go p e below P (T.setTop (mkF m pc Ls (v :: rest))) := by
  subst hp; exact Go.on (fun t => XS.astore X.here B.1 rfl (hb B.2.1 hd) rfl hv hl) k
theorem s_iconst (B : Ctx p s m meth c Z own nm bytes maxL ret) (X : Stand p l e R s m args below meth c T locs cells slots) {i : Int} {v : Int32} (hd : decode bytes pc = .ok (.iconst i, 1)) (hv : Int32.ofInt i = v) (hp : pc + 1 = pc') (k : Go p e below P (T.setTop (mkF m pc' Ls (.int v :: rest)))) : Go p e below P (T.setTop (mkF m pc Ls (rest))) := by
  subst hp; subst hv; exact Go.on (fun t => XS.iconst X.here B.1 rfl (hb B.2.1 hd)) k
theorem s_bipush (B : Ctx p s m meth c Z own nm bytes maxL ret) (X : Stand p l e R s m args below meth c T locs cells slots) {i : Int} {v : Int32} (hd : decode bytes pc = .ok (.bipush i, 2)) (hv : (Int8.ofInt i).toInt32 = v) (hp : pc + 2 = pc') (k : Go p e below P (T.setTop (mkF m pc' Ls (.int v :: rest)))) : Go p e below P (T.setTop (mkF m pc Ls (rest))) := by
  subst hp; subst hv; exact Go.on (fun t => XS.bipush X.here B.1 rfl (hb B.2.1 hd)) k
theorem s_sipush (B : Ctx p s m meth c Z own nm bytes maxL ret) (X : Stand p l e R s m args below meth c T locs cells slots) {i : Int} {v : Int32} (hd : decode bytes pc = .ok (.sipush i, 3)) (hv : (Int16.ofInt i).toInt32 = v) (hp : pc + 3 = pc') (k : Go p e below P (T.setTop (mkF m pc' Ls (.int v :: rest)))) : Go p e below P (T.setTop (mkF m pc Ls (rest))) := by
  subst hp; subst hv; exact Go.on (fun t => XS.sipush X.here B.1 rfl (hb B.2.1 hd)) k
theorem s_lconst (B : Ctx p s m meth c Z own nm bytes maxL ret) (X : Stand p l e R s m args below meth c T locs cells slots) {i : Fin 2} {v : Int64} (hd : decode bytes pc = .ok (.lconst i, 1)) (hv : Int64.ofNat i = v) (hp : pc + 1 = pc') (k : Go p e below P (T.setTop (mkF m pc' Ls (.long v :: rest)))) : Go p e below P (T.setTop (mkF m pc Ls (rest))) := by
  subst hp; subst hv; exact Go.on (fun t => XS.lconst X.here B.1 rfl (hb B.2.1 hd)) k
theorem s_aconst_null (B : Ctx p s m meth c Z own nm bytes maxL ret) (X : Stand p l e R s m args below meth c T locs cells slots)  (hd : decode bytes pc = .ok (.aconst_null, 1))  (hp : pc + 1 = pc') (k : Go p e below P (T.setTop (mkF m pc' Ls (.null :: rest)))) : Go p e below P (T.setTop (mkF m pc Ls (rest))) := by
  subst hp; exact Go.on (fun t => XS.aconstNull X.here B.1 rfl (hb B.2.1 hd)) k
theorem s_iadd (B : Ctx p s m meth c Z own nm bytes maxL ret) (X : Stand p l e R s m args below meth c T locs cells slots) {x : Int32} {y : Int32} {v : Int32} (hd : decode bytes pc = .ok (.iadd, 1)) (hv : x + y = v)  (hp : pc + 1 = pc') (k : Go p e below P (T.setTop (mkF m pc' Ls (.int v :: rest)))) : Go p e below P (T.setTop (mkF m pc Ls (.int y :: .int x :: rest))) := by
  subst hp; subst hv; exact Go.on (fun t => XS.iadd X.here B.1 rfl (hb B.2.1 hd) rfl ) k
theorem s_isub (B : Ctx p s m meth c Z own nm bytes maxL ret) (X : Stand p l e R s m args below meth c T locs cells slots) {x : Int32} {y : Int32} {v : Int32} (hd : decode bytes pc = .ok (.isub, 1)) (hv : x - y = v)  (hp : pc + 1 = pc') (k : Go p e below P (T.setTop (mkF m pc' Ls (.int v :: rest)))) : Go p e below P (T.setTop (mkF m pc Ls (.int y :: .int x :: rest))) := by
  subst hp; subst hv; exact Go.on (fun t => XS.isub X.here B.1 rfl (hb B.2.1 hd) rfl ) k
theorem s_imul (B : Ctx p s m meth c Z own nm bytes maxL ret) (X : Stand p l e R s m args below meth c T locs cells slots) {x : Int32} {y : Int32} {v : Int32} (hd : decode bytes pc = .ok (.imul, 1)) (hv : x * y = v)  (hp : pc + 1 = pc') (k : Go p e below P (T.setTop (mkF m pc' Ls (.int v :: rest)))) : Go p e below P (T.setTop (mkF m pc Ls (.int y :: .int x :: rest))) := by
  subst hp; subst hv; exact Go.on (fun t => XS.imul X.here B.1 rfl (hb B.2.1 hd) rfl ) k
theorem s_iand (B : Ctx p s m meth c Z own nm bytes maxL ret) (X : Stand p l e R s m args below meth c T locs cells slots) {x : Int32} {y : Int32} {v : Int32} (hd : decode bytes pc = .ok (.iand, 1)) (hv : x &&& y = v)  (hp : pc + 1 = pc') (k : Go p e below P (T.setTop (mkF m pc' Ls (.int v :: rest)))) : Go p e below P (T.setTop (mkF m pc Ls (.int y :: .int x :: rest))) := by
  subst hp; subst hv; exact Go.on (fun t => XS.iand X.here B.1 rfl (hb B.2.1 hd) rfl ) k
theorem s_ior (B : Ctx p s m meth c Z own nm bytes maxL ret) (X : Stand p l e R s m args below meth c T locs cells slots) {x : Int32} {y : Int32} {v : Int32} (hd : decode bytes pc = .ok (.ior, 1)) (hv : x ||| y = v)  (hp : pc + 1 = pc') (k : Go p e below P (T.setTop (mkF m pc' Ls (.int v :: rest)))) : Go p e below P (T.setTop (mkF m pc Ls (.int y :: .int x :: rest))) := by
  subst hp; subst hv; exact Go.on (fun t => XS.ior X.here B.1 rfl (hb B.2.1 hd) rfl ) k
theorem s_ixor (B : Ctx p s m meth c Z own nm bytes maxL ret) (X : Stand p l e R s m args below meth c T locs cells slots) {x : Int32} {y : Int32} {v : Int32} (hd : decode bytes pc = .ok (.ixor, 1)) (hv : x ^^^ y = v)  (hp : pc + 1 = pc') (k : Go p e below P (T.setTop (mkF m pc' Ls (.int v :: rest)))) : Go p e below P (T.setTop (mkF m pc Ls (.int y :: .int x :: rest))) := by
  subst hp; subst hv; exact Go.on (fun t => XS.ixor X.here B.1 rfl (hb B.2.1 hd) rfl ) k
theorem s_ladd (B : Ctx p s m meth c Z own nm bytes maxL ret) (X : Stand p l e R s m args below meth c T locs cells slots) {x : Int64} {y : Int64} {v : Int64} (hd : decode bytes pc = .ok (.ladd, 1)) (hv : x + y = v)  (hp : pc + 1 = pc') (k : Go p e below P (T.setTop (mkF m pc' Ls (.long v :: rest)))) : Go p e below P (T.setTop (mkF m pc Ls (.long y :: .long x :: rest))) := by
  subst hp; subst hv; exact Go.on (fun t => XS.ladd X.here B.1 rfl (hb B.2.1 hd) rfl ) k
theorem s_lsub (B : Ctx p s m meth c Z own nm bytes maxL ret) (X : Stand p l e R s m args below meth c T locs cells slots) {x : Int64} {y : Int64} {v : Int64} (hd : decode bytes pc = .ok (.lsub, 1)) (hv : x - y = v)  (hp : pc + 1 = pc') (k : Go p e below P (T.setTop (mkF m pc' Ls (.long v :: rest)))) : Go p e below P (T.setTop (mkF m pc Ls (.long y :: .long x :: rest))) := by
  subst hp; subst hv; exact Go.on (fun t => XS.lsub X.here B.1 rfl (hb B.2.1 hd) rfl ) k
theorem s_lmul (B : Ctx p s m meth c Z own nm bytes maxL ret) (X : Stand p l e R s m args below meth c T locs cells slots) {x : Int64} {y : Int64} {v : Int64} (hd : decode bytes pc = .ok (.lmul, 1)) (hv : x * y = v)  (hp : pc + 1 = pc') (k : Go p e below P (T.setTop (mkF m pc' Ls (.long v :: rest)))) : Go p e below P (T.setTop (mkF m pc Ls (.long y :: .long x :: rest))) := by
  subst hp; subst hv; exact Go.on (fun t => XS.lmul X.here B.1 rfl (hb B.2.1 hd) rfl ) k
theorem s_land (B : Ctx p s m meth c Z own nm bytes maxL ret) (X : Stand p l e R s m args below meth c T locs cells slots) {x : Int64} {y : Int64} {v : Int64} (hd : decode bytes pc = .ok (.land, 1)) (hv : x &&& y = v)  (hp : pc + 1 = pc') (k : Go p e below P (T.setTop (mkF m pc' Ls (.long v :: rest)))) : Go p e below P (T.setTop (mkF m pc Ls (.long y :: .long x :: rest))) := by
  subst hp; subst hv; exact Go.on (fun t => XS.land X.here B.1 rfl (hb B.2.1 hd) rfl ) k
theorem s_lor (B : Ctx p s m meth c Z own nm bytes maxL ret) (X : Stand p l e R s m args below meth c T locs cells slots) {x : Int64} {y : Int64} {v : Int64} (hd : decode bytes pc = .ok (.lor, 1)) (hv : x ||| y = v)  (hp : pc + 1 = pc') (k : Go p e below P (T.setTop (mkF m pc' Ls (.long v :: rest)))) : Go p e below P (T.setTop (mkF m pc Ls (.long y :: .long x :: rest))) := by
  subst hp; subst hv; exact Go.on (fun t => XS.lor X.here B.1 rfl (hb B.2.1 hd) rfl ) k
theorem s_lxor (B : Ctx p s m meth c Z own nm bytes maxL ret) (X : Stand p l e R s m args below meth c T locs cells slots) {x : Int64} {y : Int64} {v : Int64} (hd : decode bytes pc = .ok (.lxor, 1)) (hv : x ^^^ y = v)  (hp : pc + 1 = pc') (k : Go p e below P (T.setTop (mkF m pc' Ls (.long v :: rest)))) : Go p e below P (T.setTop (mkF m pc Ls (.long y :: .long x :: rest))) := by
  subst hp; subst hv; exact Go.on (fun t => XS.lxor X.here B.1 rfl (hb B.2.1 hd) rfl ) k
theorem s_idiv (B : Ctx p s m meth c Z own nm bytes maxL ret) (X : Stand p l e R s m args below meth c T locs cells slots) {x : Int32} {y : Int32} {v : Int32} (hd : decode bytes pc = .ok (.idiv, 1)) (hv : x / y = v) (hy : y ≠ 0) (hp : pc + 1 = pc') (k : Go p e below P (T.setTop (mkF m pc' Ls (.int v :: rest)))) : Go p e below P (T.setTop (mkF m pc Ls (.int y :: .int x :: rest))) := by
  subst hp; subst hv; exact Go.on (fun t => XS.idiv X.here B.1 rfl (hb B.2.1 hd) rfl hy) k
theorem s_ldiv (B : Ctx p s m meth c Z own nm bytes maxL ret) (X : Stand p l e R s m args below meth c T locs cells slots) {x : Int64} {y : Int64} {v : Int64} (hd : decode bytes pc = .ok (.ldiv, 1)) (hv : x / y = v) (hy : y ≠ 0) (hp : pc + 1 = pc') (k : Go p e below P (T.setTop (mkF m pc' Ls (.long v :: rest)))) : Go p e below P (T.setTop (mkF m pc Ls (.long y :: .long x :: rest))) := by
  subst hp; subst hv; exact Go.on (fun t => XS.ldiv X.here B.1 rfl (hb B.2.1 hd) rfl hy) k
theorem s_irem (B : Ctx p s m meth c Z own nm bytes maxL ret) (X : Stand p l e R s m args below meth c T locs cells slots) {x y v : Int32} (hd : decode bytes pc = .ok (.irem, 1)) (hv : x % y = v) (hy : y ≠ 0) (hp : pc + 1 = pc') (k : Go p e below P (T.setTop (mkF m pc' Ls (.int v :: rest)))) : Go p e below P (T.setTop (mkF m pc Ls (.int y :: .int x :: rest))) := by
  subst hp; subst hv; exact Go.on (fun t => iremM X B.1 rfl (hb B.2.1 hd) rfl hy) k
theorem s_ishl (B : Ctx p s m meth c Z own nm bytes maxL ret) (X : Stand p l e R s m args below meth c T locs cells slots) {x : Int32} {y : Int32} {v : Int32} (hd : decode bytes pc = .ok (.ishl, 1)) (hv : x <<< (y &&& 31) = v)  (hp : pc + 1 = pc') (k : Go p e below P (T.setTop (mkF m pc' Ls (.int v :: rest)))) : Go p e below P (T.setTop (mkF m pc Ls (.int y :: .int x :: rest))) := by
  subst hp; subst hv; exact Go.on (fun t => XS.ishl X.here B.1 rfl (hb B.2.1 hd) rfl ) k
theorem s_ishr (B : Ctx p s m meth c Z own nm bytes maxL ret) (X : Stand p l e R s m args below meth c T locs cells slots) {x : Int32} {y : Int32} {v : Int32} (hd : decode bytes pc = .ok (.ishr, 1)) (hv : x >>> (y &&& 31) = v)  (hp : pc + 1 = pc') (k : Go p e below P (T.setTop (mkF m pc' Ls (.int v :: rest)))) : Go p e below P (T.setTop (mkF m pc Ls (.int y :: .int x :: rest))) := by
  subst hp; subst hv; exact Go.on (fun t => XS.ishr X.here B.1 rfl (hb B.2.1 hd) rfl ) k
theorem s_iushr (B : Ctx p s m meth c Z own nm bytes maxL ret) (X : Stand p l e R s m args below meth c T locs cells slots) {x : Int32} {y : Int32} {v : Int32} (hd : decode bytes pc = .ok (.iushr, 1)) (hv : (x.toUInt32 >>> (y &&& 31).toUInt32).toInt32 = v)  (hp : pc + 1 = pc') (k : Go p e below P (T.setTop (mkF m pc' Ls (.int v :: rest)))) : Go p e below P (T.setTop (mkF m pc Ls (.int y :: .int x :: rest))) := by
  subst hp; subst hv; exact Go.on (fun t => XS.iushr X.here B.1 rfl (hb B.2.1 hd) rfl ) k
theorem s_lshl (B : Ctx p s m meth c Z own nm bytes maxL ret) (X : Stand p l e R s m args below meth c T locs cells slots) {x : Int64} {y : Int32} {v : Int64} (hd : decode bytes pc = .ok (.lshl, 1)) (hv : x <<< (y &&& 0x3f).toInt64 = v)  (hp : pc + 1 = pc') (k : Go p e below P (T.setTop (mkF m pc' Ls (.long v :: rest)))) : Go p e below P (T.setTop (mkF m pc Ls (.int y :: .long x :: rest))) := by
  subst hp; subst hv; exact Go.on (fun t => XS.lshl X.here B.1 rfl (hb B.2.1 hd) rfl ) k
theorem s_lshr (B : Ctx p s m meth c Z own nm bytes maxL ret) (X : Stand p l e R s m args below meth c T locs cells slots) {x : Int64} {y : Int32} {v : Int64} (hd : decode bytes pc = .ok (.lshr, 1)) (hv : x >>> (y &&& 0x3f).toInt64 = v)  (hp : pc + 1 = pc') (k : Go p e below P (T.setTop (mkF m pc' Ls (.long v :: rest)))) : Go p e below P (T.setTop (mkF m pc Ls (.int y :: .long x :: rest))) := by
  subst hp; subst hv; exact Go.on (fun t => XS.lshr X.here B.1 rfl (hb B.2.1 hd) rfl ) k
theorem s_lushr (B : Ctx p s m meth c Z own nm bytes maxL ret) (X : Stand p l e R s m args below meth c T locs cells slots) {x : Int64} {y : Int32} {v : Int64} (hd : decode bytes pc = .ok (.lushr, 1)) (hv : (x.toUInt64 >>> (y &&& 0x3f).toInt64.toUInt64).toInt64 = v)  (hp : pc + 1 = pc') (k : Go p e below P (T.setTop (mkF m pc' Ls (.long v :: rest)))) : Go p e below P (T.setTop (mkF m pc Ls (.int y :: .long x :: rest))) := by
  subst hp; subst hv; exact Go.on (fun t => XS.lushr X.here B.1 rfl (hb B.2.1 hd) rfl ) k
theorem s_i2b (B : Ctx p s m meth c Z own nm bytes maxL ret) (X : Stand p l e R s m args below meth c T locs cells slots) {x : Int32} {v : Int32} (hd : decode bytes pc = .ok (.i2b, 1)) (hv : x.toInt8.toInt32 = v) (hp : pc + 1 = pc') (k : Go p e below P (T.setTop (mkF m pc' Ls (.int v :: rest)))) : Go p e below P (T.setTop (mkF m pc Ls (.int x :: rest))) := by
  subst hp; subst hv; exact Go.on (fun t => XS.i2b X.here B.1 rfl (hb B.2.1 hd) rfl) k
theorem s_i2c (B : Ctx p s m meth c Z own nm bytes maxL ret) (X : Stand p l e R s m args below meth c T locs cells slots) {x : Int32} {v : Int32} (hd : decode bytes pc = .ok (.i2c, 1)) (hv : x.toUInt32.toUInt16.toUInt32.toInt32 = v) (hp : pc + 1 = pc') (k : Go p e below P (T.setTop (mkF m pc' Ls (.int v :: rest)))) : Go p e below P (T.setTop (mkF m pc Ls (.int x :: rest))) := by
  subst hp; subst hv; exact Go.on (fun t => XS.i2c X.here B.1 rfl (hb B.2.1 hd) rfl) k
theorem s_i2s (B : Ctx p s m meth c Z own nm bytes maxL ret) (X : Stand p l e R s m args below meth c T locs cells slots) {x : Int32} {v : Int32} (hd : decode bytes pc = .ok (.i2s, 1)) (hv : x.toInt16.toInt32 = v) (hp : pc + 1 = pc') (k : Go p e below P (T.setTop (mkF m pc' Ls (.int v :: rest)))) : Go p e below P (T.setTop (mkF m pc Ls (.int x :: rest))) := by
  subst hp; subst hv; exact Go.on (fun t => XS.i2s X.here B.1 rfl (hb B.2.1 hd) rfl) k
theorem s_i2l (B : Ctx p s m meth c Z own nm bytes maxL ret) (X : Stand p l e R s m args below meth c T locs cells slots) {x : Int32} {v : Int64} (hd : decode bytes pc = .ok (.i2l, 1)) (hv : x.toInt64 = v) (hp : pc + 1 = pc') (k : Go p e below P (T.setTop (mkF m pc' Ls (.long v :: rest)))) : Go p e below P (T.setTop (mkF m pc Ls (.int x :: rest))) := by
  subst hp; subst hv; exact Go.on (fun t => XS.i2l X.here B.1 rfl (hb B.2.1 hd) rfl) k
theorem s_l2i (B : Ctx p s m meth c Z own nm bytes maxL ret) (X : Stand p l e R s m args below meth c T locs cells slots) {x : Int64} {v : Int32} (hd : decode bytes pc = .ok (.l2i, 1)) (hv : x.toInt32 = v) (hp : pc + 1 = pc') (k : Go p e below P (T.setTop (mkF m pc' Ls (.int v :: rest)))) : Go p e below P (T.setTop (mkF m pc Ls (.long x :: rest))) := by
  subst hp; subst hv; exact Go.on (fun t => XS.l2i X.here B.1 rfl (hb B.2.1 hd) rfl) k
theorem s_ineg (B : Ctx p s m meth c Z own nm bytes maxL ret) (X : Stand p l e R s m args below meth c T locs cells slots) {x : Int32} {v : Int32} (hd : decode bytes pc = .ok (.ineg, 1)) (hv : -x = v) (hp : pc + 1 = pc') (k : Go p e below P (T.setTop (mkF m pc' Ls (.int v :: rest)))) : Go p e below P (T.setTop (mkF m pc Ls (.int x :: rest))) := by
  subst hp; subst hv; exact Go.on (fun t => XS.ineg X.here B.1 rfl (hb B.2.1 hd) rfl) k
theorem s_lneg (B : Ctx p s m meth c Z own nm bytes maxL ret) (X : Stand p l e R s m args below meth c T locs cells slots) {x : Int64} {v : Int64} (hd : decode bytes pc = .ok (.lneg, 1)) (hv : -x = v) (hp : pc + 1 = pc') (k : Go p e below P (T.setTop (mkF m pc' Ls (.long v :: rest)))) : Go p e below P (T.setTop (mkF m pc Ls (.long x :: rest))) := by
  subst hp; subst hv; exact Go.on (fun t => XS.lneg X.here B.1 rfl (hb B.2.1 hd) rfl) k
theorem s_lcmp (B : Ctx p s m meth c Z own nm bytes maxL ret) (X : Stand p l e R s m args below meth c T locs cells slots) {x y : Int64} (hd : decode bytes pc = .ok (.lcmp, 1))  (hp : pc + 1 = pc') (k : Go p e below P (T.setTop (mkF m pc' Ls (.int (lcmpW x y) :: rest)))) : Go p e below P (T.setTop (mkF m pc Ls (.long y :: .long x :: rest))) := by
  subst hp; exact Go.on (fun t => XS.lcmp X.here B.1 rfl (hb B.2.1 hd) rfl) k
theorem s_dup (B : Ctx p s m meth c Z own nm bytes maxL ret) (X : Stand p l e R s m args below meth c T locs cells slots) {v : Value} (hd : decode bytes pc = .ok (.dup, 1)) (hc : v.category = 1) (hp : pc + 1 = pc') (k : Go p e below P (T.setTop (mkF m pc' Ls (v :: v :: rest)))) : Go p e below P (T.setTop (mkF m pc Ls (v :: rest))) := by
  subst hp; exact Go.on (fun t => XS.dup X.here B.1 rfl (hb B.2.1 hd) rfl hc) k
theorem s_pop (B : Ctx p s m meth c Z own nm bytes maxL ret) (X : Stand p l e R s m args below meth c T locs cells slots) {v : Value} (hd : decode bytes pc = .ok (.pop, 1)) (hc : v.category = 1) (hp : pc + 1 = pc') (k : Go p e below P (T.setTop (mkF m pc' Ls (rest)))) : Go p e below P (T.setTop (mkF m pc Ls (v :: rest))) := by
  subst hp; exact Go.on (fun t => XS.pop X.here B.1 rfl (hb B.2.1 hd) rfl hc) k
theorem s_swap (B : Ctx p s m meth c Z own nm bytes maxL ret) (X : Stand p l e R s m args below meth c T locs cells slots) {v w : Value} (hd : decode bytes pc = .ok (.swap, 1)) (hc : v.category = 1) (hc2 : w.category = 1) (hp : pc + 1 = pc') (k : Go p e below P (T.setTop (mkF m pc' Ls (w :: v :: rest)))) : Go p e below P (T.setTop (mkF m pc Ls (v :: w :: rest))) := by
  subst hp; exact Go.on (fun t => XS.swap X.here B.1 rfl (hb B.2.1 hd) rfl hc hc2) k
theorem s_dup_x1 (B : Ctx p s m meth c Z own nm bytes maxL ret) (X : Stand p l e R s m args below meth c T locs cells slots) {v w : Value} (hd : decode bytes pc = .ok (.dup_x1, 1)) (hc : v.category = 1) (hc2 : w.category = 1) (hp : pc + 1 = pc') (k : Go p e below P (T.setTop (mkF m pc' Ls (v :: w :: v :: rest)))) : Go p e below P (T.setTop (mkF m pc Ls (v :: w :: rest))) := by
  subst hp; exact Go.on (fun t => XS.dupX1 X.here B.1 rfl (hb B.2.1 hd) rfl hc hc2) k
theorem s_dup2 (B : Ctx p s m meth c Z own nm bytes maxL ret) (X : Stand p l e R s m args below meth c T locs cells slots) {v w : Value} (hd : decode bytes pc = .ok (.dup2, 1)) (hc : v.category = 1) (hc2 : w.category = 1) (hp : pc + 1 = pc') (k : Go p e below P (T.setTop (mkF m pc' Ls (v :: w :: v :: w :: rest)))) : Go p e below P (T.setTop (mkF m pc Ls (v :: w :: rest))) := by
  subst hp; exact Go.on (fun t => XT.dup2 X.here B.1 rfl (hb B.2.1 hd) rfl hc hc2) k
theorem s_iinc (B : Ctx p s m meth c Z own nm bytes maxL ret) (X : Stand p l e R s m args below meth c T locs cells slots) {k0 : Nat} {i : Int} {x v : Int32} (hd : decode bytes pc = .ok (.iinc k0 i, 3)) (hl : Ls[k0]? = some (.val (.int x))) (hv : x + Int32.ofInt i = v) (hl' : storeLocals Ls k0 (.int v) = some Ls') (hp : pc + 3 = pc') (k : Go p e below P (T.setTop (mkF m pc' Ls' (rest)))) : Go p e below P (T.setTop (mkF m pc Ls (rest))) := by
  subst hp; subst hv; exact Go.on (fun t => XS.iinc X.here B.1 rfl (hb B.2.1 hd) hl hl') k
theorem s_goto (B : Ctx p s m meth c Z own nm bytes maxL ret) (X : Stand p l e R s m args below meth c T locs cells slots)  {o : Int} (hd : decode bytes pc = .ok (.goto o, 3))  (ho : 0 ≤ (pc : Int) + o) (hp : ((pc : Int) + o).toNat = pc') (k : Go p e below P (T.setTop (mkF m pc' Ls (rest)))) : Go p e below P (T.setTop (mkF m pc Ls (rest))) := Go.on (fun t => XS.goto X.here B.1 rfl rfl (hb B.2.1 hd) ho hp) k
theorem s_ifY (B : Ctx p s m meth c Z own nm bytes maxL ret) (X : Stand p l e R s m args below meth c T locs cells slots) {cd : ClassFile.Cond} {x : Int32} {o : Int} (hd : decode bytes pc = .ok (.ifCond cd o, 3)) (hc : ifCond.holds cd x = true) (ho : 0 ≤ (pc : Int) + o) (hp : ((pc : Int) + o).toNat = pc') (k : Go p e below P (T.setTop (mkF m pc' Ls (rest)))) : Go p e below P (T.setTop (mkF m pc Ls (.int x :: rest))) := Go.on (fun t => XS.ifYes X.here B.1 rfl rfl (hb B.2.1 hd) rfl hc ho hp) k
theorem s_ifN (B : Ctx p s m meth c Z own nm bytes maxL ret) (X : Stand p l e R s m args below meth c T locs cells slots) {cd : ClassFile.Cond} {x : Int32} {o : Int} (hd : decode bytes pc = .ok (.ifCond cd o, 3)) (hc : ifCond.holds cd x = false) (hp : pc + 3 = pc') (k : Go p e below P (T.setTop (mkF m pc' Ls (rest)))) : Go p e below P (T.setTop (mkF m pc Ls (.int x :: rest))) := by
  subst hp; exact Go.on (fun t => XS.ifNo X.here B.1 rfl (hb B.2.1 hd) rfl hc) k
theorem s_icmpY (B : Ctx p s m meth c Z own nm bytes maxL ret) (X : Stand p l e R s m args below meth c T locs cells slots) {cd : ClassFile.Cond} {x y : Int32} {o : Int} (hd : decode bytes pc = .ok (.if_icmp cd o, 3)) (hc : if_icmp.holds cd x y = true) (ho : 0 ≤ (pc : Int) + o) (hp : ((pc : Int) + o).toNat = pc') (k : Go p e below P (T.setTop (mkF m pc' Ls (rest)))) : Go p e below P (T.setTop (mkF m pc Ls (.int y :: .int x :: rest))) := Go.on (fun t => XS.icmpYes X.here B.1 rfl rfl (hb B.2.1 hd) rfl hc ho hp) k
theorem s_icmpN (B : Ctx p s m meth c Z own nm bytes maxL ret) (X : Stand p l e R s m args below meth c T locs cells slots) {cd : ClassFile.Cond} {x y : Int32} {o : Int} (hd : decode bytes pc = .ok (.if_icmp cd o, 3)) (hc : if_icmp.holds cd x y = false) (hp : pc + 3 = pc') (k : Go p e below P (T.setTop (mkF m pc' Ls (rest)))) : Go p e below P (T.setTop (mkF m pc Ls (.int y :: .int x :: rest))) := by
  subst hp; exact Go.on (fun t => XS.icmpNo X.here B.1 rfl (hb B.2.1 hd) rfl hc) k
theorem s_ifnullY (B : Ctx p s m meth c Z own nm bytes maxL ret) (X : Stand p l e R s m args below meth c T locs cells slots)  {o : Int} (hd : decode bytes pc = .ok (.ifnull o, 3))  (ho : 0 ≤ (pc : Int) + o) (hp : ((pc : Int) + o).toNat = pc') (k : Go p e below P (T.setTop (mkF m pc' Ls (rest)))) : Go p e below P (T.setTop (mkF m pc Ls (.null :: rest))) := Go.on (fun t => XS.ifnullYes X.here B.1 rfl rfl (hb B.2.1 hd) rfl ho hp) k
theorem s_ifnullN (B : Ctx p s m meth c Z own nm bytes maxL ret) (X : Stand p l e R s m args below meth c T locs cells slots) {b : Addr} {o : Int} (hd : decode bytes pc = .ok (.ifnull o, 3))  (hp : pc + 3 = pc') (k : Go p e below P (T.setTop (mkF m pc' Ls (rest)))) : Go p e below P (T.setTop (mkF m pc Ls (.ref b :: rest))) := by
  subst hp; exact Go.on (fun t => XS.ifnullNo X.here B.1 rfl (hb B.2.1 hd) rfl) k
theorem s_ifnonnullY (B : Ctx p s m meth c Z own nm bytes maxL ret) (X : Stand p l e R s m args below meth c T locs cells slots) {b : Addr} {o : Int} (hd : decode bytes pc = .ok (.ifnonnull o, 3))  (ho : 0 ≤ (pc : Int) + o) (hp : ((pc : Int) + o).toNat = pc') (k : Go p e below P (T.setTop (mkF m pc' Ls (rest)))) : Go p e below P (T.setTop (mkF m pc Ls (.ref b :: rest))) := Go.on (fun t => XS.ifnonnullYes X.here B.1 rfl rfl (hb B.2.1 hd) rfl ho hp) k
theorem s_ifnonnullN (B : Ctx p s m meth c Z own nm bytes maxL ret) (X : Stand p l e R s m args below meth c T locs cells slots)  {o : Int} (hd : decode bytes pc = .ok (.ifnonnull o, 3))  (hp : pc + 3 = pc') (k : Go p e below P (T.setTop (mkF m pc' Ls (rest)))) : Go p e below P (T.setTop (mkF m pc Ls (.null :: rest))) := by
  subst hp; exact Go.on (fun t => XS.ifnonnullNo X.here B.1 rfl (hb B.2.1 hd) rfl) k
theorem b_icmp_eq (B : Ctx p s m meth c Z own nm bytes maxL ret) (X : Stand p l e R s m args below meth c T locs cells slots) {x y : Int32} {o : Int} {py pn : Nat} (hd : decode bytes pc = .ok (.if_icmp .eq o, 3)) (ho : 0 ≤ (pc : Int) + o) (hy : ((pc : Int) + o).toNat = py) (hn : pc + 3 = pn) (k1 : x = y → Go p e below P (T.setTop (mkF m py Ls (rest)))) (k2 : ¬ x = y → Go p e below P (T.setTop (mkF m pn Ls (rest)))) : Go p e below P (T.setTop (mkF m pc Ls (.int y :: .int x :: rest))) := by
  by_cases q : x = y
  · exact s_icmpY B X hd (teq q).1 ho hy (k1 q)
  · exact s_icmpN B X hd (feq q).1 hn (k2 q)
theorem b_if_eq (B : Ctx p s m meth c Z own nm bytes maxL ret) (X : Stand p l e R s m args below meth c T locs cells slots) {x : Int32} {o : Int} {py pn : Nat} (hd : decode bytes pc = .ok (.ifCond .eq o, 3)) (ho : 0 ≤ (pc : Int) + o) (hy : ((pc : Int) + o).toNat = py) (hn : pc + 3 = pn) (k1 : x = 0 → Go p e below P (T.setTop (mkF m py Ls (rest)))) (k2 : ¬ x = 0 → Go p e below P (T.setTop (mkF m pn Ls (rest)))) : Go p e below P (T.setTop (mkF m pc Ls (.int x :: rest))) := by
  by_cases q : x = 0
  · exact s_ifY B X hd ((if0 _ _).trans (teq q).1) ho hy (k1 q)
  · exact s_ifN B X hd ((if0 _ _).trans (feq q).1) hn (k2 q)
theorem b_icmp_ne (B : Ctx p s m meth c Z own nm bytes maxL ret) (X : Stand p l e R s m args below meth c T locs cells slots) {x y : Int32} {o : Int} {py pn : Nat} (hd : decode bytes pc = .ok (.if_icmp .ne o, 3)) (ho : 0 ≤ (pc : Int) + o) (hy : ((pc : Int) + o).toNat = py) (hn : pc + 3 = pn) (k1 : ¬ x = y → Go p e below P (T.setTop (mkF m py Ls (rest)))) (k2 : x = y → Go p e below P (T.setTop (mkF m pn Ls (rest)))) : Go p e below P (T.setTop (mkF m pc Ls (.int y :: .int x :: rest))) := by
  by_cases q : x = y
  · exact s_icmpN B X hd (teq q).2 hn (k2 q)
  · exact s_icmpY B X hd (feq q).2 ho hy (k1 q)
theorem b_if_ne (B : Ctx p s m meth c Z own nm bytes maxL ret) (X : Stand p l e R s m args below meth c T locs cells slots) {x : Int32} {o : Int} {py pn : Nat} (hd : decode bytes pc = .ok (.ifCond .ne o, 3)) (ho : 0 ≤ (pc : Int) + o) (hy : ((pc : Int) + o).toNat = py) (hn : pc + 3 = pn) (k1 : ¬ x = 0 → Go p e below P (T.setTop (mkF m py Ls (rest)))) (k2 : x = 0 → Go p e below P (T.setTop (mkF m pn Ls (rest)))) : Go p e below P (T.setTop (mkF m pc Ls (.int x :: rest))) := by
  by_cases q : x = 0
  · exact s_ifN B X hd ((if0 _ _).trans (teq q).2) hn (k2 q)
  · exact s_ifY B X hd ((if0 _ _).trans (feq q).2) ho hy (k1 q)
theorem b_icmp_lt (B : Ctx p s m meth c Z own nm bytes maxL ret) (X : Stand p l e R s m args below meth c T locs cells slots) {x y : Int32} {o : Int} {py pn : Nat} (hd : decode bytes pc = .ok (.if_icmp .lt o, 3)) (ho : 0 ≤ (pc : Int) + o) (hy : ((pc : Int) + o).toNat = py) (hn : pc + 3 = pn) (k1 : x < y → Go p e below P (T.setTop (mkF m py Ls (rest)))) (k2 : ¬ x < y → Go p e below P (T.setTop (mkF m pn Ls (rest)))) : Go p e below P (T.setTop (mkF m pc Ls (.int y :: .int x :: rest))) := by
  by_cases q : x < y
  · exact s_icmpY B X hd (tlt q).1 ho hy (k1 q)
  · exact s_icmpN B X hd (flt q).1 hn (k2 q)
theorem b_if_lt (B : Ctx p s m meth c Z own nm bytes maxL ret) (X : Stand p l e R s m args below meth c T locs cells slots) {x : Int32} {o : Int} {py pn : Nat} (hd : decode bytes pc = .ok (.ifCond .lt o, 3)) (ho : 0 ≤ (pc : Int) + o) (hy : ((pc : Int) + o).toNat = py) (hn : pc + 3 = pn) (k1 : x < 0 → Go p e below P (T.setTop (mkF m py Ls (rest)))) (k2 : ¬ x < 0 → Go p e below P (T.setTop (mkF m pn Ls (rest)))) : Go p e below P (T.setTop (mkF m pc Ls (.int x :: rest))) := by
  by_cases q : x < 0
  · exact s_ifY B X hd ((if0 _ _).trans (tlt q).1) ho hy (k1 q)
  · exact s_ifN B X hd ((if0 _ _).trans (flt q).1) hn (k2 q)
theorem b_icmp_ge (B : Ctx p s m meth c Z own nm bytes maxL ret) (X : Stand p l e R s m args below meth c T locs cells slots) {x y : Int32} {o : Int} {py pn : Nat} (hd : decode bytes pc = .ok (.if_icmp .ge o, 3)) (ho : 0 ≤ (pc : Int) + o) (hy : ((pc : Int) + o).toNat = py) (hn : pc + 3 = pn) (k1 : ¬ x < y → Go p e below P (T.setTop (mkF m py Ls (rest)))) (k2 : x < y → Go p e below P (T.setTop (mkF m pn Ls (rest)))) : Go p e below P (T.setTop (mkF m pc Ls (.int y :: .int x :: rest))) := by
  by_cases q : x < y
  · exact s_icmpN B X hd (tlt q).2.1 hn (k2 q)
  · exact s_icmpY B X hd (flt q).2.1 ho hy (k1 q)
theorem b_if_ge (B : Ctx p s m meth c Z own nm bytes maxL ret) (X : Stand p l e R s m args below meth c T locs cells slots) {x : Int32} {o : Int} {py pn : Nat} (hd : decode bytes pc = .ok (.ifCond .ge o, 3)) (ho : 0 ≤ (pc : Int) + o) (hy : ((pc : Int) + o).toNat = py) (hn : pc + 3 = pn) (k1 : ¬ x < 0 → Go p e below P (T.setTop (mkF m py Ls (rest)))) (k2 : x < 0 → Go p e below P (T.setTop (mkF m pn Ls (rest)))) : Go p e below P (T.setTop (mkF m pc Ls (.int x :: rest))) := by
  by_cases q : x < 0
  · exact s_ifN B X hd ((if0 _ _).trans (tlt q).2.1) hn (k2 q)
  · exact s_ifY B X hd ((if0 _ _).trans (flt q).2.1) ho hy (k1 q)
theorem b_icmp_gt (B : Ctx p s m meth c Z own nm bytes maxL ret) (X : Stand p l e R s m args below meth c T locs cells slots) {x y : Int32} {o : Int} {py pn : Nat} (hd : decode bytes pc = .ok (.if_icmp .gt o, 3)) (ho : 0 ≤ (pc : Int) + o) (hy : ((pc : Int) + o).toNat = py) (hn : pc + 3 = pn) (k1 : y < x → Go p e below P (T.setTop (mkF m py Ls (rest)))) (k2 : ¬ y < x → Go p e below P (T.setTop (mkF m pn Ls (rest)))) : Go p e below P (T.setTop (mkF m pc Ls (.int y :: .int x :: rest))) := by
  by_cases q : y < x
  · exact s_icmpY B X hd (tlt q).2.2.1 ho hy (k1 q)
  · exact s_icmpN B X hd (flt q).2.2.1 hn (k2 q)
theorem b_if_gt (B : Ctx p s m meth c Z own nm bytes maxL ret) (X : Stand p l e R s m args below meth c T locs cells slots) {x : Int32} {o : Int} {py pn : Nat} (hd : decode bytes pc = .ok (.ifCond .gt o, 3)) (ho : 0 ≤ (pc : Int) + o) (hy : ((pc : Int) + o).toNat = py) (hn : pc + 3 = pn) (k1 : 0 < x → Go p e below P (T.setTop (mkF m py Ls (rest)))) (k2 : ¬ 0 < x → Go p e below P (T.setTop (mkF m pn Ls (rest)))) : Go p e below P (T.setTop (mkF m pc Ls (.int x :: rest))) := by
  by_cases q : 0 < x
  · exact s_ifY B X hd ((if0 _ _).trans (tlt q).2.2.1) ho hy (k1 q)
  · exact s_ifN B X hd ((if0 _ _).trans (flt q).2.2.1) hn (k2 q)
theorem b_icmp_le (B : Ctx p s m meth c Z own nm bytes maxL ret) (X : Stand p l e R s m args below meth c T locs cells slots) {x y : Int32} {o : Int} {py pn : Nat} (hd : decode bytes pc = .ok (.if_icmp .le o, 3)) (ho : 0 ≤ (pc : Int) + o) (hy : ((pc : Int) + o).toNat = py) (hn : pc + 3 = pn) (k1 : ¬ y < x → Go p e below P (T.setTop (mkF m py Ls (rest)))) (k2 : y < x → Go p e below P (T.setTop (mkF m pn Ls (rest)))) : Go p e below P (T.setTop (mkF m pc Ls (.int y :: .int x :: rest))) := by
  by_cases q : y < x
  · exact s_icmpN B X hd (tlt q).2.2.2 hn (k2 q)
  · exact s_icmpY B X hd (flt q).2.2.2 ho hy (k1 q)
theorem b_if_le (B : Ctx p s m meth c Z own nm bytes maxL ret) (X : Stand p l e R s m args below meth c T locs cells slots) {x : Int32} {o : Int} {py pn : Nat} (hd : decode bytes pc = .ok (.ifCond .le o, 3)) (ho : 0 ≤ (pc : Int) + o) (hy : ((pc : Int) + o).toNat = py) (hn : pc + 3 = pn) (k1 : ¬ 0 < x → Go p e below P (T.setTop (mkF m py Ls (rest)))) (k2 : 0 < x → Go p e below P (T.setTop (mkF m pn Ls (rest)))) : Go p e below P (T.setTop (mkF m pc Ls (.int x :: rest))) := by
  by_cases q : 0 < x
  · exact s_ifN B X hd ((if0 _ _).trans (tlt q).2.2.2) hn (k2 q)
  · exact s_ifY B X hd ((if0 _ _).trans (flt q).2.2.2) ho hy (k1 q)
theorem b_lcmp_eq (B : Ctx p s m meth c Z own nm bytes maxL ret) (X : Stand p l e R s m args below meth c T locs cells slots) {x y : Int64} {pc0 : Nat} {o : Int} {py pn : Nat} (hd0 : decode bytes pc0 = .ok (.lcmp, 1)) (hp0 : pc0 + 1 = pc) (hd : decode bytes pc = .ok (.ifCond .eq o, 3)) (ho : 0 ≤ (pc : Int) + o) (hy : ((pc : Int) + o).toNat = py) (hn : pc + 3 = pn) (k1 : x = y → Go p e below P (T.setTop (mkF m py Ls (rest)))) (k2 : ¬ x = y → Go p e below P (T.setTop (mkF m pn Ls (rest)))) : Go p e below P (T.setTop (mkF m pc0 Ls (.long y :: .long x :: rest))) := by
  by_cases q : x = y
  · exact s_lcmp B X hd0 hp0 (s_ifY B X hd ((if0 _ _).trans (teq ((lw_eq x y).mpr q)).1) ho hy (k1 q))
  · exact s_lcmp B X hd0 hp0 (s_ifN B X hd ((if0 _ _).trans (feq (fun z => q ((lw_eq x y).mp z))).1) hn (k2 q))
theorem b_lcmp_ne (B : Ctx p s m meth c Z own nm bytes maxL ret) (X : Stand p l e R s m args below meth c T locs cells slots) {x y : Int64} {pc0 : Nat} {o : Int} {py pn : Nat} (hd0 : decode bytes pc0 = .ok (.lcmp, 1)) (hp0 : pc0 + 1 = pc) (hd : decode bytes pc = .ok (.ifCond .ne o, 3)) (ho : 0 ≤ (pc : Int) + o) (hy : ((pc : Int) + o).toNat = py) (hn : pc + 3 = pn) (k1 : ¬ x = y → Go p e below P (T.setTop (mkF m py Ls (rest)))) (k2 : x = y → Go p e below P (T.setTop (mkF m pn Ls (rest)))) : Go p e below P (T.setTop (mkF m pc0 Ls (.long y :: .long x :: rest))) := by
  by_cases q : x = y
  · exact s_lcmp B X hd0 hp0 (s_ifN B X hd ((if0 _ _).trans (teq ((lw_eq x y).mpr q)).2) hn (k2 q))
  · exact s_lcmp B X hd0 hp0 (s_ifY B X hd ((if0 _ _).trans (feq (fun z => q ((lw_eq x y).mp z))).2) ho hy (k1 q))
theorem b_lcmp_lt (B : Ctx p s m meth c Z own nm bytes maxL ret) (X : Stand p l e R s m args below meth c T locs cells slots) {x y : Int64} {pc0 : Nat} {o : Int} {py pn : Nat} (hd0 : decode bytes pc0 = .ok (.lcmp, 1)) (hp0 : pc0 + 1 = pc) (hd : decode bytes pc = .ok (.ifCond .lt o, 3)) (ho : 0 ≤ (pc : Int) + o) (hy : ((pc : Int) + o).toNat = py) (hn : pc + 3 = pn) (k1 : x < y → Go p e below P (T.setTop (mkF m py Ls (rest)))) (k2 : ¬ x < y → Go p e below P (T.setTop (mkF m pn Ls (rest)))) : Go p e below P (T.setTop (mkF m pc0 Ls (.long y :: .long x :: rest))) := by
  by_cases q : x < y
  · exact s_lcmp B X hd0 hp0 (s_ifY B X hd ((if0 _ _).trans (tlt ((lw_lt x y).mpr q)).1) ho hy (k1 q))
  · exact s_lcmp B X hd0 hp0 (s_ifN B X hd ((if0 _ _).trans (flt (fun z => q ((lw_lt x y).mp z))).1) hn (k2 q))
theorem b_lcmp_ge (B : Ctx p s m meth c Z own nm bytes maxL ret) (X : Stand p l e R s m args below meth c T locs cells slots) {x y : Int64} {pc0 : Nat} {o : Int} {py pn : Nat} (hd0 : decode bytes pc0 = .ok (.lcmp, 1)) (hp0 : pc0 + 1 = pc) (hd : decode bytes pc = .ok (.ifCond .ge o, 3)) (ho : 0 ≤ (pc : Int) + o) (hy : ((pc : Int) + o).toNat = py) (hn : pc + 3 = pn) (k1 : ¬ x < y → Go p e below P (T.setTop (mkF m py Ls (rest)))) (k2 : x < y → Go p e below P (T.setTop (mkF m pn Ls (rest)))) : Go p e below P (T.setTop (mkF m pc0 Ls (.long y :: .long x :: rest))) := by
  by_cases q : x < y
  · exact s_lcmp B X hd0 hp0 (s_ifN B X hd ((if0 _ _).trans (tlt ((lw_lt x y).mpr q)).2.1) hn (k2 q))
  · exact s_lcmp B X hd0 hp0 (s_ifY B X hd ((if0 _ _).trans (flt (fun z => q ((lw_lt x y).mp z))).2.1) ho hy (k1 q))
theorem b_lcmp_gt (B : Ctx p s m meth c Z own nm bytes maxL ret) (X : Stand p l e R s m args below meth c T locs cells slots) {x y : Int64} {pc0 : Nat} {o : Int} {py pn : Nat} (hd0 : decode bytes pc0 = .ok (.lcmp, 1)) (hp0 : pc0 + 1 = pc) (hd : decode bytes pc = .ok (.ifCond .gt o, 3)) (ho : 0 ≤ (pc : Int) + o) (hy : ((pc : Int) + o).toNat = py) (hn : pc + 3 = pn) (k1 : y < x → Go p e below P (T.setTop (mkF m py Ls (rest)))) (k2 : ¬ y < x → Go p e below P (T.setTop (mkF m pn Ls (rest)))) : Go p e below P (T.setTop (mkF m pc0 Ls (.long y :: .long x :: rest))) := by
  by_cases q : y < x
  · exact s_lcmp B X hd0 hp0 (s_ifY B X hd ((if0 _ _).trans (tlt ((lw_gt x y).mpr q)).2.2.1) ho hy (k1 q))
  · exact s_lcmp B X hd0 hp0 (s_ifN B X hd ((if0 _ _).trans (flt (fun z => q ((lw_gt x y).mp z))).2.2.1) hn (k2 q))
theorem b_lcmp_le (B : Ctx p s m meth c Z own nm bytes maxL ret) (X : Stand p l e R s m args below meth c T locs cells slots) {x y : Int64} {pc0 : Nat} {o : Int} {py pn : Nat} (hd0 : decode bytes pc0 = .ok (.lcmp, 1)) (hp0 : pc0 + 1 = pc) (hd : decode bytes pc = .ok (.ifCond .le o, 3)) (ho : 0 ≤ (pc : Int) + o) (hy : ((pc : Int) + o).toNat = py) (hn : pc + 3 = pn) (k1 : ¬ y < x → Go p e below P (T.setTop (mkF m py Ls (rest)))) (k2 : y < x → Go p e below P (T.setTop (mkF m pn Ls (rest)))) : Go p e below P (T.setTop (mkF m pc0 Ls (.long y :: .long x :: rest))) := by
  by_cases q : y < x
  · exact s_lcmp B X hd0 hp0 (s_ifN B X hd ((if0 _ _).trans (tlt ((lw_gt x y).mpr q)).2.2.2) hn (k2 q))
  · exact s_lcmp B X hd0 hp0 (s_ifY B X hd ((if0 _ _).trans (flt (fun z => q ((lw_gt x y).mp z))).2.2.2) ho hy (k1 q))
theorem b_acmp_eq (B : Ctx p s m meth c Z own nm bytes maxL ret) (X : Stand p l e R s m args below meth c T locs cells slots) {a b : Addr} {o : Int} {py pn : Nat} (hd : decode bytes pc = .ok (.if_acmp .eq o, 3)) (ho : 0 ≤ (pc : Int) + o) (hy : ((pc : Int) + o).toNat = py) (hn : pc + 3 = pn) (k1 : a = b → Go p e below P (T.setTop (mkF m py Ls (rest)))) (k2 : ¬ a = b → Go p e below P (T.setTop (mkF m pn Ls (rest)))) : Go p e below P (T.setTop (mkF m pc Ls (.ref b :: .ref a :: rest))) := by
  by_cases q : a = b
  · exact Go.on (fun t => Jvm.RoadKit.acmp X B.1 rfl rfl rfl (same := true) rfl (hb B.2.1 hd) rfl (decide_eq_true (congrArg Value.ref q)) ho (by simp [acV, hy])) (k1 q)
  · exact Go.on (fun t => Jvm.RoadKit.acmp X B.1 rfl rfl rfl (same := false) rfl (hb B.2.1 hd) rfl (decide_eq_false fun z => q (Value.ref.inj z)) ho (by simp [acV, hn])) (k2 q)
theorem b_acmp_ne (B : Ctx p s m meth c Z own nm bytes maxL ret) (X : Stand p l e R s m args below meth c T locs cells slots) {a b : Addr} {o : Int} {py pn : Nat} (hd : decode bytes pc = .ok (.if_acmp .ne o, 3)) (ho : 0 ≤ (pc : Int) + o) (hy : ((pc : Int) + o).toNat = py) (hn : pc + 3 = pn) (k1 : ¬ a = b → Go p e below P (T.setTop (mkF m py Ls (rest)))) (k2 : a = b → Go p e below P (T.setTop (mkF m pn Ls (rest)))) : Go p e below P (T.setTop (mkF m pc Ls (.ref b :: .ref a :: rest))) := by
  by_cases q : a = b
  · exact Go.on (fun t => Jvm.RoadKit.acmp X B.1 rfl rfl rfl (same := true) rfl (hb B.2.1 hd) rfl (decide_eq_true (congrArg Value.ref q)) ho (by simp [acV, hn])) (k2 q)
  · exact Go.on (fun t => Jvm.RoadKit.acmp X B.1 rfl rfl rfl (same := false) rfl (hb B.2.1 hd) rfl (decide_eq_false fun z => q (Value.ref.inj z)) ho (by simp [acV, hy])) (k1 q)
theorem b_ifnull (B : Ctx p s m meth c Z own nm bytes maxL ret) (X : Stand p l e R s m args below meth c T locs cells slots) {v : Value} {o : Int} {py pn : Nat} (hv : v.isRef = true) (hd : decode bytes pc = .ok (.ifnull o, 3)) (ho : 0 ≤ (pc : Int) + o) (hy : ((pc : Int) + o).toNat = py) (hn : pc + 3 = pn) (k1 : v = .null → Go p e below P (T.setTop (mkF m py Ls (rest)))) (k2 : ¬ v = .null → Go p e below P (T.setTop (mkF m pn Ls (rest)))) : Go p e below P (T.setTop (mkF m pc Ls (v :: rest))) := by
  rcases ref_cases hv with rfl | ⟨a, rfl⟩
  · exact s_ifnullY B X hd ho hy (k1 rfl)
  · exact s_ifnullN B X hd hn (k2 nofun)
theorem b_ifnonnull (B : Ctx p s m meth c Z own nm bytes maxL ret) (X : Stand p l e R s m args below meth c T locs cells slots) {v : Value} {o : Int} {py pn : Nat} (hv : v.isRef = true) (hd : decode bytes pc = .ok (.ifnonnull o, 3)) (ho : 0 ≤ (pc : Int) + o) (hy : ((pc : Int) + o).toNat = py) (hn : pc + 3 = pn) (k1 : ¬ v = .null → Go p e below P (T.setTop (mkF m py Ls (rest)))) (k2 : v = .null → Go p e below P (T.setTop (mkF m pn Ls (rest)))) : Go p e below P (T.setTop (mkF m pc Ls (v :: rest))) := by
  rcases ref_cases hv with rfl | ⟨a, rfl⟩
  · exact s_ifnonnullN B X hd hn (k2 rfl)
  · exact s_ifnonnullY B X hd ho hy (k1 nofun)
theorem s_ldc (B : Ctx p s m meth c Z own nm bytes maxL ret) (X : Stand p l e R s m args below meth c T locs cells slots) {i : Nat} {v : Int32} (w : (Jvm.Cond.constant own i v).before a0 Z = true) (hd : decode bytes pc = .ok (.ldc i, 2)) (hp : pc + 2 = pc') (k : Go p e below P (T.setTop (mkF m pc' Ls (.int v :: rest)))) : Go p e below P (T.setTop (mkF m pc Ls (rest))) := by
  subst hp; exact Go.on (fun t => X.ldcI B.1 B.2.2.2.1 (mv B.2.2.2.2.2.2.2 w) rfl (hb B.2.1 hd)) k
theorem s_ldc2 (B : Ctx p s m meth c Z own nm bytes maxL ret) (X : Stand p l e R s m args below meth c T locs cells slots) {i : Nat} {v : Int64} (w : (Jvm.Cond.constantLong own i v).before a0 Z = true) (hd : decode bytes pc = .ok (.ldc2_w i, 3)) (hp : pc + 3 = pc') (k : Go p e below P (T.setTop (mkF m pc' Ls (.long v :: rest)))) : Go p e below P (T.setTop (mkF m pc Ls (rest))) := by
  subst hp; exact Go.on (fun t => X.ldc2J B.1 B.2.2.2.1 (mv B.2.2.2.2.2.2.2 w) rfl (hb B.2.1 hd)) k
theorem s_getS (B : Ctx p s m meth c Z own nm bytes maxL ret) (X : Stand p l e R s m args below meth c T locs cells slots) {i : Nat} {R0 O n d : String} {v : Value} (eT : T.heap = h) (w : (Jvm.Cond.fieldLink own i R0 n d).before a0 Z = true) (via : Via Z R0 O n d) (F : Sta Z h O n d v) (hd : decode bytes pc = .ok (.getstatic i, 3)) (hp : pc + 3 = pc') (k : ∀ T', Stand p l e R s m args below meth c T' locs cells slots → T'.heap = h → Go p e below P (T'.setTop (mkF m pc' Ls (v :: rest)))) : Go p e below P (T.setTop (mkF m pc Ls (rest))) := by
  subst hp
  obtain ⟨T', X', e', st⟩ := getS X B.1 B.2.2.2.2.2.2.2 (host := "") B.2.2.2.1 w via eT F (g := mkF m pc Ls rest) rfl (hb B.2.1 hd)
  exact Go.on st (k T' X' e')
theorem s_getF (B : Ctx p s m meth c Z own nm bytes maxL ret) (X : Stand p l e R s m args below meth c T locs cells slots) {i : Nat} {R0 O n d host : String} {a : Addr} {v : Value} (eT : T.heap = h) (w : (Jvm.Cond.fieldLink own i R0 n d).before a0 Z = true ∨ (Jvm.Cond.fieldLinkNest own i R0 n d host).before a0 Z = true) (via : Via Z R0 O n d) (F : Fld Z h a O n d v) (hd : decode bytes pc = .ok (.getfield i, 3)) (hp : pc + 3 = pc') (k : ∀ T', Stand p l e R s m args below meth c T' locs cells slots → T'.heap = h → Go p e below P (T'.setTop (mkF m pc' Ls (v :: rest)))) : Go p e below P (T.setTop (mkF m pc Ls (.ref a :: rest))) := by
  subst hp
  obtain ⟨T', X', e', st⟩ := getF X B.1 B.2.2.2.2.2.2.2 B.2.2.2.1 w via eT F (g := mkF m pc Ls (.ref a :: rest)) rfl rfl (hb B.2.1 hd)
  exact Go.on st (k T' X' e')
theorem r_nar (B : Ctx p s m meth c Z own nm bytes maxL ret) (X : Stand p l e R s m args below meth c T locs cells slots) {Q : Option Value → Heap → List Loc → Prop} {kc kn : Nat} {z : Int32} {t : FieldType} (ht : t = .boolean ∨ t = .byte ∨ t = .char ∨ t = .short) (hr : ret = some t) (hd : decode bytes pc = .ok (.ireturn, 1)) (hq : Q (some (.int (nar t z))) T.heap locs) (hc : cells ≤ kc) (hs : slots ≤ kn) : Go p e below (OEnds s Q kc kn) (T.setTop (mkF m pc Ls (.int z :: rest))) := by
  obtain ⟨fs, hl, hrun, hended, hW, hsame⟩ := X.leave (v := (some (.int (nar t z)))) (fun h => by rw [B.2.2.2.2.2.1, hr] at h; first | rfl | cases h) B.2.2.2.2.2.2.1
  exact ⟨_, _, retN X B.1 (by rw [B.2.2.2.2.2.1, hr]) ht (hb B.2.1 hd) hl, hrun, hended, _, _, rfl, hq, ⟨_, rfl⟩, hW, hsame.mono hc hs⟩
theorem r_int (B : Ctx p s m meth c Z own nm bytes maxL ret) (X : Stand p l e R s m args below meth c T locs cells slots) {Q : Option Value → Heap → List Loc → Prop} {kc kn : Nat} {z : Int32} (hr : ret = some .int) (hd : decode bytes pc = .ok (.ireturn, 1)) (hq : Q (some (.int z)) T.heap locs) (hc : cells ≤ kc) (hs : slots ≤ kn) : Go p e below (OEnds s Q kc kn) (T.setTop (mkF m pc Ls (.int z :: rest))) := by
  obtain ⟨fs, hl, hrun, hended, hW, hsame⟩ := X.leave (v := (some (.int z))) (fun h => by rw [B.2.2.2.2.2.1, hr] at h; first | rfl | cases h) B.2.2.2.2.2.2.1
  exact ⟨_, _, retOut X B.1 (t := .int) (by rw [B.2.2.2.2.2.1, hr]) rfl (Or.inl ⟨rfl, Or.inl rfl, _, rfl⟩) (hb B.2.1 hd) hl, hrun, hended, _, _, rfl, hq, ⟨_, rfl⟩, hW, hsame.mono hc hs⟩
theorem r_long (B : Ctx p s m meth c Z own nm bytes maxL ret) (X : Stand p l e R s m args below meth c T locs cells slots) {Q : Option Value → Heap → List Loc → Prop} {kc kn : Nat} {z : Int64} (hr : ret = some .long) (hd : decode bytes pc = .ok (.lreturn, 1)) (hq : Q (some (.long z)) T.heap locs) (hc : cells ≤ kc) (hs : slots ≤ kn) : Go p e below (OEnds s Q kc kn) (T.setTop (mkF m pc Ls (.long z :: rest))) := by
  obtain ⟨fs, hl, hrun, hended, hW, hsame⟩ := X.leave (v := (some (.long z))) (fun h => by rw [B.2.2.2.2.2.1, hr] at h; first | rfl | cases h) B.2.2.2.2.2.2.1
  exact ⟨_, _, retOut X B.1 (t := .long) (by rw [B.2.2.2.2.2.1, hr]) rfl (Or.inr (Or.inl ⟨rfl, rfl, _, rfl⟩)) (hb B.2.1 hd) hl, hrun, hended, _, _, rfl, hq, ⟨_, rfl⟩, hW, hsame.mono hc hs⟩
theorem r_ref (B : Ctx p s m meth c Z own nm bytes maxL ret) (X : Stand p l e R s m args below meth c T locs cells slots) {Q : Option Value → Heap → List Loc → Prop} {kc kn : Nat} {v : Value} {t : FieldType} (ht : t.isReference = true) (hn : narrow t v = v) (hv : v.isRef = true) (hr : ret = some t) (hd : decode bytes pc = .ok (.areturn, 1)) (hq : Q (some v) T.heap locs) (hc : cells ≤ kc) (hs : slots ≤ kn) : Go p e below (OEnds s Q kc kn) (T.setTop (mkF m pc Ls (v :: rest))) := by
  obtain ⟨fs, hl, hrun, hended, hW, hsame⟩ := X.leave (v := (some v)) (fun h => by rw [B.2.2.2.2.2.1, hr] at h; first | rfl | cases h) B.2.2.2.2.2.2.1
  exact ⟨_, _, retOut X B.1 (t := t) (by rw [B.2.2.2.2.2.1, hr]) hn (Or.inr (Or.inr (Or.inr (Or.inr ⟨rfl, ht, hv⟩)))) (hb B.2.1 hd) hl, hrun, hended, _, _, rfl, hq, ⟨_, rfl⟩, hW, hsame.mono hc hs⟩
theorem r_void (B : Ctx p s m meth c Z own nm bytes maxL ret) (X : Stand p l e R s m args below meth c T locs cells slots) {Q : Option Value → Heap → List Loc → Prop} {kc kn : Nat} (hr : ret = none) (hd : decode bytes pc = .ok (.return_, 1)) (hq : Q none T.heap locs) (hc : cells ≤ kc) (hs : slots ≤ kn) : Go p e below (OEnds s Q kc kn) (T.setTop (mkF m pc Ls [])) := by
  obtain ⟨fs, hl, hrun, hended, hW, hsame⟩ := X.leave (v := none) (fun _ => rfl) B.2.2.2.2.2.2.1
  exact ⟨_, _, X.returnOut B.1 (by rw [B.2.2.2.2.2.1, hr]) (hb B.2.1 hd) hl, hrun, hended, _, _, rfl, hq, ⟨_, rfl⟩, hW, hsame.mono hc hs⟩
theorem c_virtual (B : Ctx p s m meth c Z own nm bytes maxL ret) (X : Stand p l e R s m args below meth c T locs cells slots) {y : MethodName} {bs : ByteArray} {mx : Nat} {rt : Option FieldType} {rm : Room} {i W : Nat} {argsL under : List Value} {Q : Option Value → Heap → List Loc → Prop} {st : List Value} {C : String} {b : Addr} (eT : T.heap = h) (w1 : (Jvm.Cond.methodLink own i y).before a0 Z = true) (w2 : (Jvm.Cond.declares y).before a0 Z = true) (w3 : (Jvm.Cond.selects C y y).before a0 Z = true) (w4 : (Jvm.Cond.instanceMethod y).before a0 Z = true) (wc : (Jvm.Cond.code y bs mx rt).before a0 Z = true) (wz : (Jvm.Cond.initialized y.cls).before a0 Z = true) (hy : y.cls ≠ "java/lang/invoke/MethodHandle" ∧ y.cls ≠ "java/lang/invoke/VarHandle") (hM : OMeets l Z y bs mx rt [] rm (.ref b :: argsL).toArray h Q) (E : Exa Z h b C) (hlen : ∀ sig, parseMethodDescriptor y.desc = some sig → argsL.length = sig.parameters.length) (hst : st = argsL.reverse ++ .ref b :: under) (hW : (under.map fun v => v.category).sum = W) (hf : rm.frames + 1 ≤ R.frames) (hlo : W + (mx + 11) + rm.locals ≤ R.locals) (hce : cells + rm.cells ≤ R.cells) (hsl : slots + rm.slots ≤ R.slots) (hsz : Ls.size = maxL) (hd : decode bytes pc = .ok (.invokevirtual i, 3)) (hp : pc + 3 = pc') (k : ∀ v T' L, Stand p l e R s m args below meth c T' (locs ++ L) (cells + rm.cells) (slots + rm.slots) → Q v T'.heap L → Go p e below P (T'.setTop (mkF m pc' Ls (v.toList ++ under)))) : Go p e below P (T.setTop (mkF m pc Ls st)) := by
  subst hp hst
  obtain ⟨cq, kq, qa, qb, qc⟩ := isOf B.2.2.2.2.2.2.2 eT E
  obtain ⟨v, _, ⟨T', L', k', n'⟩, -, X', ⟨Lc, hQ, l', y', z'⟩, st'⟩ := X.virtualBack B.1 (y := y) B.2.2.2.1 (mvT B.2.2.2.2.2.2.2 w1) (mvT B.2.2.2.2.2.2.2 w2) (notFace_of_selects (args := #[]) (mvT B.2.2.2.2.2.2.2 w3)) (mvT B.2.2.2.2.2.2.2 w3) (mvT B.2.2.2.2.2.2.2 w4) hy (z := y) (backOf (W := W) hM B.2.2.2.2.2.2.2 wc wz hf hlo) qa qc (g := mkF m pc Ls (argsL.reverse ++ .ref b :: under)) rfl (by rw [B.2.2.1]; exact hsz) (Steps.refl _) (argsL := argsL) (rest := under) hlen rfl (by show 2 * 0 + _ ≤ _; rw [Nat.mul_zero, Nat.zero_add]; exact Nat.le_of_eq hW) (hb B.2.1 hd) (fun _ _ => ⟨rfl, eT, hce, hsl⟩)
  dsimp only [Pt.U, Pt.locs, Pt.cells, Pt.slots] at X' l' y' z' st' hQ
  subst l' y' z'
  exact Go.on (fun t q => st'.trans q) (k v T' Lc X' hQ)
theorem c_static (B : Ctx p s m meth c Z own nm bytes maxL ret) (X : Stand p l e R s m args below meth c T locs cells slots) {y : MethodName} {bs : ByteArray} {mx : Nat} {rt : Option FieldType} {rm : Room} {i W : Nat} {argsL under : List Value} {Q : Option Value → Heap → List Loc → Prop} {st : List Value} (eT : T.heap = h) (w1 : (Jvm.Cond.methodLink own i y).before a0 Z = true) (w2 : (Jvm.Cond.static y).before a0 Z = true) (wc : (Jvm.Cond.code y bs mx rt).before a0 Z = true) (wz : (Jvm.Cond.initialized y.cls).before a0 Z = true) (hy : y.cls ≠ "java/lang/invoke/MethodHandle" ∧ y.cls ≠ "java/lang/invoke/VarHandle") (hM : OMeets l Z y bs mx rt [] rm argsL.toArray h Q) (hlen : ∀ sig, parseMethodDescriptor y.desc = some sig → argsL.length = sig.parameters.length) (hst : st = argsL.reverse ++ under) (hW : (under.map fun v => v.category).sum = W) (hf : rm.frames + 1 ≤ R.frames) (hlo : W + (mx + 11) + rm.locals ≤ R.locals) (hce : cells + rm.cells ≤ R.cells) (hsl : slots + rm.slots ≤ R.slots) (hsz : Ls.size = maxL) (hd : decode bytes pc = .ok (.invokestatic i, 3)) (hp : pc + 3 = pc') (k : ∀ v T' L, Stand p l e R s m args below meth c T' (locs ++ L) (cells + rm.cells) (slots + rm.slots) → Q v T'.heap L → Go p e below P (T'.setTop (mkF m pc' Ls (v.toList ++ under)))) : Go p e below P (T.setTop (mkF m pc Ls st)) := by
  subst hp hst
  obtain ⟨v, _, ⟨T', L', k', n'⟩, -, X', ⟨Lc, hQ, l', y', z'⟩, st'⟩ := Jvm.LawKit.callS X B.1 (y := y) B.2.2.2.1 (mvT B.2.2.2.2.2.2.2 w1) (mvT B.2.2.2.2.2.2.2 w2) (mvT B.2.2.2.2.2.2.2 wz) (mvT B.2.2.2.2.2.2.2 wc) hy (backOf (W := W) hM B.2.2.2.2.2.2.2 wc wz hf hlo) (g := mkF m pc Ls (argsL.reverse ++ under)) rfl (by rw [B.2.2.1]; exact hsz) (argsL := argsL) (rest := under) hlen rfl (by show 2 * 0 + _ ≤ _; rw [Nat.mul_zero, Nat.zero_add]; exact Nat.le_of_eq hW) (hb B.2.1 hd) (fun _ _ => ⟨rfl, eT, hce, hsl⟩)
  dsimp only [Pt.U, Pt.locs, Pt.cells, Pt.slots] at X' l' y' z' st' hQ
  subst l' y' z'
  exact Go.on st' (k v T' Lc X' hQ)
theorem c_init (B : Ctx p s m meth c Z own nm bytes maxL ret) (X : Stand p l e R s m args below meth c T locs cells slots) {y : MethodName} {bs : ByteArray} {mx : Nat} {rm : Room} {i W : Nat} {argsL under : List Value} {Q : Option Value → Heap → List Loc → Prop} {st : List Value} {b : Addr} (eT : T.heap = h) (hy1 : y.name = "<init>") (w1 : (Jvm.Cond.methodLink own i y).before a0 Z = true) (w2 : (Jvm.Cond.instanceMethod y).before a0 Z = true) (wc : (Jvm.Cond.code y bs mx none).before a0 Z = true) (wz : (Jvm.Cond.initialized y.cls).before a0 Z = true) (hy : y.cls ≠ "java/lang/invoke/MethodHandle" ∧ y.cls ≠ "java/lang/invoke/VarHandle") (hM : OMeets l Z y bs mx none [] rm (.ref b :: argsL).toArray h Q) (hlen : ∀ sig, parseMethodDescriptor y.desc = some sig → argsL.length = sig.parameters.length) (hst : st = argsL.reverse ++ .ref b :: under) (hW : (under.map fun v => v.category).sum = W) (hf : rm.frames + 1 ≤ R.frames) (hlo : W + (mx + 11) + rm.locals ≤ R.locals) (hce : cells + rm.cells ≤ R.cells) (hsl : slots + rm.slots ≤ R.slots) (hsz : Ls.size = maxL) (hd : decode bytes pc = .ok (.invokespecial i, 3)) (hp : pc + 3 = pc') (k : ∀ v T' L, Stand p l e R s m args below meth c T' (locs ++ L) (cells + rm.cells) (slots + rm.slots) → Q v T'.heap L → Go p e below P (T'.setTop (mkF m pc' Ls (v.toList ++ under)))) : Go p e below P (T.setTop (mkF m pc Ls st)) := by
  subst hp hst
  obtain ⟨v, _, ⟨T', L', k', n'⟩, -, X', ⟨Lc, hQ, l', y', z'⟩, st'⟩ := X.specialBack B.1 (y := y) hy1 B.2.2.2.1 (mvT B.2.2.2.2.2.2.2 w1) (mvT B.2.2.2.2.2.2.2 w2) (mvT B.2.2.2.2.2.2.2 wc) hy (backOf (W := W) hM B.2.2.2.2.2.2.2 wc wz hf hlo) (g := mkF m pc Ls (argsL.reverse ++ .ref b :: under)) rfl (by rw [B.2.2.1]; exact hsz) (Steps.refl _) (a := b) (argsL := argsL) (rest := under) hlen rfl (by show 2 * 0 + _ ≤ _; rw [Nat.mul_zero, Nat.zero_add]; exact Nat.le_of_eq hW) (hb B.2.1 hd) (fun _ _ => ⟨rfl, eT, hce, hsl⟩)
  dsimp only [Pt.U, Pt.locs, Pt.cells, Pt.slots] at X' l' y' z' st' hQ
  subst l' y' z'
  exact Go.on (fun t q => st'.trans q) (k v T' Lc X' hQ)
theorem p_virtual (B : Ctx p s m meth c Z own nm bytes maxL ret) (X : Stand p l e R s m args below meth c T locs cells slots) {y : MethodName} {bs : ByteArray} {mx : Nat} {rt : Option FieldType} {rm : Room} {i W : Nat} {argsL under : List Value} {st : List Value} {C : String} {b : Addr} {r : Option Value} (eT : T.heap = h) (w1 : (Jvm.Cond.methodLink own i y).before a0 Z = true) (w2 : (Jvm.Cond.declares y).before a0 Z = true) (w3 : (Jvm.Cond.selects C y y).before a0 Z = true) (w4 : (Jvm.Cond.instanceMethod y).before a0 Z = true) (wc : (Jvm.Cond.code y bs mx rt).before a0 Z = true) (wz : (Jvm.Cond.initialized y.cls).before a0 Z = true) (hy : y.cls ≠ "java/lang/invoke/MethodHandle" ∧ y.cls ≠ "java/lang/invoke/VarHandle") (hM : OMeets l Z y bs mx rt [] rm (.ref b :: argsL).toArray h (PureQ r h)) (E : Exa Z h b C) (hlen : ∀ sig, parseMethodDescriptor y.desc = some sig → argsL.length = sig.parameters.length) (hst : st = argsL.reverse ++ .ref b :: under) (hW : (under.map fun v => v.category).sum = W) (hf : rm.frames + 1 ≤ R.frames) (hlo : W + (mx + 11) + rm.locals ≤ R.locals) (hce : rm.cells = 0) (hsl : rm.slots = 0) (hc0 : cells ≤ R.cells) (hs0 : slots ≤ R.slots) (hsz : Ls.size = maxL) (hd : decode bytes pc = .ok (.invokevirtual i, 3)) (hp : pc + 3 = pc') (k : ∀ T', Stand p l e R s m args below meth c T' locs cells slots → T'.heap = h → Go p e below P (T'.setTop (mkF m pc' Ls (r.toList ++ under)))) : Go p e below P (T.setTop (mkF m pc Ls st)) := by
  refine c_virtual B X eT w1 w2 w3 w4 wc wz hy hM E hlen hst hW hf hlo (by omega) (by omega) hsz hd hp ?_
  intro v T' L X' hQ
  obtain ⟨rfl, rfl, e'⟩ := hQ
  rw [hce, hsl, List.append_nil] at X'
  exact k T' X' e'
theorem p_static (B : Ctx p s m meth c Z own nm bytes maxL ret) (X : Stand p l e R s m args below meth c T locs cells slots) {y : MethodName} {bs : ByteArray} {mx : Nat} {rt : Option FieldType} {rm : Room} {i W : Nat} {argsL under : List Value} {st : List Value}  {r : Option Value} (eT : T.heap = h) (w1 : (Jvm.Cond.methodLink own i y).before a0 Z = true) (w2 : (Jvm.Cond.static y).before a0 Z = true) (wc : (Jvm.Cond.code y bs mx rt).before a0 Z = true) (wz : (Jvm.Cond.initialized y.cls).before a0 Z = true) (hy : y.cls ≠ "java/lang/invoke/MethodHandle" ∧ y.cls ≠ "java/lang/invoke/VarHandle") (hM : OMeets l Z y bs mx rt [] rm argsL.toArray h (PureQ r h))  (hlen : ∀ sig, parseMethodDescriptor y.desc = some sig → argsL.length = sig.parameters.length) (hst : st = argsL.reverse ++ under) (hW : (under.map fun v => v.category).sum = W) (hf : rm.frames + 1 ≤ R.frames) (hlo : W + (mx + 11) + rm.locals ≤ R.locals) (hce : rm.cells = 0) (hsl : rm.slots = 0) (hc0 : cells ≤ R.cells) (hs0 : slots ≤ R.slots) (hsz : Ls.size = maxL) (hd : decode bytes pc = .ok (.invokestatic i, 3)) (hp : pc + 3 = pc') (k : ∀ T', Stand p l e R s m args below meth c T' locs cells slots → T'.heap = h → Go p e below P (T'.setTop (mkF m pc' Ls (r.toList ++ under)))) : Go p e below P (T.setTop (mkF m pc Ls st)) := by
  refine c_static B X eT w1 w2 wc wz hy hM hlen hst hW hf hlo (by omega) (by omega) hsz hd hp ?_
  intro v T' L X' hQ
  obtain ⟨rfl, rfl, e'⟩ := hQ
  rw [hce, hsl, List.append_nil] at X'
  exact k T' X' e'
theorem p_init (B : Ctx p s m meth c Z own nm bytes maxL ret) (X : Stand p l e R s m args below meth c T locs cells slots) {y : MethodName} {bs : ByteArray} {mx : Nat} {rm : Room} {i W : Nat} {argsL under : List Value} {st : List Value} {b : Addr} (eT : T.heap = h) (hy1 : y.name = "<init>") (w1 : (Jvm.Cond.methodLink own i y).before a0 Z = true) (w2 : (Jvm.Cond.instanceMethod y).before a0 Z = true) (wc : (Jvm.Cond.code y bs mx none).before a0 Z = true) (wz : (Jvm.Cond.initialized y.cls).before a0 Z = true) (hy : y.cls ≠ "java/lang/invoke/MethodHandle" ∧ y.cls ≠ "java/lang/invoke/VarHandle") (hM : OMeets l Z y bs mx none [] rm (.ref b :: argsL).toArray h (PureQ none h)) (hlen : ∀ sig, parseMethodDescriptor y.desc = some sig → argsL.length = sig.parameters.length) (hst : st = argsL.reverse ++ .ref b :: under) (hW : (under.map fun v => v.category).sum = W) (hf : rm.frames + 1 ≤ R.frames) (hlo : W + (mx + 11) + rm.locals ≤ R.locals) (hce : rm.cells = 0) (hsl : rm.slots = 0) (hc0 : cells ≤ R.cells) (hs0 : slots ≤ R.slots) (hsz : Ls.size = maxL) (hd : decode bytes pc = .ok (.invokespecial i, 3)) (hp : pc + 3 = pc') (k : ∀ T', Stand p l e R s m args below meth c T' locs cells slots → T'.heap = h → Go p e below P (T'.setTop (mkF m pc' Ls under))) : Go p e below P (T.setTop (mkF m pc Ls st)) := by
  refine c_init B X eT hy1 w1 w2 wc wz hy hM hlen hst hW hf hlo (by omega) (by omega) hsz hd hp ?_
  intro v T' L X' hQ
  obtain ⟨rfl, rfl, e'⟩ := hQ
  rw [hce, hsl, List.append_nil] at X'
  exact k T' X' e'
theorem c_virtualUp (B : Ctx p s m meth c Z own nm bytes maxL ret) (X : Stand p l e R s m args below meth c T locs cells slots) {y z : MethodName} {bs : ByteArray} {mx : Nat} {rt : Option FieldType} {rm : Room} {i W : Nat} {argsL under : List Value} {Q : Option Value → Heap → List Loc → Prop} {st : List Value} {C owner : String} {b : Addr} (eT : T.heap = h) (w1 : (Jvm.Cond.methodLink own i y).before a0 Z = true) (ws : (Jvm.Cond.sameMethod y.cls owner y.name y.desc).before a0 Z = true) (w2 : (Jvm.Cond.declares ⟨owner, y.name, y.desc⟩).before a0 Z = true) (w3 : (Jvm.Cond.selects C y z).before a0 Z = true) (w4 : (Jvm.Cond.instanceMethod z).before a0 Z = true) (wc : (Jvm.Cond.code z bs mx rt).before a0 Z = true) (wz : (Jvm.Cond.initialized z.cls).before a0 Z = true) (hy : owner ≠ "java/lang/invoke/MethodHandle" ∧ owner ≠ "java/lang/invoke/VarHandle") (hM : OMeets l Z z bs mx rt [] rm (.ref b :: argsL).toArray h Q) (E : Exa Z h b C) (hlen : ∀ sig, parseMethodDescriptor y.desc = some sig → argsL.length = sig.parameters.length) (hst : st = argsL.reverse ++ .ref b :: under) (hW : (under.map fun v => v.category).sum = W) (hf : rm.frames + 1 ≤ R.frames) (hlo : W + (mx + 11) + rm.locals ≤ R.locals) (hce : cells + rm.cells ≤ R.cells) (hsl : slots + rm.slots ≤ R.slots) (hsz : Ls.size = maxL) (hd : decode bytes pc = .ok (.invokevirtual i, 3)) (hp : pc + 3 = pc') (k : ∀ v T' L, Stand p l e R s m args below meth c T' (locs ++ L) (cells + rm.cells) (slots + rm.slots) → Q v T'.heap L → Go p e below P (T'.setTop (mkF m pc' Ls (v.toList ++ under)))) : Go p e below P (T.setTop (mkF m pc Ls st)) := by
  subst hp hst
  obtain ⟨cq, kq, qa, qb, qc⟩ := isOf B.2.2.2.2.2.2.2 eT E
  obtain ⟨v, _, ⟨T', L', k', n'⟩, -, X', ⟨Lc, hQ, l', y', z'⟩, st'⟩ := X.virtualBackUp B.1 (x := y) (y := z) B.2.2.2.1 (mvT B.2.2.2.2.2.2.2 w1) (mvT B.2.2.2.2.2.2.2 ws) (mvT B.2.2.2.2.2.2.2 w2) hy (mvT B.2.2.2.2.2.2.2 w3) (mvT B.2.2.2.2.2.2.2 w4) (backOf (W := W) hM B.2.2.2.2.2.2.2 wc wz hf hlo) qa qc (g := mkF m pc Ls (argsL.reverse ++ .ref b :: under)) rfl (by rw [B.2.2.1]; exact hsz) (Steps.refl _) (argsL := argsL) (rest := under) hlen rfl (by show 2 * 0 + _ ≤ _; rw [Nat.mul_zero, Nat.zero_add]; exact Nat.le_of_eq hW) (hb B.2.1 hd) (fun _ _ => ⟨rfl, eT, hce, hsl⟩)
  dsimp only [Pt.U, Pt.locs, Pt.cells, Pt.slots] at X' l' y' z' st' hQ
  subst l' y' z'
  exact Go.on (fun t q => st'.trans q) (k v T' Lc X' hQ)
theorem p_virtualUp (B : Ctx p s m meth c Z own nm bytes maxL ret) (X : Stand p l e R s m args below meth c T locs cells slots) {y z : MethodName} {bs : ByteArray} {mx : Nat} {rt : Option FieldType} {rm : Room} {i W : Nat} {argsL under : List Value} {st : List Value} {C owner : String} {b : Addr} {r : Option Value} (eT : T.heap = h) (w1 : (Jvm.Cond.methodLink own i y).before a0 Z = true) (ws : (Jvm.Cond.sameMethod y.cls owner y.name y.desc).before a0 Z = true) (w2 : (Jvm.Cond.declares ⟨owner, y.name, y.desc⟩).before a0 Z = true) (w3 : (Jvm.Cond.selects C y z).before a0 Z = true) (w4 : (Jvm.Cond.instanceMethod z).before a0 Z = true) (wc : (Jvm.Cond.code z bs mx rt).before a0 Z = true) (wz : (Jvm.Cond.initialized z.cls).before a0 Z = true) (hy : owner ≠ "java/lang/invoke/MethodHandle" ∧ owner ≠ "java/lang/invoke/VarHandle") (hM : OMeets l Z z bs mx rt [] rm (.ref b :: argsL).toArray h (PureQ r h)) (E : Exa Z h b C) (hlen : ∀ sig, parseMethodDescriptor y.desc = some sig → argsL.length = sig.parameters.length) (hst : st = argsL.reverse ++ .ref b :: under) (hW : (under.map fun v => v.category).sum = W) (hf : rm.frames + 1 ≤ R.frames) (hlo : W + (mx + 11) + rm.locals ≤ R.locals) (hce : rm.cells = 0) (hsl : rm.slots = 0) (hc0 : cells ≤ R.cells) (hs0 : slots ≤ R.slots) (hsz : Ls.size = maxL) (hd : decode bytes pc = .ok (.invokevirtual i, 3)) (hp : pc + 3 = pc') (k : ∀ T', Stand p l e R s m args below meth c T' locs cells slots → T'.heap = h → Go p e below P (T'.setTop (mkF m pc' Ls (r.toList ++ under)))) : Go p e below P (T.setTop (mkF m pc Ls st)) := by
  refine c_virtualUp B X eT w1 ws w2 w3 w4 wc wz hy hM E hlen hst hW hf hlo (by omega) (by omega) hsz hd hp ?_
  intro v T' L X' hQ
  obtain ⟨rfl, rfl, e'⟩ := hQ
  rw [hce, hsl, List.append_nil] at X'
  exact k T' X' e'
end Kit
end Jvm.OwnKit

namespace Jvm.OwnKit
open Sem ClassFile Op Lib Jvm.Stand Jvm.Free Jvm.LawKit Jvm.RoadKit
section Heap
variable {p : Program} {l : Launch} {e : Env} {R : Room} {s : State} {m : MethodId} {args : Array Value} {below : List Frame} {meth : Method} {c : Code} {T : State} {locs : List Loc} {cells slots : Nat} {Z : State} {a0 : Array Value} {h h' : Heap} {own nm : String} {bytes : ByteArray} {maxL : Nat} {ret : Option FieldType} {P : Outcome → State → Prop} {pc pc' : Nat} {Ls Ls' : Array Slot} {rest : List Value} {a b : Addr} {k : ClassId} {ty : FieldType} {n i : Nat} {f g : Nat → Value} {v w : Value} {sl : Nat} {ws : List Addr}
/-- an array at a: n places, place i holds f i -/
def Ary (Z : State) (h : Heap) (a : Addr) (k : ClassId) (ty : FieldType) (n : Nat) (f : Nat → Value) : Prop := ∃ c : Cell, Arr Z h a c ty ∧ c.cls = k ∧ c.slots.size = n ∧ n < 2 ^ 31 ∧ ∀ i, i < n → c.slots[i]? = some (f i)
def upd (f : Nat → Value) (j : Nat) (v : Value) : Nat → Value := fun i => if i = j then v else f i
def lst (L : List Value) (d : Value) : Nat → Value := fun i => L.getD i d
theorem Ary.lt (F : Ary Z h a k ty n f) : a < h.size := by obtain ⟨c, A, -⟩ := F; exact A.lt
theorem Ary.ext (E : Ext h h') (F : Ary Z h a k ty n f) : Ary Z h' a k ty n f := by obtain ⟨c, A, r⟩ := F; exact ⟨c, A.ext E, r⟩
theorem Ary.other (W : Wr h h' b sl v) (F : Ary Z h a k ty n f) (q : a ≠ b) : Ary Z h' a k ty n f := by obtain ⟨c, A, r⟩ := F; exact ⟨c, A.other W q, r⟩
theorem Ary.keep (F : Ary Z h a k ty n f) (K : Keep h h' ws) (q : a ∉ ws) : Ary Z h' a k ty n f := by obtain ⟨c, A, r⟩ := F; exact ⟨c, ⟨K.2.1 a c A.1 q, A.2⟩, r⟩
theorem Ary.congr (F : Ary Z h a k ty n f) (q : ∀ i, i < n → f i = g i) : Ary Z h a k ty n g := by obtain ⟨c, A, r1, r2, r3, r4⟩ := F; exact ⟨c, A, r1, r2, r3, fun i hi => by rw [r4 i hi, q i hi]⟩
theorem upd_lst {L : List Value} {d v : Value} {j : Nat} (hj : j < L.length) {L' : List Value} (e : L.set j v = L') : upd (lst L d) j v = lst L' d := by
  subst e; funext i
  simp only [upd, lst, List.getD_eq_getElem?_getD, List.getElem?_set]
  by_cases q : i = j
  · subst q; simp [hj]
  · simp [q, Ne.symm q]
theorem Ary.same {j : Nat} (W : Wr h h' a j v) (F : Ary Z h a k ty n f) : Ary Z h' a k ty n (upd f j v) := by
  obtain ⟨c, A, r1, r2, r3, r4⟩ := F
  obtain ⟨cell, w1, w2, w3, -⟩ := id W
  cases w1.symm.trans A.1
  refine ⟨_, A.same W, r1, by rw [sz_set]; exact r2, r3, fun i hi => ?_⟩
  by_cases q : i = j
  · subst q; simp [Cell.setSlot, upd, w3]
  · simp only [Cell.setSlot, upd, if_neg q]; rw [Array.getElem?_setIfInBounds_ne (Ne.symm q)]; exact r4 i hi
theorem Ary.of_new {x : Int32} {N : Nat} (A : Arr Z h a (newA k ty x) ty) (hx : ¬ x < 0) (hN : x.toNatClampNeg = N) : Ary Z h a k ty N (fun _ => defaultValue ty) := by
  subst hN
  refine ⟨_, A, rfl, sz_new _ _ _, (back32 hx).2, fun i hi => ?_⟩
  simp [newA, hi]
theorem Ary.of_rep (F : Ary Z h a k ty n (fun _ => v)) {L : List Value} (q : ∀ i, i < n → L.getD i v = v) : Ary Z h a k ty n (lst L v) := F.congr fun i hi => (q i hi).symm

theorem Ary.sto {C : String} {y : Addr} (F : Ary Z h a k ty n f) (O : Ovr Z k C) (I : Ins Z h y C true) : Sto Z h a (.ref y) := by obtain ⟨c, A, r, -⟩ := F; exact Sto.of A (r ▸ O) I
theorem Ary.full {L : List Value} {j : Nat} {L' : List Value} (F : Ary Z h a k ty n (upd (lst L w) j v)) (hj : j < L.length) (e : L.set j v = L') : Ary Z h a k ty n (lst L' w) := by rw [← upd_lst (d := w) hj e]; exact F
theorem Ary.stoA {C : String} {y : Addr} {t0 : FieldType} (F : Ary Z h a k ty n f) (O : OvrA Z k t0 C) (I : Ins Z h y C true) : Sto Z h a (.ref y) := by obtain ⟨c, A, r, -⟩ := F; exact Sto.ofVA A r O I
theorem old_le {n0 : Nat} (O : Old Z n0 h) : n0 ≤ h.size := O.1 ▸ O.2.1
theorem s_new (B : Ctx p s m meth c Z own nm bytes maxL ret) (X : Stand p l e R s m args below meth c T locs cells slots) {C : String} {i0 n0 : Nat} (eT : T.heap = h) (w : (Jvm.Cond.classLink own i0 C).before a0 Z = true) (wi : (Jvm.Cond.instantiable C n0).before a0 Z = true) (wz : (Jvm.Cond.initialized C).before a0 Z = true) (hc : cells + 1 ≤ R.cells) (hl : slots + n0 ≤ R.slots) (hd : decode bytes pc = .ok (.new i0, 3)) (hp : pc + 3 = pc') (k : ∀ T' h' a, a = h.size → Stand p l e R s m args below meth c T' locs (cells + 1) (slots + n0) → T'.heap = h' → Ext h h' → Exa Z h' a C → (∀ {O nm d : String} {ty : FieldType}, Laid Z a0 C O nm d → parseFieldDescriptor d = some ty → Fld Z h' a O nm d (defaultValue ty)) → Go p e below P (T'.setTop (mkF m pc' Ls (.ref a :: rest)))) : Go p e below P (T.setTop (mkF m pc Ls (rest))) := by
  subst hp
  obtain ⟨T', h', X', e', E, A, D, -, st⟩ := newO X B.1 B.2.2.2.2.2.2.2 B.2.2.2.1 w wi wz eT (g := mkF m pc Ls rest) rfl (hb B.2.1 hd) hc hl
  exact Go.on st (k T' h' _ rfl X' e' E A D)
theorem s_initO (B : Ctx p s m meth c Z own nm bytes maxL ret) (X : Stand p l e R s m args below meth c T locs cells slots) {i0 W : Nat} {a : Addr} (eT : T.heap = h) (w1 : (Jvm.Cond.methodLink own i0 Lib.objectInit).before a0 Z = true) (w2 : (Jvm.Cond.instanceMethod Lib.objectInit).before a0 Z = true) (w3 : (Jvm.Cond.code Lib.objectInit ⟨#[0xb1]⟩ 1 none).before a0 Z = true) (hW : (rest.map fun v => v.category).sum = W) (hf : 1 ≤ R.frames) (hl : W + 12 ≤ R.locals) (hsz : Ls.size = maxL) (hd : decode bytes pc = .ok (.invokespecial i0, 3)) (hp : pc + 3 = pc') (k : ∀ T', Stand p l e R s m args below meth c T' locs cells slots → T'.heap = h → Go p e below P (T'.setTop (mkF m pc' Ls (rest)))) : Go p e below P (T.setTop (mkF m pc Ls (.ref a :: rest))) := by
  subst hp
  obtain ⟨T', X', e', st⟩ := initO X B.1 B.2.2.2.2.2.2.2 B.2.2.2.1 w1 w2 w3 eT (g := mkF m pc Ls (.ref a :: rest)) rfl (by rw [B.2.2.1]; exact hsz) rfl (hb B.2.1 hd) hf (W := W) (by show 2 * 0 + _ ≤ _; rw [Nat.mul_zero, Nat.zero_add]; exact Nat.le_of_eq hW) hl
  exact Go.on st (k T' X' e')
theorem s_putF (B : Ctx p s m meth c Z own nm bytes maxL ret) (X : Stand p l e R s m args below meth c T locs cells slots) {i0 kk : Nat} {R0 O n d host C : String} {ty : FieldType} {a : Addr} {v old : Value} (eT : T.heap = h) (w : (Jvm.Cond.fieldLink own i0 R0 n d).before a0 Z = true ∨ (Jvm.Cond.fieldLinkNest own i0 R0 n d host).before a0 Z = true) (via : Via Z R0 O n d) (F : Fld Z h a O n d old) (E : Exa Z h a C) (L : (Jvm.Cond.lays C O n d).before a0 Z = true ∨ ((Jvm.Cond.laysFinal C O n d).before a0 Z = true ∧ own = O ∧ nm = "<init>")) (wi : (Jvm.Cond.instantiable C kk).before a0 Z = true) (hty : parseFieldDescriptor d = some ty) (hn : narrow ty v = v) (hf : fits ty v = true) (hd : decode bytes pc = .ok (.putfield i0, 3)) (hp : pc + 3 = pc') (k : ∀ T' h', Stand p l e R s m args below meth c T' (locs ++ [⟨a, Jvm.RoadKit.slotOf Z O n d⟩]) cells slots → T'.heap = h' → Wr h h' a (Jvm.RoadKit.slotOf Z O n d) v → Go p e below P (T'.setTop (mkF m pc' Ls (rest)))) : Go p e below P (T.setTop (mkF m pc Ls (v :: .ref a :: rest))) := by
  subst hp
  obtain ⟨T', h', X', e', W, st⟩ := putF X B.1 B.2.2.2.2.2.2.2 B.2.2.2.1 w via eT F E (L.imp id fun q => ⟨q.1, q.2.1, by rw [B.2.2.2.2.1]; exact q.2.2⟩) wi hty hn hf (g := mkF m pc Ls (v :: .ref a :: rest)) rfl rfl (hb B.2.1 hd)
  exact Go.on st (k T' h' X' e' W)
theorem s_putFN (B : Ctx p s m meth c Z own nm bytes maxL ret) (X : Stand p l e R s m args below meth c T locs cells slots) {i0 kk : Nat} {R0 O n d C : String} {ty : FieldType} {a : Addr} {v v' old : Value} (eT : T.heap = h) (w : (Jvm.Cond.fieldLink own i0 R0 n d).before a0 Z = true) (via : Via Z R0 O n d) (F : Fld Z h a O n d old) (E : Exa Z h a C) (L : (Jvm.Cond.lays C O n d).before a0 Z = true ∨ ((Jvm.Cond.laysFinal C O n d).before a0 Z = true ∧ own = O ∧ nm = "<init>")) (wi : (Jvm.Cond.instantiable C kk).before a0 Z = true) (hty : parseFieldDescriptor d = some ty) (hn : narrow ty v = v') (hf : fits ty v' = true) (hd : decode bytes pc = .ok (.putfield i0, 3)) (hp : pc + 3 = pc') (k : ∀ T' h', Stand p l e R s m args below meth c T' (locs ++ [⟨a, Jvm.RoadKit.slotOf Z O n d⟩]) cells slots → T'.heap = h' → Wr h h' a (Jvm.RoadKit.slotOf Z O n d) v' → Go p e below P (T'.setTop (mkF m pc' Ls (rest)))) : Go p e below P (T.setTop (mkF m pc Ls (v :: .ref a :: rest))) := by
  subst hp
  obtain ⟨T', h', X', e', W, st⟩ := putFN X B.1 B.2.2.2.2.2.2.2 B.2.2.2.1 w via eT F E (L.imp id fun q => ⟨q.1, q.2.1, by rw [B.2.2.2.2.1]; exact q.2.2⟩) wi hty hn hf (g := mkF m pc Ls (v :: .ref a :: rest)) rfl rfl (hb B.2.1 hd)
  exact Go.on st (k T' h' X' e' W)
theorem s_newP (B : Ctx p s m meth c Z own nm bytes maxL ret) (X : Stand p l e R s m args below meth c T locs cells slots) {aty : ArrayType} {x : Int32} {N : Nat} (eT : T.heap = h) (w : (Jvm.Cond.arrayClass (newarray.typeOf aty)).before a0 Z = true) (hn : ¬ x < 0) (hN : x.toNatClampNeg = N) {cap : Nat} (hcap : N ≤ cap) (hb8 : cap * 8 ≤ 536870912) (hc : cells + 1 ≤ R.cells) (hl : slots + cap ≤ R.slots) (hd : decode bytes pc = .ok (.newarray aty, 2)) (hp : pc + 2 = pc') (k : ∀ T' h' a kA, a = h.size → Stand p l e R s m args below meth c T' locs (cells + 1) (slots + cap) → T'.heap = h' → Ext h h' → Ary Z h' a kA (newarray.typeOf aty) N (fun _ => defaultValue (newarray.typeOf aty)) → Go p e below P (T'.setTop (mkF m pc' Ls (.ref a :: rest)))) : Go p e below P (T.setTop (mkF m pc Ls (.int x :: rest))) := by
  subst hp
  obtain ⟨T', h', cA, X', e', E, A, st⟩ := newP X B.1 B.2.2.2.2.2.2.2 w eT (g := mkF m pc Ls (.int x :: rest)) rfl (hb B.2.1 hd) rfl hn (cap := cap) (hN ▸ hcap) hb8 hc hl
  exact Go.on st (k T' h' _ cA rfl X' e' E (Ary.of_new A hn hN))
theorem s_newPE (B : Ctx p s m meth c Z own nm bytes maxL ret) (X : Stand p l e R s m args below meth c T locs cells slots) {aty : ArrayType} {x : Int32} {N : Nat} {ad : String} (eT : T.heap = h) (had : "[" ++ (newarray.typeOf aty).toString = ad) (w : (Jvm.Cond.arrayClass (newarray.typeOf aty)).before a0 Z = true) (hn : ¬ x < 0) (hN : x.toNatClampNeg = N) {cap : Nat} (hcap : N ≤ cap) (hb8 : cap * 8 ≤ 536870912) (hc : cells + 1 ≤ R.cells) (hl : slots + cap ≤ R.slots) (hd : decode bytes pc = .ok (.newarray aty, 2)) (hp : pc + 2 = pc') (k : ∀ T' h' a kA, a = h.size → Stand p l e R s m args below meth c T' locs (cells + 1) (slots + cap) → T'.heap = h' → Ext h h' → Ary Z h' a kA (newarray.typeOf aty) N (fun _ => defaultValue (newarray.typeOf aty)) → Exa Z h' a ad → Go p e below P (T'.setTop (mkF m pc' Ls (.ref a :: rest)))) : Go p e below P (T.setTop (mkF m pc Ls (.int x :: rest))) := by
  subst hp
  obtain ⟨T', h', cA, X', e', E, A, F, st⟩ := newPE X B.1 B.2.2.2.2.2.2.2 w eT (g := mkF m pc Ls (.int x :: rest)) rfl (hb B.2.1 hd) rfl hn (cap := cap) (hN ▸ hcap) hb8 hc hl had
  exact Go.on st (k T' h' _ cA rfl X' e' E (Ary.of_new A hn hN) F)
theorem s_newR (B : Ctx p s m meth c Z own nm bytes maxL ret) (X : Stand p l e R s m args below meth c T locs cells slots) {i0 : Nat} {C : String} {x : Int32} {N : Nat} (eT : T.heap = h) (w1 : (Jvm.Cond.classLink own i0 C).before a0 Z = true) (w2 : (Jvm.Cond.arrayOver (.object C)).before a0 Z = true) (hn : ¬ x < 0) (hN : x.toNatClampNeg = N) {cap : Nat} (hcap : N ≤ cap) (hb8 : cap * 8 ≤ 536870912) (hc : cells + 1 ≤ R.cells) (hl : slots + cap ≤ R.slots) (hd : decode bytes pc = .ok (.anewarray i0, 3)) (hp : pc + 3 = pc') (k : ∀ T' h' a kA, a = h.size → Stand p l e R s m args below meth c T' locs (cells + 1) (slots + cap) → T'.heap = h' → Ext h h' → Ary Z h' a kA (.object C) N (fun _ => .null) → Ovr Z kA C → Go p e below P (T'.setTop (mkF m pc' Ls (.ref a :: rest)))) : Go p e below P (T.setTop (mkF m pc Ls (.int x :: rest))) := by
  subst hp
  obtain ⟨T', h', cA, X', e', E, A, O, st⟩ := newR X B.1 B.2.2.2.2.2.2.2 B.2.2.2.1 w1 w2 eT (g := mkF m pc Ls (.int x :: rest)) rfl (hb B.2.1 hd) rfl hn (cap := cap) (hN ▸ hcap) hb8 hc hl
  exact Go.on st (k T' h' _ cA rfl X' e' E (Ary.of_new A hn hN) O)
theorem s_newRA (B : Ctx p s m meth c Z own nm bytes maxL ret) (X : Stand p l e R s m args below meth c T locs cells slots) {i0 : Nat} {C : String} {ty : FieldType} {x : Int32} {N : Nat} (eT : T.heap = h) (hC : (FieldType.array ty).toString = C) (w1 : (Jvm.Cond.classLink own i0 C).before a0 Z = true) (w2 : (Jvm.Cond.arrayOver (.array ty)).before a0 Z = true) (hn : ¬ x < 0) (hN : x.toNatClampNeg = N) {cap : Nat} (hcap : N ≤ cap) (hb8 : cap * 8 ≤ 536870912) (hc : cells + 1 ≤ R.cells) (hl : slots + cap ≤ R.slots) (hd : decode bytes pc = .ok (.anewarray i0, 3)) (hp : pc + 3 = pc') (k : ∀ T' h' a kA, a = h.size → Stand p l e R s m args below meth c T' locs (cells + 1) (slots + cap) → T'.heap = h' → Ext h h' → Ary Z h' a kA (.array ty) N (fun _ => .null) → OvrA Z kA ty C → Go p e below P (T'.setTop (mkF m pc' Ls (.ref a :: rest)))) : Go p e below P (T.setTop (mkF m pc Ls (.int x :: rest))) := by
  subst hp
  obtain ⟨T', h', cA, X', e', E, A, -, O, st⟩ := newRA X B.1 B.2.2.2.2.2.2.2 B.2.2.2.1 hC w1 w2 eT (g := mkF m pc Ls (.int x :: rest)) rfl (hb B.2.1 hd) rfl hn (cap := cap) (hN ▸ hcap) hb8 hc hl rfl
  exact Go.on st (k T' h' _ cA rfl X' e' E (Ary.of_new A hn hN) O)
theorem s_stI (B : Ctx p s m meth c Z own nm bytes maxL ret) (X : Stand p l e R s m args below meth c T locs cells slots) {a : Addr} {x : Int32} {j : Int32} {jn N : Nat} {f : Nat → Value} {kA : ClassId} (eT : T.heap = h) (A : Ary Z h a kA .int N f) (hj : ¬ j < 0) (hjn : j.toNatClampNeg = jn) (hlt : jn < N) (hd : decode bytes pc = .ok (.iastore, 1)) (hp : pc + 1 = pc') (k : ∀ T' h', Stand p l e R s m args below meth c T' (locs ++ [⟨a, jn⟩]) cells slots → T'.heap = h' → Wr h h' a jn (.int x) → Ary Z h' a kA .int N (upd f jn (.int x)) → Go p e below P (T'.setTop (mkF m pc' Ls (rest)))) : Go p e below P (T.setTop (mkF m pc Ls (.int x :: .int j :: .ref a :: rest))) := by
  subst hp
  subst hjn
  obtain ⟨cl, A1, q1, q2, q3, q4⟩ := id A
  obtain ⟨T', h', X', e', W, st⟩ := stI X B.1 B.2.2.2.2.2.2.2 eT A1 (j := j) (by rw [q2]; intro z; rcases z with z | z; exact hj z; omega) (g := mkF m pc Ls (.int x :: .int j :: .ref a :: rest)) rfl rfl (hb B.2.1 hd)
  exact Go.on st (k T' h' X' e' W (A.same W))
theorem s_stJ (B : Ctx p s m meth c Z own nm bytes maxL ret) (X : Stand p l e R s m args below meth c T locs cells slots) {a : Addr} {x : Int64} {j : Int32} {jn N : Nat} {f : Nat → Value} {kA : ClassId} (eT : T.heap = h) (A : Ary Z h a kA .long N f) (hj : ¬ j < 0) (hjn : j.toNatClampNeg = jn) (hlt : jn < N) (hd : decode bytes pc = .ok (.lastore, 1)) (hp : pc + 1 = pc') (k : ∀ T' h', Stand p l e R s m args below meth c T' (locs ++ [⟨a, jn⟩]) cells slots → T'.heap = h' → Wr h h' a jn (.long x) → Ary Z h' a kA .long N (upd f jn (.long x)) → Go p e below P (T'.setTop (mkF m pc' Ls (rest)))) : Go p e below P (T.setTop (mkF m pc Ls (.long x :: .int j :: .ref a :: rest))) := by
  subst hp
  subst hjn
  obtain ⟨cl, A1, q1, q2, q3, q4⟩ := id A
  obtain ⟨T', h', X', e', W, st⟩ := stJ X B.1 B.2.2.2.2.2.2.2 eT A1 (j := j) (by rw [q2]; intro z; rcases z with z | z; exact hj z; omega) (g := mkF m pc Ls (.long x :: .int j :: .ref a :: rest)) rfl rfl (hb B.2.1 hd)
  exact Go.on st (k T' h' X' e' W (A.same W))
theorem s_stB (B : Ctx p s m meth c Z own nm bytes maxL ret) (X : Stand p l e R s m args below meth c T locs cells slots) {a : Addr} {x : Int32} {j : Int32} {jn N : Nat} {f : Nat → Value} {kA : ClassId} (eT : T.heap = h) (A : Ary Z h a kA .byte N f) (hj : ¬ j < 0) (hjn : j.toNatClampNeg = jn) (hlt : jn < N) (hd : decode bytes pc = .ok (.bastore, 1)) (hp : pc + 1 = pc') (k : ∀ T' h', Stand p l e R s m args below meth c T' (locs ++ [⟨a, jn⟩]) cells slots → T'.heap = h' → Wr h h' a jn (.int (nar .byte x)) → Ary Z h' a kA .byte N (upd f jn (.int (nar .byte x))) → Go p e below P (T'.setTop (mkF m pc' Ls (rest)))) : Go p e below P (T.setTop (mkF m pc Ls (.int x :: .int j :: .ref a :: rest))) := by
  subst hp
  subst hjn
  obtain ⟨cl, A1, q1, q2, q3, q4⟩ := id A
  obtain ⟨T', h', X', e', W, st⟩ := stB X B.1 B.2.2.2.2.2.2.2 eT A1 (j := j) (by rw [q2]; intro z; rcases z with z | z; exact hj z; omega) (g := mkF m pc Ls (.int x :: .int j :: .ref a :: rest)) rfl rfl (hb B.2.1 hd)
  exact Go.on st (k T' h' X' e' W (A.same W))
theorem s_stZ (B : Ctx p s m meth c Z own nm bytes maxL ret) (X : Stand p l e R s m args below meth c T locs cells slots) {a : Addr} {x : Int32} {j : Int32} {jn N : Nat} {f : Nat → Value} {kA : ClassId} (eT : T.heap = h) (A : Ary Z h a kA .boolean N f) (hj : ¬ j < 0) (hjn : j.toNatClampNeg = jn) (hlt : jn < N) (hd : decode bytes pc = .ok (.bastore, 1)) (hp : pc + 1 = pc') (k : ∀ T' h', Stand p l e R s m args below meth c T' (locs ++ [⟨a, jn⟩]) cells slots → T'.heap = h' → Wr h h' a jn (.int (nar .boolean x)) → Ary Z h' a kA .boolean N (upd f jn (.int (nar .boolean x))) → Go p e below P (T'.setTop (mkF m pc' Ls (rest)))) : Go p e below P (T.setTop (mkF m pc Ls (.int x :: .int j :: .ref a :: rest))) := by
  subst hp
  subst hjn
  obtain ⟨cl, A1, q1, q2, q3, q4⟩ := id A
  obtain ⟨T', h', X', e', W, st⟩ := stZ X B.1 B.2.2.2.2.2.2.2 eT A1 (j := j) (by rw [q2]; intro z; rcases z with z | z; exact hj z; omega) (g := mkF m pc Ls (.int x :: .int j :: .ref a :: rest)) rfl rfl (hb B.2.1 hd)
  exact Go.on st (k T' h' X' e' W (A.same W))
theorem s_stC (B : Ctx p s m meth c Z own nm bytes maxL ret) (X : Stand p l e R s m args below meth c T locs cells slots) {a : Addr} {x : Int32} {j : Int32} {jn N : Nat} {f : Nat → Value} {kA : ClassId} (eT : T.heap = h) (A : Ary Z h a kA .char N f) (hj : ¬ j < 0) (hjn : j.toNatClampNeg = jn) (hlt : jn < N) (hd : decode bytes pc = .ok (.castore, 1)) (hp : pc + 1 = pc') (k : ∀ T' h', Stand p l e R s m args below meth c T' (locs ++ [⟨a, jn⟩]) cells slots → T'.heap = h' → Wr h h' a jn (.int (nar .char x)) → Ary Z h' a kA .char N (upd f jn (.int (nar .char x))) → Go p e below P (T'.setTop (mkF m pc' Ls (rest)))) : Go p e below P (T.setTop (mkF m pc Ls (.int x :: .int j :: .ref a :: rest))) := by
  subst hp
  subst hjn
  obtain ⟨cl, A1, q1, q2, q3, q4⟩ := id A
  obtain ⟨T', h', X', e', W, st⟩ := stC X B.1 B.2.2.2.2.2.2.2 eT A1 (j := j) (by rw [q2]; intro z; rcases z with z | z; exact hj z; omega) (g := mkF m pc Ls (.int x :: .int j :: .ref a :: rest)) rfl rfl (hb B.2.1 hd)
  exact Go.on st (k T' h' X' e' W (A.same W))
theorem s_stR (B : Ctx p s m meth c Z own nm bytes maxL ret) (X : Stand p l e R s m args below meth c T locs cells slots) {a : Addr} {v : Value} {ty : FieldType} {j : Int32} {jn N : Nat} {f : Nat → Value} {kA : ClassId} (eT : T.heap = h) (A : Ary Z h a kA ty N f) (hty : ty.isReference = true) (S : Sto Z h a v) (hj : ¬ j < 0) (hjn : j.toNatClampNeg = jn) (hlt : jn < N) (hd : decode bytes pc = .ok (.aastore, 1)) (hp : pc + 1 = pc') (k : ∀ T' h', Stand p l e R s m args below meth c T' (locs ++ [⟨a, jn⟩]) cells slots → T'.heap = h' → Wr h h' a jn v → Ary Z h' a kA ty N (upd f jn v) → Go p e below P (T'.setTop (mkF m pc' Ls (rest)))) : Go p e below P (T.setTop (mkF m pc Ls (v :: .int j :: .ref a :: rest))) := by
  subst hp
  subst hjn
  obtain ⟨cl, A1, q1, q2, q3, q4⟩ := id A
  obtain ⟨T', h', X', e', W, st⟩ := stR X B.1 B.2.2.2.2.2.2.2 eT A1 (j := j) (by rw [q2]; intro z; rcases z with z | z; exact hj z; omega) hty S (g := mkF m pc Ls (v :: .int j :: .ref a :: rest)) rfl rfl (hb B.2.1 hd)
  exact Go.on st (k T' h' X' e' W (A.same W))
theorem s_ldI (B : Ctx p s m meth c Z own nm bytes maxL ret) (X : Stand p l e R s m args below meth c T locs cells slots) {a : Addr} {v : Value} {j : Int32} {jn N : Nat} {f : Nat → Value} {kA : ClassId} (eT : T.heap = h) (A : Ary Z h a kA .int N f) (hj : ¬ j < 0) (hjn : j.toNatClampNeg = jn) (hlt : jn < N) (hv : f jn = v) (hd : decode bytes pc = .ok (.iaload, 1)) (hp : pc + 1 = pc') (k : Go p e below P (T.setTop (mkF m pc' Ls (v :: rest)))) : Go p e below P (T.setTop (mkF m pc Ls (.int j :: .ref a :: rest))) := by
  subst hp hjn hv
  obtain ⟨cl, A1, q1, q2, q3, q4⟩ := A
  exact Go.on (X.iaload B.1 (j := j) (by rw [eT]; exact A1.1) (State.isArrayOf_alike B.2.2.2.2.2.2.2.alike A1.2.1) A1.2.2 (by rw [q2]; intro z; rcases z with z | z; exact hj z; omega) (q4 _ hlt) (g := mkF m pc Ls (.int j :: .ref a :: rest)) rfl rfl (hb B.2.1 hd)) k
theorem s_ldJ (B : Ctx p s m meth c Z own nm bytes maxL ret) (X : Stand p l e R s m args below meth c T locs cells slots) {a : Addr} {v : Value} {j : Int32} {jn N : Nat} {f : Nat → Value} {kA : ClassId} (eT : T.heap = h) (A : Ary Z h a kA .long N f) (hj : ¬ j < 0) (hjn : j.toNatClampNeg = jn) (hlt : jn < N) (hv : f jn = v) (hd : decode bytes pc = .ok (.laload, 1)) (hp : pc + 1 = pc') (k : Go p e below P (T.setTop (mkF m pc' Ls (v :: rest)))) : Go p e below P (T.setTop (mkF m pc Ls (.int j :: .ref a :: rest))) := by
  subst hp hjn hv
  obtain ⟨cl, A1, q1, q2, q3, q4⟩ := A
  exact Go.on (X.laload B.1 (j := j) (by rw [eT]; exact A1.1) (State.isArrayOf_alike B.2.2.2.2.2.2.2.alike A1.2.1) A1.2.2 (by rw [q2]; intro z; rcases z with z | z; exact hj z; omega) (q4 _ hlt) (g := mkF m pc Ls (.int j :: .ref a :: rest)) rfl rfl (hb B.2.1 hd)) k
theorem s_ldB (B : Ctx p s m meth c Z own nm bytes maxL ret) (X : Stand p l e R s m args below meth c T locs cells slots) {a : Addr} {v : Value} {j : Int32} {jn N : Nat} {f : Nat → Value} {kA : ClassId} (eT : T.heap = h) (A : Ary Z h a kA .byte N f) (hj : ¬ j < 0) (hjn : j.toNatClampNeg = jn) (hlt : jn < N) (hv : f jn = v) (hd : decode bytes pc = .ok (.baload, 1)) (hp : pc + 1 = pc') (k : Go p e below P (T.setTop (mkF m pc' Ls (v :: rest)))) : Go p e below P (T.setTop (mkF m pc Ls (.int j :: .ref a :: rest))) := by
  subst hp hjn hv
  obtain ⟨cl, A1, q1, q2, q3, q4⟩ := A
  exact Go.on (X.baloadBytes B.1 (j := j) (by rw [eT]; exact A1.1) (State.isArrayOf_alike B.2.2.2.2.2.2.2.alike A1.2.1) A1.2.2 (by rw [q2]; intro z; rcases z with z | z; exact hj z; omega) (q4 _ hlt) (g := mkF m pc Ls (.int j :: .ref a :: rest)) rfl rfl (hb B.2.1 hd)) k
theorem s_ldZ (B : Ctx p s m meth c Z own nm bytes maxL ret) (X : Stand p l e R s m args below meth c T locs cells slots) {a : Addr} {v : Value} {j : Int32} {jn N : Nat} {f : Nat → Value} {kA : ClassId} (eT : T.heap = h) (A : Ary Z h a kA .boolean N f) (hj : ¬ j < 0) (hjn : j.toNatClampNeg = jn) (hlt : jn < N) (hv : f jn = v) (hd : decode bytes pc = .ok (.baload, 1)) (hp : pc + 1 = pc') (k : Go p e below P (T.setTop (mkF m pc' Ls (v :: rest)))) : Go p e below P (T.setTop (mkF m pc Ls (.int j :: .ref a :: rest))) := by
  subst hp hjn hv
  obtain ⟨cl, A1, q1, q2, q3, q4⟩ := A
  exact Go.on (X.baloadBooleans B.1 (j := j) (by rw [eT]; exact A1.1) (State.isArrayOf_alike B.2.2.2.2.2.2.2.alike A1.2.1) A1.2.2 (by rw [q2]; intro z; rcases z with z | z; exact hj z; omega) (q4 _ hlt) (g := mkF m pc Ls (.int j :: .ref a :: rest)) rfl rfl (hb B.2.1 hd)) k
theorem s_ldC (B : Ctx p s m meth c Z own nm bytes maxL ret) (X : Stand p l e R s m args below meth c T locs cells slots) {a : Addr} {v : Value} {j : Int32} {jn N : Nat} {f : Nat → Value} {kA : ClassId} (eT : T.heap = h) (A : Ary Z h a kA .char N f) (hj : ¬ j < 0) (hjn : j.toNatClampNeg = jn) (hlt : jn < N) (hv : f jn = v) (hd : decode bytes pc = .ok (.caload, 1)) (hp : pc + 1 = pc') (k : Go p e below P (T.setTop (mkF m pc' Ls (v :: rest)))) : Go p e below P (T.setTop (mkF m pc Ls (.int j :: .ref a :: rest))) := by
  subst hp hjn hv
  obtain ⟨cl, A1, q1, q2, q3, q4⟩ := A
  exact Go.on (X.caload B.1 (j := j) (by rw [eT]; exact A1.1) (State.isArrayOf_alike B.2.2.2.2.2.2.2.alike A1.2.1) A1.2.2 (by rw [q2]; intro z; rcases z with z | z; exact hj z; omega) (q4 _ hlt) (g := mkF m pc Ls (.int j :: .ref a :: rest)) rfl rfl (hb B.2.1 hd)) k
theorem s_ldR (B : Ctx p s m meth c Z own nm bytes maxL ret) (X : Stand p l e R s m args below meth c T locs cells slots) {a : Addr} {v : Value} {ty : FieldType} {j : Int32} {jn N : Nat} {f : Nat → Value} {kA : ClassId} (eT : T.heap = h) (A : Ary Z h a kA ty N f) (hty : ty.isReference = true) (hj : ¬ j < 0) (hjn : j.toNatClampNeg = jn) (hlt : jn < N) (hv : f jn = v) (hd : decode bytes pc = .ok (.aaload, 1)) (hp : pc + 1 = pc') (k : Go p e below P (T.setTop (mkF m pc' Ls (v :: rest)))) : Go p e below P (T.setTop (mkF m pc Ls (.int j :: .ref a :: rest))) := by
  subst hp hjn hv
  obtain ⟨cl, A1, q1, q2, q3, q4⟩ := A
  exact Go.on (X.aaload B.1 (j := j) (by rw [eT]; exact A1.1) (State.isArrayOf_alike B.2.2.2.2.2.2.2.alike A1.2.1) hty A1.2.2 (by rw [q2]; intro z; rcases z with z | z; exact hj z; omega) (q4 _ hlt) (g := mkF m pc Ls (.int j :: .ref a :: rest)) rfl rfl (hb B.2.1 hd)) k
theorem s_len (B : Ctx p s m meth c Z own nm bytes maxL ret) (X : Stand p l e R s m args below meth c T locs cells slots) {a : Addr} {v : Int32} {ty : FieldType} {N : Nat} {f : Nat → Value} {kA : ClassId} (eT : T.heap = h) (A : Ary Z h a kA ty N f) (hv : N.toInt32 = v) (hd : decode bytes pc = .ok (.arraylength, 1)) (hp : pc + 1 = pc') (k : Go p e below P (T.setTop (mkF m pc' Ls (.int v :: rest)))) : Go p e below P (T.setTop (mkF m pc Ls (.ref a :: rest))) := by
  subst hp hv
  obtain ⟨cl, A1, q1, q2, q3, q4⟩ := A
  subst q2
  exact Go.on (X.arraylength B.1 (by rw [eT]; exact A1.1) (State.isArrayOf_alike B.2.2.2.2.2.2.2.alike A1.2.1) (g := mkF m pc Ls (.ref a :: rest)) rfl rfl (hb B.2.1 hd)) k
theorem s_castY (B : Ctx p s m meth c Z own nm bytes maxL ret) (X : Stand p l e R s m args below meth c T locs cells slots) {i0 : Nat} {K : String} {a : Addr} (eT : T.heap = h) (w : (Jvm.Cond.classLink own i0 K).before a0 Z = true) (F : Ins Z h a K true) (hd : decode bytes pc = .ok (.checkcast i0, 3)) (hp : pc + 3 = pc') (k : ∀ T', Stand p l e R s m args below meth c T' locs cells slots → T'.heap = h → Go p e below P (T'.setTop (mkF m pc' Ls (.ref a :: rest)))) : Go p e below P (T.setTop (mkF m pc Ls (.ref a :: rest))) := by
  subst hp
  obtain ⟨T', X', e', st⟩ := castY X B.1 B.2.2.2.2.2.2.2 B.2.2.2.1 w eT F (g := mkF m pc Ls (.ref a :: rest)) rfl rfl (hb B.2.1 hd)
  exact Go.on st (k T' X' e')
theorem s_instY (B : Ctx p s m meth c Z own nm bytes maxL ret) (X : Stand p l e R s m args below meth c T locs cells slots) {i0 : Nat} {K : String} {a : Addr} (eT : T.heap = h) (w : (Jvm.Cond.classLink own i0 K).before a0 Z = true) (F : Ins Z h a K true) (hd : decode bytes pc = .ok (.instanceof i0, 3)) (hp : pc + 3 = pc') (k : ∀ T', Stand p l e R s m args below meth c T' locs cells slots → T'.heap = h → Go p e below P (T'.setTop (mkF m pc' Ls (.int 1 :: rest)))) : Go p e below P (T.setTop (mkF m pc Ls (.ref a :: rest))) := by
  subst hp
  obtain ⟨T', X', e', st⟩ := instY X B.1 B.2.2.2.2.2.2.2 B.2.2.2.1 w eT F (g := mkF m pc Ls (.ref a :: rest)) rfl rfl (hb B.2.1 hd)
  exact Go.on st (k T' X' e')
theorem s_tswIn (B : Ctx p s m meth c Z own nm bytes maxL ret) (X : Stand p l e R s m args below meth c T locs cells slots) {df lo hi : Int} {offs : Array Int} {len : Nat} {o : Int} {x : Int32} (hd : decode bytes pc = .ok (.tableswitch df lo hi offs, len)) (hin : ¬ (x.toInt < lo ∨ x.toInt > hi)) (hoff : offs[(x.toInt - lo).toNat]? = some o) (ho : 0 ≤ (pc : Int) + o) (hp : ((pc : Int) + o).toNat = pc') (k : Go p e below P (T.setTop (mkF m pc' Ls (rest)))) : Go p e below P (T.setTop (mkF m pc Ls (.int x :: rest))) := Go.on (fun t => XS.tswIn (g := mkF m pc Ls (.int x :: rest)) X.here B.1 rfl (pc0 := pc) rfl (hb B.2.1 hd) (i := x) (rest := rest) rfl hin hoff ho hp) k
theorem s_tswOut (B : Ctx p s m meth c Z own nm bytes maxL ret) (X : Stand p l e R s m args below meth c T locs cells slots) {df lo hi : Int} {offs : Array Int} {len : Nat} {x : Int32} (hd : decode bytes pc = .ok (.tableswitch df lo hi offs, len)) (hout : x.toInt < lo ∨ x.toInt > hi) (ho : 0 ≤ (pc : Int) + df) (hp : ((pc : Int) + df).toNat = pc') (k : Go p e below P (T.setTop (mkF m pc' Ls (rest)))) : Go p e below P (T.setTop (mkF m pc Ls (.int x :: rest))) := Go.on (fun t => XS.tswOut (g := mkF m pc Ls (.int x :: rest)) X.here B.1 rfl (pc0 := pc) rfl (hb B.2.1 hd) (i := x) (rest := rest) rfl hout ho hp) k
end Heap
end Jvm.OwnKit

namespace Jvm.OwnKit
open Sem ClassFile Op Lib Jvm.Stand Jvm.Free Jvm.LawKit Jvm.RoadKit
section Start
variable {args : Array Value} {s : State} {t u : Term}
theorem eqI_v {k : Int32} (h : (Jvm.Cond.eq t (.int k)).value args s none s [] = some true) : t.eval args s none [] s = some (.int k) := by
  cases ht : t.eval args s none [] s with
  | none => simp [Cond.value, ht] at h
  | some x => cases x <;> simp [Cond.value, ht, Term.eval] at h ⊢; exact h
theorem eqJ_v {k : Int64} (h : (Jvm.Cond.eq t (.long k)).value args s none s [] = some true) : t.eval args s none [] s = some (.long k) := by
  cases ht : t.eval args s none [] s with
  | none => simp [Cond.value, ht] at h
  | some x => cases x <;> simp [Cond.value, ht, Term.eval] at h ⊢; exact h
theorem eqR_v {a : Addr} (hu : u.eval args s none [] s = some (.ref a)) (h : (Jvm.Cond.eq t u).value args s none s [] = some true) : t.eval args s none [] s = some (.ref a) := by
  cases ht : t.eval args s none [] s with
  | none => simp [Cond.value, ht] at h
  | some x => cases x <;> simp [Cond.value, ht, hu] at h ⊢; exact h
end Start
end Jvm.OwnKit

namespace Jvm.OwnKit
open Sem ClassFile Op Lib Jvm.Stand Jvm.Free Jvm.LawKit Jvm.RoadKit
section Tab
variable {args : Array Value} {s : State} {t : Term} {a : Addr} {c : Cell} {ty : FieldType} {i n : Nat} {C : Jvm.Cond}
theorem tab_len {N : Int32} (ht : t.eval args s none [] s = some (.ref a)) (A : Arr s s.heap a c ty) (h : (Jvm.Cond.eq (.length t) (.int N)).value args s none s [] = some true) (hn : N.toNatClampNeg = n) : c.slots.size = n ∧ n < 2 ^ 31 := by
  have e := eqI_v h
  have hat := A.fin (Vm.Alike.refl s.vm)
  simp only [Term.eval, ht, Option.bind_eq_bind, Option.bind_some, hat] at e
  split at e
  · rename_i q
    have e2 : c.slots.size.toInt32 = N := by simpa using e
    have e3 := len_toInt q
    rw [e2] at e3
    have e4 : N.toNatClampNeg = c.slots.size := by simp only [Int32.toNatClampNeg]; rw [e3]; rfl
    rw [hn] at e4
    exact ⟨e4.symm, e4 ▸ q⟩
  · cases e
theorem tab_all (ht : t.eval args s none [] s = some (.ref a)) (A : Arr s s.heap a c ty) (h : (Jvm.Cond.all t C).value args s none s [] = some true) (hi : i < c.slots.size) : C.value args s none s [i] = some true := Cond.all_elim ht (A.fin (Vm.Alike.refl _)) h i hi
theorem tab_or {D : Jvm.Cond} (h : (Jvm.Cond.or C D).value args s none s [i] = some true) (hc : C.value args s none s [i] = some false) : D.value args s none s [i] = some true := by
  simp only [Cond.value, hc] at h; exact h
theorem tab_lo {k : Int32} (hi : i < 2 ^ 31) (q : k.toInt ≤ i) : (Jvm.Cond.lt (.index 0) (.int k)).value args s none s [i] = some false := by
  have e := len_toInt hi
  simp only [Cond.value, Term.index_eval, Term.int_eval]
  exact congrArg some (decide_eq_false fun z => by rw [Int32.lt_iff_toInt_lt, e] at z; omega)
theorem tab_hi {k : Int32} (hi : i < 2 ^ 31) (q : i < k.toInt) : (Jvm.Cond.le (.int k) (.index 0)).value args s none s [i] = some false := by
  have e := len_toInt hi
  simp only [Cond.value, Term.index_eval, Term.int_eval]
  exact congrArg some (decide_eq_false fun z => by rw [Int32.le_iff_toInt_le, e] at z; omega)
theorem tab_el {v : Value} {j : Term} (ht : t.eval args s none [i] s = some (.ref a)) (A : Arr s s.heap a c ty) (hi : i < 2 ^ 31) (h : (Term.elem t (.index 0)).eval args s none [i] s = some v) : c.slots[i]? = some v := by
  have e := (elem_in h ht (Term.index_eval i) A.1).2
  have e3 := len_toInt hi
  rwa [show i.toInt32.toNatClampNeg = i by simp only [Int32.toNatClampNeg]; rw [e3]; rfl] at e
theorem tab_at {v : Value} {k : Int32} (ht : t.eval args s none [] s = some (.ref a)) (A : Arr s s.heap a c ty) (h : (Term.elem t (.int k)).eval args s none [] s = some v) (hk : k.toNatClampNeg = i) : c.slots[i]? = some v := by
  have e := (elem_in h ht rfl A.1).2
  rwa [hk] at e
theorem eqI_i {k : Int32} {t : Term} (h : (Jvm.Cond.eq t (.int k)).value args s none s [i] = some true) : t.eval args s none [i] s = some (.int k) := by
  cases ht : t.eval args s none [i] s with
  | none => simp [Cond.value, ht] at h
  | some x => cases x <;> simp [Cond.value, ht, Term.eval] at h ⊢; exact h
theorem tab_nat (hi : i < 2 ^ 31) : i.toInt32.toNatClampNeg = i := by
  have e3 := len_toInt hi
  simp only [Int32.toNatClampNeg]; rw [e3]; rfl
theorem tab_sub {t : Term} {k : Int32} (h : (Jvm.Cond.eq t (.sub (.index 0) (.int k))).value args s none s [i] = some true) : ∃ z, t.eval args s none [i] s = some (.int z) ∧ z = i.toInt32 - k := by
  cases ht : t.eval args s none [i] s with
  | none => simp [Cond.value, ht] at h
  | some x => cases x <;> simp [Cond.value, ht, Term.eval] at h ⊢; exact h
theorem tab_lng {t : Term} (h : (Jvm.Cond.eq (.op1 .i2l t) (.op2 .ladd (.op1 .i2l (.index 0)) (.long 4))).value args s none s [i] = some true) : ∃ z, t.eval args s none [i] s = some (.int z) ∧ z.toInt64 = i.toInt32.toInt64 + 4 := by
  cases ht : t.eval args s none [i] s with
  | none => simp [Cond.value, ht, Term.eval] at h
  | some x => cases x <;> simp [Cond.value, ht, Term.eval, Unary.apply, Binary.apply] at h ⊢; exact h
theorem tab_neg {z k : Int32} {n : Int} {P : Prop} (hi : i < 2 ^ 31) (e : z = i.toInt32 - k) (hk : k.toInt = n) (h : 0 ≤ (i : Int) - n ∧ 0 ≤ n) (hP : P) : z = -1 ↔ ¬ P := by
  have e3 := len_toInt hi; have e4 := c_isub i.toInt32 k; have r := rng32 (i.toInt32 - k); have m : (-1 : Int32).toInt = -1 := by decide
  constructor
  · intro q; rw [q] at e; rw [← e, m, e3, hk] at e4; omega
  · intro q; exact absurd hP q
theorem tab_neg4 {z : Int32} {P : Prop} (hi : i < 2 ^ 31) (e : z.toInt64 = i.toInt32.toInt64 + 4) (hP : P) : z = -1 ↔ ¬ P := by
  have e3 := len_toInt hi; have e4 := c_ladd i.toInt32.toInt64 4; have m : (-1 : Int32).toInt64.toInt = -1 := by decide
  have m4 : (4 : Int64).toInt = 4 := by decide
  constructor
  · intro q; rw [q] at e; rw [← e, m, c_i2l, e3, m4] at e4; omega
  · intro q; exact absurd hP q
end Tab
end Jvm.OwnKit

namespace Jvm.OwnKit
open Sem ClassFile Op Lib Jvm.Stand Jvm.Free Jvm.LawKit Jvm.RoadKit
section Links
variable {p : Program} {l : Launch} {e : Env} {R : Room} {s : State} {m : MethodId} {args : Array Value} {below : List Frame} {meth : Method} {c : Code} {T : State} {locs : List Loc} {cells slots : Nat} {Z : State} {a0 : Array Value} {h h' : Heap} {own nm : String} {bytes : ByteArray} {maxL : Nat} {ret : Option FieldType} {P : Outcome → State → Prop} {pc pc' : Nat} {Ls Ls' : Array Slot} {rest : List Value}

theorem dupX2_ {tb : Tables} [Ours tb] {e : Env} {below : List Frame} {T target : State} {m : MethodId} {c : Code} {g : JFrame} (h : At T m c below) (hx : tb.exec = Jvm.exec) (hg : g.method = m) {x y z : Value} {rest : List Value} (hd : decode c.code g.pc = .ok (.dup_x2, 1)) (hs : g.stack = x :: y :: z :: rest) (hc : x.category = 1) (hc' : y.category = 1) (hc'' : z.category = 1)
    (hr : Steps tb e below (T.setTop { g with pc := g.pc + 1, stack := x :: y :: z :: x :: rest }) target) : Steps tb e below (T.setTop g) target := by
  subst hg
  jvm_step h [h.top, hx, hd, hs, hc, hc', hc'']
  exact hr
theorem s_dup_x2 (B : Ctx p s m meth c Z own nm bytes maxL ret) (X : Stand p l e R s m args below meth c T locs cells slots) {x y z : Value} (hd : decode bytes pc = .ok (.dup_x2, 1)) (hc : x.category = 1) (hc2 : y.category = 1) (hc3 : z.category = 1) (hp : pc + 1 = pc') (k : Go p e below P (T.setTop (mkF m pc' Ls (x :: y :: z :: x :: rest)))) : Go p e below P (T.setTop (mkF m pc Ls (x :: y :: z :: rest))) := by
  subst hp; exact Go.on (fun t => dupX2_ X.here B.1 rfl (hb B.2.1 hd) rfl hc hc2 hc3) k
theorem c_private (B : Ctx p s m meth c Z own nm bytes maxL ret) (X : Stand p l e R s m args below meth c T locs cells slots) {y : MethodName} {bs : ByteArray} {mx : Nat} {rt : Option FieldType} {rm : Room} {i W : Nat} {argsL under : List Value} {Q : Option Value → Heap → List Loc → Prop} {st : List Value} {n0 : Nat} {b : Addr} (eT : T.heap = h) (w1 : (Jvm.Cond.methodLink own i y).before a0 Z = true) (wi : (Jvm.Cond.instantiable y.cls n0).before a0 Z = true) (wp : (Jvm.Cond.privateMethod y).before a0 Z = true) (w4 : (Jvm.Cond.instanceMethod y).before a0 Z = true) (wc : (Jvm.Cond.code y bs mx rt).before a0 Z = true) (wz : (Jvm.Cond.initialized y.cls).before a0 Z = true) (hy : y.cls ≠ "java/lang/invoke/MethodHandle" ∧ y.cls ≠ "java/lang/invoke/VarHandle") (hM : OMeets l Z y bs mx rt [] rm (.ref b :: argsL).toArray h Q) (E : Exa Z h b y.cls) (hlen : ∀ sig, parseMethodDescriptor y.desc = some sig → argsL.length = sig.parameters.length) (hst : st = argsL.reverse ++ .ref b :: under) (hW : (under.map fun v => v.category).sum = W) (hf : rm.frames + 1 ≤ R.frames) (hlo : W + (mx + 11) + rm.locals ≤ R.locals) (hce : cells + rm.cells ≤ R.cells) (hsl : slots + rm.slots ≤ R.slots) (hsz : Ls.size = maxL) (hd : decode bytes pc = .ok (.invokevirtual i, 3)) (hp : pc + 3 = pc') (k : ∀ v T' L, Stand p l e R s m args below meth c T' (locs ++ L) (cells + rm.cells) (slots + rm.slots) → Q v T'.heap L → Go p e below P (T'.setTop (mkF m pc' Ls (v.toList ++ under)))) : Go p e below P (T.setTop (mkF m pc Ls st)) := by
  subst hp hst
  obtain ⟨cq, qa, qc⟩ := E.cell
  obtain ⟨ci, ki, i1, i2, -, i4, -, -⟩ := Cond.instantiable_spec (mvT (args := args) B.2.2.2.2.2.2.2 wi)
  have hni : ki.isInterface = false := by
    cases hi : ki.isInterface
    · rfl
    · simp [hi] at i4
  have hpr := Cond.privateMethod_at (mvP (args := args) B.2.2.2.2.2.2.2 wp)
  obtain ⟨v, _, ⟨T', L', k', n'⟩, -, X', ⟨Lc, hQ, l', y', z'⟩, st'⟩ := X.privateBack B.1 (y := y) B.2.2.2.1 (mvT B.2.2.2.2.2.2.2 w1) (mvT B.2.2.2.2.2.2.2 w4) (selects_self_of_private i1 i2 hni hpr (mvT B.2.2.2.2.2.2.2 w4) hy) hpr (mvT B.2.2.2.2.2.2.2 wc) hy (backOf (W := W) hM B.2.2.2.2.2.2.2 wc wz hf hlo) (g := mkF m pc Ls (argsL.reverse ++ .ref b :: under)) rfl (by rw [B.2.2.1]; exact hsz) (Steps.refl _) (by rw [eT]; exact qa) qc (argsL := argsL) (rest := under) hlen rfl (by show 2 * 0 + _ ≤ _; rw [Nat.mul_zero, Nat.zero_add]; exact Nat.le_of_eq hW) (hb B.2.1 hd) (fun _ _ => ⟨rfl, eT, hce, hsl⟩)
  dsimp only [Pt.U, Pt.locs, Pt.cells, Pt.slots] at X' l' y' z' st' hQ
  subst l' y' z'
  exact Go.on (fun t q => st'.trans q) (k v T' Lc X' hQ)
theorem p_private (B : Ctx p s m meth c Z own nm bytes maxL ret) (X : Stand p l e R s m args below meth c T locs cells slots) {y : MethodName} {bs : ByteArray} {mx : Nat} {rt : Option FieldType} {rm : Room} {i W : Nat} {argsL under : List Value} {st : List Value} {n0 : Nat} {b : Addr} {r : Option Value} (eT : T.heap = h) (w1 : (Jvm.Cond.methodLink own i y).before a0 Z = true) (wi : (Jvm.Cond.instantiable y.cls n0).before a0 Z = true) (wp : (Jvm.Cond.privateMethod y).before a0 Z = true) (w4 : (Jvm.Cond.instanceMethod y).before a0 Z = true) (wc : (Jvm.Cond.code y bs mx rt).before a0 Z = true) (wz : (Jvm.Cond.initialized y.cls).before a0 Z = true) (hy : y.cls ≠ "java/lang/invoke/MethodHandle" ∧ y.cls ≠ "java/lang/invoke/VarHandle") (hM : OMeets l Z y bs mx rt [] rm (.ref b :: argsL).toArray h (PureQ r h)) (E : Exa Z h b y.cls) (hlen : ∀ sig, parseMethodDescriptor y.desc = some sig → argsL.length = sig.parameters.length) (hst : st = argsL.reverse ++ .ref b :: under) (hW : (under.map fun v => v.category).sum = W) (hf : rm.frames + 1 ≤ R.frames) (hlo : W + (mx + 11) + rm.locals ≤ R.locals) (hce : rm.cells = 0) (hsl : rm.slots = 0) (hc0 : cells ≤ R.cells) (hs0 : slots ≤ R.slots) (hsz : Ls.size = maxL) (hd : decode bytes pc = .ok (.invokevirtual i, 3)) (hp : pc + 3 = pc') (k : ∀ T', Stand p l e R s m args below meth c T' locs cells slots → T'.heap = h → Go p e below P (T'.setTop (mkF m pc' Ls (r.toList ++ under)))) : Go p e below P (T.setTop (mkF m pc Ls st)) := by
  refine c_private B X eT w1 wi wp w4 wc wz hy hM E hlen hst hW hf hlo (by omega) (by omega) hsz hd hp ?_
  intro v T' L X' hQ
  obtain ⟨rfl, rfl, e'⟩ := hQ
  rw [hce, hsl, List.append_nil] at X'
  exact k T' X' e'
theorem c_iface (B : Ctx p s m meth c Z own nm bytes maxL ret) (X : Stand p l e R s m args below meth c T locs cells slots) {y z : MethodName} {bs : ByteArray} {mx : Nat} {rt : Option FieldType} {rm : Room} {i W : Nat} {argsL under : List Value} {Q : Option Value → Heap → List Loc → Prop} {st : List Value} {C : String} {cnt : Nat} {b : Addr} (eT : T.heap = h) (w1 : (Jvm.Cond.methodLink own i y).before a0 Z = true) (w2 : (Jvm.Cond.declares y).before a0 Z = true) (w3 : (Jvm.Cond.interfaceMethod y.cls y.cls y.name y.desc).before a0 Z = true) (w4 : (Jvm.Cond.selects C y z).before a0 Z = true) (w5 : (Jvm.Cond.instanceMethod z).before a0 Z = true) (w6 : (Jvm.Cond.publicMethod z).before a0 Z = true) (w7 : (Jvm.Cond.unhidden C y.name y.desc).before a0 Z = true) (w8 : (Jvm.Cond.castable C y.cls).before a0 Z = true) (wc : (Jvm.Cond.code z bs mx rt).before a0 Z = true) (wz : (Jvm.Cond.initialized z.cls).before a0 Z = true) (hy : y.cls ≠ "java/lang/invoke/MethodHandle" ∧ y.cls ≠ "java/lang/invoke/VarHandle") (hM : OMeets l Z z bs mx rt [] rm (.ref b :: argsL).toArray h Q) (E : Exa Z h b C) (hlen : ∀ sig, parseMethodDescriptor y.desc = some sig → argsL.length = sig.parameters.length) (hst : st = argsL.reverse ++ .ref b :: under) (hW : (under.map fun v => v.category).sum = W) (hf : rm.frames + 1 ≤ R.frames) (hlo : W + (mx + 11) + rm.locals ≤ R.locals) (hce : cells + rm.cells ≤ R.cells) (hsl : slots + rm.slots ≤ R.slots) (hsz : Ls.size = maxL) (hd : decode bytes pc = .ok (.invokeinterface i cnt, 5)) (hp : pc + 5 = pc') (k : ∀ v T' L, Stand p l e R s m args below meth c T' (locs ++ L) (cells + rm.cells) (slots + rm.slots) → Q v T'.heap L → Go p e below P (T'.setTop (mkF m pc' Ls (v.toList ++ under)))) : Go p e below P (T.setTop (mkF m pc Ls st)) := by
  subst hp hst
  obtain ⟨cq, kq, qa, qb, qc⟩ := isOf B.2.2.2.2.2.2.2 eT E
  obtain ⟨v, _, ⟨T', L', k', n'⟩, -, X', ⟨Lc, hQ, l', y', z'⟩, st'⟩ := X.interfaceBack B.1 (xi := y) (y := z) B.2.2.2.1 (mvT B.2.2.2.2.2.2.2 w1) (mvT B.2.2.2.2.2.2.2 w2) (mvT B.2.2.2.2.2.2.2 w3 (by simp [Cond.onTables, Cond.keepsFace, Cond.keeps, Cond.steady, Cond.faceAtom, hy.1, hy.2])) (mvT B.2.2.2.2.2.2.2 w4) (mvT B.2.2.2.2.2.2.2 w5) (mvT B.2.2.2.2.2.2.2 w6) (mvT B.2.2.2.2.2.2.2 w7) (mvT B.2.2.2.2.2.2.2 w8) hy (backOf (W := W) hM B.2.2.2.2.2.2.2 wc wz hf hlo) qa qb qc (g := mkF m pc Ls (argsL.reverse ++ .ref b :: under)) rfl (by rw [B.2.2.1]; exact hsz) (Steps.refl _) (argsL := argsL) (rest := under) hlen rfl (by show 2 * 0 + _ ≤ _; rw [Nat.mul_zero, Nat.zero_add]; exact Nat.le_of_eq hW) (hb B.2.1 hd) (fun _ _ => ⟨rfl, eT, hce, hsl⟩)
  dsimp only [Pt.U, Pt.locs, Pt.cells, Pt.slots] at X' l' y' z' st' hQ
  subst l' y' z'
  exact Go.on (fun t q => st'.trans q) (k v T' Lc X' hQ)
theorem p_iface (B : Ctx p s m meth c Z own nm bytes maxL ret) (X : Stand p l e R s m args below meth c T locs cells slots) {y z : MethodName} {bs : ByteArray} {mx : Nat} {rt : Option FieldType} {rm : Room} {i W : Nat} {argsL under : List Value} {st : List Value} {C : String} {cnt : Nat} {b : Addr} {r : Option Value} (eT : T.heap = h) (w1 : (Jvm.Cond.methodLink own i y).before a0 Z = true) (w2 : (Jvm.Cond.declares y).before a0 Z = true) (w3 : (Jvm.Cond.interfaceMethod y.cls y.cls y.name y.desc).before a0 Z = true) (w4 : (Jvm.Cond.selects C y z).before a0 Z = true) (w5 : (Jvm.Cond.instanceMethod z).before a0 Z = true) (w6 : (Jvm.Cond.publicMethod z).before a0 Z = true) (w7 : (Jvm.Cond.unhidden C y.name y.desc).before a0 Z = true) (w8 : (Jvm.Cond.castable C y.cls).before a0 Z = true) (wc : (Jvm.Cond.code z bs mx rt).before a0 Z = true) (wz : (Jvm.Cond.initialized z.cls).before a0 Z = true) (hy : y.cls ≠ "java/lang/invoke/MethodHandle" ∧ y.cls ≠ "java/lang/invoke/VarHandle") (hM : OMeets l Z z bs mx rt [] rm (.ref b :: argsL).toArray h (PureQ r h)) (E : Exa Z h b C) (hlen : ∀ sig, parseMethodDescriptor y.desc = some sig → argsL.length = sig.parameters.length) (hst : st = argsL.reverse ++ .ref b :: under) (hW : (under.map fun v => v.category).sum = W) (hf : rm.frames + 1 ≤ R.frames) (hlo : W + (mx + 11) + rm.locals ≤ R.locals) (hce : rm.cells = 0) (hsl : rm.slots = 0) (hc0 : cells ≤ R.cells) (hs0 : slots ≤ R.slots) (hsz : Ls.size = maxL) (hd : decode bytes pc = .ok (.invokeinterface i cnt, 5)) (hp : pc + 5 = pc') (k : ∀ T', Stand p l e R s m args below meth c T' locs cells slots → T'.heap = h → Go p e below P (T'.setTop (mkF m pc' Ls (r.toList ++ under)))) : Go p e below P (T.setTop (mkF m pc Ls st)) := by
  refine c_iface B X eT w1 w2 w3 w4 w5 w6 w7 w8 wc wz hy hM E hlen hst hW hf hlo (by omega) (by omega) hsz hd hp ?_
  intro v T' L X' hQ
  obtain ⟨rfl, rfl, e'⟩ := hQ
  rw [hce, hsl, List.append_nil] at X'
  exact k T' X' e'
def IN (Z : State) (h : Heap) (a : Addr) (N : Nat) (f : Nat → Nat) : Prop := ∃ k, Ary Z h a k .int N (fun i => .int (Int32.ofNat (f i)))
def updN (f : Nat → Nat) (j x : Nat) : Nat → Nat := fun i => if i = j then x else f i
theorem updN_same {f : Nat → Nat} {j x : Nat} : updN f j x j = x := if_pos rfl
theorem updN_ne {f : Nat → Nat} {i j x : Nat} (q : i ≠ j) : updN f j x i = f i := if_neg q
theorem IN.lt {a : Addr} {N : Nat} {f : Nat → Nat} (F : IN Z h a N f) : a < h.size := by obtain ⟨k, A⟩ := F; exact A.lt
theorem IN.keep {a : Addr} {N : Nat} {f : Nat → Nat} {ws : List Addr} (F : IN Z h a N f) (K : Keep h h' ws) (q : a ∉ ws) : IN Z h' a N f := by obtain ⟨k, A⟩ := F; exact ⟨k, A.keep K q⟩
theorem IN.congr {a : Addr} {N : Nat} {f g : Nat → Nat} (F : IN Z h a N f) (q : ∀ i, i < N → f i = g i) : IN Z h a N g := by obtain ⟨k, A⟩ := F; exact ⟨k, A.congr fun i hi => by rw [q i hi]⟩
theorem IN.same {a : Addr} {N j x : Nat} {f : Nat → Nat} (W : Wr h h' a j (.int (Int32.ofNat x))) (F : IN Z h a N f) : IN Z h' a N (updN f j x) := by
  obtain ⟨k, A⟩ := F
  exact ⟨k, (A.same W).congr fun i _ => by by_cases q : i = j <;> simp [upd, updN, q]⟩
theorem osm {x : Nat} (hx : x < 64) : ¬ Int32.ofNat x < 0 ∧ (Int32.ofNat x).toNatClampNeg = x := (by decide +kernel : ∀ x : Fin 64, ¬ Int32.ofNat x.1 < 0 ∧ (Int32.ofNat x.1).toNatClampNeg = x.1) ⟨x, hx⟩
theorem sm_inj {x y : Nat} (hx : x < 64) (hy : y < 64) (q : Int32.ofNat x = Int32.ofNat y) : x = y := by rw [← (osm hx).2, q, (osm hy).2]
theorem sm_succ {x : Nat} (hx : x < 64) : Int32.ofNat x + 1 = Int32.ofNat (x + 1) := (by decide +kernel : ∀ x : Fin 64, Int32.ofNat x.1 + 1 = Int32.ofNat (x.1 + 1)) ⟨x, hx⟩
theorem sm_inc {x : Nat} (hx : x < 64) : Int32.ofNat x + Int32.ofInt 1 = Int32.ofNat (x + 1) := (by decide +kernel : ∀ x : Fin 64, Int32.ofNat x.1 + Int32.ofInt 1 = Int32.ofNat (x.1 + 1)) ⟨x, hx⟩
theorem sm_add {x y : Nat} (hx : x < 40) (hy : y < 40) : Int32.ofNat x + Int32.ofNat y = Int32.ofNat (x + y) := (by decide +kernel : ∀ x y : Fin 40, Int32.ofNat x.1 + Int32.ofNat y.1 = Int32.ofNat (x.1 + y.1)) ⟨x, hx⟩ ⟨y, hy⟩
theorem sm_sub {x y : Nat} (hx : x < 16) (hy : y ≤ x) : Int32.ofNat x - Int32.ofNat y = Int32.ofNat (x - y) := (by decide +kernel : ∀ x y : Fin 16, y.1 ≤ x.1 → Int32.ofNat x.1 - Int32.ofNat y.1 = Int32.ofNat (x.1 - y.1)) ⟨x, hx⟩ ⟨y, by omega⟩ hy
theorem sm_mul6 {x : Nat} (hx : x < 6) : Int32.ofNat x * 6 = Int32.ofNat (x * 6) := (by decide +kernel : ∀ x : Fin 6, Int32.ofNat x.1 * 6 = Int32.ofNat (x.1 * 6)) ⟨x, hx⟩
theorem sm_pred {x : Nat} (h0 : 0 < x) (hx : x < 64) : Int32.ofNat x - 1 = Int32.ofNat (x - 1) := (by decide +kernel : ∀ x : Fin 64, 0 < x.1 → Int32.ofNat x.1 - 1 = Int32.ofNat (x.1 - 1)) ⟨x, hx⟩ h0
theorem sm_dbl {x : Nat} (hx : x < 64) : 2 * Int32.ofNat x = Int32.ofNat (2 * x) := (by decide +kernel : ∀ x : Fin 64, 2 * Int32.ofNat x.1 = Int32.ofNat (2 * x.1)) ⟨x, hx⟩
theorem sm_lt {x y : Nat} (hx : x < 64) (hy : y < 64) : Int32.ofNat x < Int32.ofNat y ↔ x < y := by
  rw [Int32.lt_iff_toInt_lt, Int32.toInt_ofNat_of_lt (by omega), Int32.toInt_ofNat_of_lt (by omega)]; omega
theorem sm_eq0 {x : Nat} (hx : x < 64) : Int32.ofNat x = 0 ↔ x = 0 := ⟨fun q => sm_inj hx (by decide) q, fun q => by rw [q]; rfl⟩
theorem s_ldIN (B : Ctx p s m meth c Z own nm bytes maxL ret) (X : Stand p l e R s m args below meth c T locs cells slots) {a : Addr} {j : Int32} {jn N x : Nat} {f : Nat → Nat} (eT : T.heap = h) (A : IN Z h a N f) (hj : ¬ j < 0) (hjn : j.toNatClampNeg = jn) (hlt : jn < N) (hv : f jn = x) (hd : decode bytes pc = .ok (.iaload, 1)) (hp : pc + 1 = pc') (k : Go p e below P (T.setTop (mkF m pc' Ls (.int (Int32.ofNat x) :: rest)))) : Go p e below P (T.setTop (mkF m pc Ls (.int j :: .ref a :: rest))) := by
  obtain ⟨k0, A0⟩ := A
  exact s_ldI B X eT A0 hj hjn hlt (show Value.int (Int32.ofNat (f jn)) = _ by rw [hv]) hd hp k
theorem s_stIN (B : Ctx p s m meth c Z own nm bytes maxL ret) (X : Stand p l e R s m args below meth c T locs cells slots) {a : Addr} {j : Int32} {jn N x : Nat} {f : Nat → Nat} (eT : T.heap = h) (A : IN Z h a N f) (hj : ¬ j < 0) (hjn : j.toNatClampNeg = jn) (hlt : jn < N) (hd : decode bytes pc = .ok (.iastore, 1)) (hp : pc + 1 = pc') (k : ∀ T' h', Stand p l e R s m args below meth c T' (locs ++ [⟨a, jn⟩]) cells slots → T'.heap = h' → Wr h h' a jn (.int (Int32.ofNat x)) → Go p e below P (T'.setTop (mkF m pc' Ls (rest)))) : Go p e below P (T.setTop (mkF m pc Ls (.int (Int32.ofNat x) :: .int j :: .ref a :: rest))) := by
  obtain ⟨k0, A0⟩ := A
  exact s_stI B X eT A0 hj hjn hlt hd hp (fun T' h' X' e' W _ => k T' h' X' e' W)
theorem s_lenIN (B : Ctx p s m meth c Z own nm bytes maxL ret) (X : Stand p l e R s m args below meth c T locs cells slots) {a : Addr} {N : Nat} {f : Nat → Nat} (eT : T.heap = h) (A : IN Z h a N f) (hd : decode bytes pc = .ok (.arraylength, 1)) (hp : pc + 1 = pc') (k : Go p e below P (T.setTop (mkF m pc' Ls (.int (Int32.ofNat N) :: rest)))) : Go p e below P (T.setTop (mkF m pc Ls (.ref a :: rest))) := by
  obtain ⟨k0, A0⟩ := A
  exact s_len B X eT A0 rfl hd hp k
theorem arv_of {a : Addr} {N : Nat} {f : Nat → Nat} (F : IN Z h a N f) (hN : N < 64) : ∃ k, Arv Z h a k .int (Int32.ofNat N) ((List.range N).map fun i => Value.int (Int32.ofNat (f i))) (.int 0) := by
  obtain ⟨k, c, A, r1, r2, -, r4⟩ := F
  have z := osm hN
  have q : ∀ i, i < N → ((List.range N).map fun i => Value.int (Int32.ofNat (f i))).getD i (.int 0) = .int (Int32.ofNat (f i)) := fun i hi => by
    rw [List.getD_eq_getElem?_getD, List.getElem?_map, List.getElem?_range hi]; rfl
  exact ⟨k, c, A, r1, r2.trans z.2.symm, z.1, fun i hi => by rw [q i (r2 ▸ hi)]; exact r4 i (r2 ▸ hi), fun i hi => by rw [q i (r2 ▸ hi)]; rfl⟩
theorem of_arv {a : Addr} {k : ClassId} {N : Nat} {z : Int32} {vs : List Value} {d : Value} {f : Nat → Nat} (F : Arv Z h a k .int z vs d) (hz : z.toNatClampNeg = N) (hN : N < 64) (q : ∀ i, i < N → vs.getD i d = .int (Int32.ofNat (f i))) : IN Z h a N f := by
  obtain ⟨c, A, r1, r2, r3, H, -⟩ := F
  have e : c.slots.size = N := r2.trans hz
  exact ⟨k, c, A, r1, e, by omega, fun i hi => by rw [H i (e ▸ hi), q i hi]⟩
theorem s_copy (B : Ctx p s m meth c Z own nm bytes maxL ret) (X : Stand p l e R s m args below meth c T locs cells slots) {i0 W M N : Nat} {f g : Nat → Nat} {a b : Addr} (eT : T.heap = h) (w1 : (Jvm.Cond.methodLink own i0 Jvm.Stand.acN).before a0 Z = true) (w2 : (Jvm.Cond.native Jvm.Stand.acN).before a0 Z = true) (w3 : (Jvm.Cond.static Jvm.Stand.acN).before a0 Z = true) (w4 : (Jvm.Cond.initialized "java/lang/System").before a0 Z = true) (A : IN Z h a N f) (A2 : IN Z h b M g) (hNM : N ≤ M) (hM : M < 64) (Nf : Fr Z.heap.size locs) (ge : Z.heap.size ≤ b) (hW : (rest.map fun v => v.category).sum = W) (hf : 1 ≤ R.frames) (hlo : W + 18 ≤ R.locals) (hsz : Ls.size = maxL) (hd : decode bytes pc = .ok (.invokestatic i0, 3)) (hp : pc + 3 = pc')
    (k : ∀ T' h' L, Stand p l e R s m args below meth c T' L cells slots → T'.heap = h' → Fr Z.heap.size L → Keep h h' [b] → IN Z h' b M (fun i => if i < N then f i else g i) → Go p e below P (T'.setTop (mkF m pc' Ls (rest)))) : Go p e below P (T.setTop (mkF m pc Ls (.int (Int32.ofNat N) :: .int 0 :: .ref b :: .int 0 :: .ref a :: rest))) := by
  subst hp
  obtain ⟨ka, V⟩ := arv_of A (by omega)
  obtain ⟨kb, V2⟩ := arv_of A2 hM
  have zN := (osm (x := N) (by omega)).2
  have zM := (osm hM).2
  obtain ⟨T', h', L, X', e', N', K', V', st⟩ := cpA X B.1 B.2.2.2.2.2.2.2 B.2.2.2.1 w1 w2 w3 w4 eT V V2 (Or.inl ⟨rfl, rfl⟩) (sp := 0) (dp := 0) (nn := Int32.ofNat N) (by decide) (by decide) (osm (by omega)).1 (by rw [zN]; exact Nat.le_of_eq (Nat.zero_add _)) (by rw [zN, zM]; show 0 + N ≤ M; omega) rfl (by rw [zN, List.length_map, List.length_range]; show 0 + N ≤ M; omega) Nf ge (g := mkF m pc Ls (.int (Int32.ofNat N) :: .int 0 :: .ref b :: .int 0 :: .ref a :: rest)) rfl (by rw [B.2.2.1]; exact hsz) rfl (hb B.2.1 hd) hf (W := W) (by show 2 * 0 + _ ≤ _; rw [Nat.mul_zero, Nat.zero_add]; exact Nat.le_of_eq hW) hlo
  refine Go.on st (k T' h' L X' e' N' K' (of_arv V' zM hM fun i hi => ?_))
  rw [zN]
  show (List.take 0 _ ++ _ ++ List.drop (0 + N) _).getD i _ = _
  rw [List.take_zero, List.nil_append, Nat.zero_add, List.getD_eq_getElem?_getD]
  by_cases q : i < N
  · rw [List.getElem?_append_left (by rw [List.length_map, List.length_range]; exact q), List.getElem?_map, List.getElem?_range q, if_pos q]
    show ((List.range N).map _).getD (0 + i) _ = _
    rw [Nat.zero_add, List.getD_eq_getElem?_getD, List.getElem?_map, List.getElem?_range q]; rfl
  · rw [List.getElem?_append_right (by rw [List.length_map, List.length_range]; omega), List.length_map, List.length_range, List.getElem?_drop, List.getElem?_map, show N + (i - N) = i by omega, List.getElem?_range hi, if_neg q]; rfl
abbrev LN : String := "unitloom/engine/Links"
def SEP (Z : State) (lk : Addr) (pa : Bool → Addr) (ca ex : Addr) (nn : Nat) (r : Bool → Nat → Addr) (len : Bool → Nat → Nat) : Prop :=
  (Z.heap.size ≤ lk ∧ Z.heap.size ≤ ca ∧ (∀ t, Z.heap.size ≤ pa t)) ∧ (ca ≠ lk ∧ (∀ t, pa t ≠ lk) ∧ (∀ t, pa t ≠ ca) ∧ (∀ t t', pa t = pa t' → t = t')) ∧ (ex ≠ lk ∧ ex ≠ ca ∧ ∀ t, ex ≠ pa t) ∧
  ∀ t u, u < nn → (len t u = 0 ∧ r t u < Z.heap.size) ∨ (Z.heap.size ≤ r t u ∧ r t u ≠ lk ∧ r t u ≠ ca ∧ (∀ t', r t u ≠ pa t') ∧ r t u ≠ ex ∧ ∀ t' u', u' < nn → r t u = r t' u' → t = t' ∧ u = u')
/-- the cells of a Links -/
def LC (Z : State) (h : Heap) (lk : Addr) (pa : Bool → Addr) (ca : Addr) (kk : Bool → ClassId) (ex : Addr) (nx : Nat) (gx : Nat → Nat) (nn : Nat) (cn : Nat → Nat) (r : Bool → Nat → Addr) (len : Bool → Nat → Nat) (ff : Bool → Nat → Nat → Nat) : Prop :=
  Exa Z h lk LN ∧ (Fld Z h lk LN "partners" "[[I" (.ref (pa true)) ∧ Fld Z h lk LN "edges" "[[I" (.ref (pa false)) ∧ Fld Z h lk LN "partnerCount" "[I" (.ref ca)) ∧
  (∀ t, Ary Z h (pa t) (kk t) (.array .int) nn (fun u => .ref (r t u)) ∧ OvrA Z (kk t) .int "[I") ∧ IN Z h ca nn cn ∧ IN Z h ex nx gx ∧ (∀ t u, u < nn → IN Z h (r t u) (len t u) (ff t u)) ∧ SEP Z lk pa ca ex nn r len
variable {lk ca ex : Addr} {pa : Bool → Addr} {kk : Bool → ClassId} {nx nn : Nat} {gx cn : Nat → Nat} {r : Bool → Nat → Addr} {len : Bool → Nat → Nat} {ff : Bool → Nat → Nat → Nat}
theorem LC.keep0 (F : LC Z h lk pa ca kk ex nx gx nn cn r len ff) (K : Keep h h' []) : LC Z h' lk pa ca kk ex nx gx nn cn r len ff := by
  obtain ⟨E, ⟨f1, f2, f3⟩, A, c1, x1, ro, S⟩ := F
  exact ⟨E.keep K, ⟨f1.keep K nin0, f2.keep K nin0, f3.keep K nin0⟩, fun t => ⟨(A t).1.keep K nin0, (A t).2⟩, c1.keep K nin0, x1.keep K nin0, fun t u hu => (ro t u hu).keep K nin0, S⟩
theorem LC.stRow {t0 : Bool} {u0 j x : Nat} (F : LC Z h lk pa ca kk ex nx gx nn cn r len ff) (hu : u0 < nn) (hj : j < len t0 u0) (W : Wr h h' (r t0 u0) j (.int (Int32.ofNat x))) : LC Z h' lk pa ca kk ex nx gx nn cn r len (fun t u => if t = t0 ∧ u = u0 then updN (ff t0 u0) j x else ff t u) := by
  obtain ⟨E, ⟨f1, f2, f3⟩, A, c1, x1, ro, S⟩ := F
  obtain ⟨-, -, -, s4⟩ := id S
  have K := Keep.of_wr W
  rcases s4 t0 u0 hu with ⟨z, -⟩ | ⟨g0, g1, g2, g3, g4, g5⟩
  · omega
  · refine ⟨E.keep K, ⟨f1.keep K (ninS g1.symm nin0), f2.keep K (ninS g1.symm nin0), f3.keep K (ninS g1.symm nin0)⟩, fun t => ⟨(A t).1.keep K (ninS (g3 t).symm nin0), (A t).2⟩, c1.keep K (ninS g2.symm nin0), x1.keep K (ninS g4.symm nin0), fun t u hu' => ?_, S⟩
    show IN Z h' (r t u) (len t u) (if t = t0 ∧ u = u0 then updN (ff t0 u0) j x else ff t u)
    by_cases q : t = t0 ∧ u = u0
    · rw [if_pos q]; obtain ⟨rfl, rfl⟩ := q; exact IN.same W (ro _ _ hu')
    · rw [if_neg q]; exact (ro t u hu').keep K (ninS (fun z => q (by have z2 := g5 t u hu' z.symm; exact ⟨z2.1.symm, z2.2.symm⟩)) nin0)
theorem LC.stCnt {u0 x : Nat} (F : LC Z h lk pa ca kk ex nx gx nn cn r len ff) (W : Wr h h' ca u0 (.int (Int32.ofNat x))) : LC Z h' lk pa ca kk ex nx gx nn (updN cn u0 x) r len ff := by
  obtain ⟨E, ⟨f1, f2, f3⟩, A, c1, x1, ro, S⟩ := F
  obtain ⟨⟨z1, z2, z3⟩, ⟨d1, d2, d3, d4⟩, ⟨e1, e2, e3⟩, s4⟩ := id S
  have K := Keep.of_wr W
  refine ⟨E.keep K, ⟨f1.keep K (ninS d1.symm nin0), f2.keep K (ninS d1.symm nin0), f3.keep K (ninS d1.symm nin0)⟩, fun t => ⟨(A t).1.keep K (ninS (d3 t) nin0), (A t).2⟩, IN.same W c1, x1.keep K (ninS e2 nin0), fun t u hu => (ro t u hu).keep K (ninS ?_ nin0), S⟩
  rcases s4 t u hu with ⟨-, z⟩ | ⟨-, -, g, -⟩
  · exact Nat.ne_of_lt (Nat.lt_of_lt_of_le z z2)
  · exact g
theorem LC.stEx {j x : Nat} (F : LC Z h lk pa ca kk ex nx gx nn cn r len ff) (hz : Z.heap.size ≤ ex) (W : Wr h h' ex j (.int (Int32.ofNat x))) : LC Z h' lk pa ca kk ex nx (updN gx j x) nn cn r len ff := by
  obtain ⟨E, ⟨f1, f2, f3⟩, A, c1, x1, ro, S⟩ := F
  obtain ⟨⟨z1, z2, z3⟩, ⟨d1, d2, d3, d4⟩, ⟨e1, e2, e3⟩, s4⟩ := id S
  have K := Keep.of_wr W
  refine ⟨E.keep K, ⟨f1.keep K (ninS e1.symm nin0), f2.keep K (ninS e1.symm nin0), f3.keep K (ninS e1.symm nin0)⟩, fun t => ⟨(A t).1.keep K (ninS (e3 t).symm nin0), (A t).2⟩, c1.keep K (ninS e2.symm nin0), IN.same W x1, fun t u hu => (ro t u hu).keep K (ninS ?_ nin0), S⟩
  rcases s4 t u hu with ⟨-, z⟩ | ⟨-, -, -, -, g, -⟩
  · exact Nat.ne_of_lt (Nat.lt_of_lt_of_le z hz)
  · exact g
theorem LC.swap {h0 : Heap} {t0 : Bool} {u0 N : Nat} {b : Addr} {g : Nat → Nat} (F : LC Z h0 lk pa ca kk ex nx gx nn cn r len ff) (K0 : Keep h0 h []) (hb : h0.size ≤ b) (I : IN Z h b N g) (W : Wr h h' (pa t0) u0 (.ref b)) :
    LC Z h' lk pa ca kk ex nx gx nn cn (fun t u => if t = t0 ∧ u = u0 then b else r t u) (fun t u => if t = t0 ∧ u = u0 then N else len t u) (fun t u => if t = t0 ∧ u = u0 then g else ff t u) := by
  have l1 : lk < h0.size := F.1.lt
  have l2 : ∀ t, pa t < h0.size := fun t => (F.2.2.1 t).1.lt
  have l3 : ca < h0.size := F.2.2.2.1.lt
  have l4 : ex < h0.size := F.2.2.2.2.1.lt
  have l5 : ∀ t u, u < nn → r t u < h0.size := fun t u hu => (F.2.2.2.2.2.1 t u hu).lt
  obtain ⟨E, ⟨f1, f2, f3⟩, A, c1, x1, ro, S⟩ := F.keep0 K0
  obtain ⟨⟨z1, z2, z3⟩, ⟨d1, d2, d3, d4⟩, ⟨e1, e2, e3⟩, s4⟩ := id S
  have K := Keep.of_wr W
  have ln : lk ∉ [pa t0] := ninS (d2 t0).symm nin0
  refine ⟨E.keep K, ⟨f1.keep K ln, f2.keep K ln, f3.keep K ln⟩, fun t => ⟨?_, (A t).2⟩, c1.keep K (ninS (d3 t0).symm nin0), x1.keep K (ninS (e3 t0) nin0), fun t u hu => ?_, ⟨⟨z1, z2, z3⟩, ⟨d1, d2, d3, d4⟩, ⟨e1, e2, e3⟩, fun t u hu => ?_⟩⟩
  · by_cases q : t = t0
    · cases q; exact (Ary.same W (A _).1).congr fun i _ => by by_cases q2 : i = u0 <;> simp [upd, q2]
    · exact ((A t).1.keep K (ninS (fun z => q (d4 _ _ z)) nin0)).congr fun i _ => by simp [q]
  · show IN Z h' (if t = t0 ∧ u = u0 then b else r t u) (if t = t0 ∧ u = u0 then N else len t u) (if t = t0 ∧ u = u0 then g else ff t u)
    by_cases q : t = t0 ∧ u = u0
    · rw [if_pos q, if_pos q, if_pos q]; exact I.keep K (ninS (Nat.ne_of_gt (Nat.lt_of_lt_of_le (l2 t0) hb)) nin0)
    · rw [if_neg q, if_neg q, if_neg q]
      refine (ro t u hu).keep K (ninS ?_ nin0)
      rcases s4 t u hu with ⟨-, z⟩ | ⟨-, -, -, g3, -, -⟩
      · exact Nat.ne_of_lt (Nat.lt_of_lt_of_le z (z3 t0))
      · exact g3 t0
  · try dsimp only
    by_cases q : t = t0 ∧ u = u0
    · refine Or.inr ?_
      rw [if_pos q]
      refine ⟨Nat.le_trans z1 (Nat.le_trans (Nat.le_of_lt l1) hb), Nat.ne_of_gt (Nat.lt_of_lt_of_le l1 hb), Nat.ne_of_gt (Nat.lt_of_lt_of_le l3 hb), fun t' => Nat.ne_of_gt (Nat.lt_of_lt_of_le (l2 t') hb), Nat.ne_of_gt (Nat.lt_of_lt_of_le l4 hb), fun t' u' hu' z => ?_⟩
      by_cases q' : t' = t0 ∧ u' = u0
      · exact ⟨q.1.trans q'.1.symm, q.2.trans q'.2.symm⟩
      · rw [if_neg q'] at z; exact absurd z (Nat.ne_of_gt (Nat.lt_of_lt_of_le (l5 t' u' hu') hb))
    · rw [if_neg q, if_neg q]
      rcases s4 t u hu with z | ⟨g0, g1, g2, g3, g4, g5⟩
      · exact Or.inl z
      · refine Or.inr ⟨g0, g1, g2, g3, g4, fun t' u' hu' z => ?_⟩
        by_cases q' : t' = t0 ∧ u' = u0
        · rw [if_pos q'] at z; exact absurd z (Nat.ne_of_lt (Nat.lt_of_lt_of_le (l5 t u hu) hb))
        · rw [if_neg q'] at z; exact g5 t' u' hu' z
/-- the same, seen from the unit u -/
def FO (Z : State) (h : Heap) (lk : Addr) (pa : Bool → Addr) (ca ex : Addr) (nx : Nat) (gx : Nat → Nat) (nn : Nat) (cn0 : Nat → Nat) (len0 : Bool → Nat → Nat) (ff0 : Bool → Nat → Nat → Nat) (u cu : Nat) (ap ae : Addr) (lp le : Nat) (gp ge : Nat → Nat) : Prop :=
  u < nn ∧ nn < 64 ∧ ∃ kk cn r len ff, LC Z h lk pa ca kk ex nx gx nn cn r len ff ∧ cn u = cu ∧ (r true u = ap ∧ r false u = ae) ∧ (len true u = lp ∧ len false u = le) ∧ (ff true u = gp ∧ ff false u = ge) ∧ ∀ u', u' ≠ u → cn u' = cn0 u' ∧ ∀ t, len t u' = len0 t u' ∧ ff t u' = ff0 t u'
variable {cn0 : Nat → Nat} {len0 : Bool → Nat → Nat} {ff0 : Bool → Nat → Nat → Nat} {u cu : Nat} {ap ae : Addr} {lp le : Nat} {gp ge : Nat → Nat}
theorem FO.exa (F : FO Z h lk pa ca ex nx gx nn cn0 len0 ff0 u cu ap ae lp le gp ge) : Exa Z h lk LN := by obtain ⟨-, -, kk, cn, r, len, ff, F, -⟩ := F; exact F.1
theorem FO.f1 (F : FO Z h lk pa ca ex nx gx nn cn0 len0 ff0 u cu ap ae lp le gp ge) : Fld Z h lk LN "partners" "[[I" (.ref (pa true)) := by obtain ⟨-, -, kk, cn, r, len, ff, F, -⟩ := F; exact F.2.1.1
theorem FO.f2 (F : FO Z h lk pa ca ex nx gx nn cn0 len0 ff0 u cu ap ae lp le gp ge) : Fld Z h lk LN "edges" "[[I" (.ref (pa false)) := by obtain ⟨-, -, kk, cn, r, len, ff, F, -⟩ := F; exact F.2.1.2.1
theorem FO.f3 (F : FO Z h lk pa ca ex nx gx nn cn0 len0 ff0 u cu ap ae lp le gp ge) : Fld Z h lk LN "partnerCount" "[I" (.ref ca) := by obtain ⟨-, -, kk, cn, r, len, ff, F, -⟩ := F; exact F.2.1.2.2
theorem FO.rp (F : FO Z h lk pa ca ex nx gx nn cn0 len0 ff0 u cu ap ae lp le gp ge) : IN Z h ap lp gp := by
  obtain ⟨hu, -, kk, cn, r, len, ff, F, -, ⟨rfl, rfl⟩, ⟨rfl, rfl⟩, ⟨rfl, rfl⟩, -⟩ := F; exact F.2.2.2.2.2.1 true u hu
theorem FO.re (F : FO Z h lk pa ca ex nx gx nn cn0 len0 ff0 u cu ap ae lp le gp ge) : IN Z h ae le ge := by
  obtain ⟨hu, -, kk, cn, r, len, ff, F, -, ⟨rfl, rfl⟩, ⟨rfl, rfl⟩, ⟨rfl, rfl⟩, -⟩ := F; exact F.2.2.2.2.2.1 false u hu
theorem FO.zl (F : FO Z h lk pa ca ex nx gx nn cn0 len0 ff0 u cu ap ae lp le gp ge) : Z.heap.size ≤ lk := by obtain ⟨-, -, kk, cn, r, len, ff, F, -⟩ := F; exact F.2.2.2.2.2.2.1.1
theorem FO.zc (F : FO Z h lk pa ca ex nx gx nn cn0 len0 ff0 u cu ap ae lp le gp ge) : Z.heap.size ≤ ca := by obtain ⟨-, -, kk, cn, r, len, ff, F, -⟩ := F; exact F.2.2.2.2.2.2.1.2.1
theorem FO.za (F : FO Z h lk pa ca ex nx gx nn cn0 len0 ff0 u cu ap ae lp le gp ge) (t : Bool) : Z.heap.size ≤ pa t := by obtain ⟨-, -, kk, cn, r, len, ff, F, -⟩ := F; exact F.2.2.2.2.2.2.1.2.2 t
theorem FO.zp {j : Nat} (F : FO Z h lk pa ca ex nx gx nn cn0 len0 ff0 u cu ap ae lp le gp ge) (hj : j < lp) : Z.heap.size ≤ ap := by
  obtain ⟨hu, -, kk, cn, r, len, ff, F, -, ⟨rfl, rfl⟩, ⟨rfl, rfl⟩, -⟩ := F
  rcases F.2.2.2.2.2.2.2.2.2 true u hu with ⟨z, -⟩ | ⟨z, -⟩
  · omega
  · exact z
theorem FO.ze {j : Nat} (F : FO Z h lk pa ca ex nx gx nn cn0 len0 ff0 u cu ap ae lp le gp ge) (hj : j < le) : Z.heap.size ≤ ae := by
  obtain ⟨hu, -, kk, cn, r, len, ff, F, -, ⟨rfl, rfl⟩, ⟨rfl, rfl⟩, -⟩ := F
  rcases F.2.2.2.2.2.2.2.2.2 false u hu with ⟨z, -⟩ | ⟨z, -⟩
  · omega
  · exact z
theorem FO.zh (F : FO Z h lk pa ca ex nx gx nn cn0 len0 ff0 u cu ap ae lp le gp ge) : Z.heap.size ≤ h.size := Nat.le_of_lt (Nat.lt_of_le_of_lt F.zl F.exa.lt)
theorem FO.stP {j x : Nat} (F : FO Z h lk pa ca ex nx gx nn cn0 len0 ff0 u cu ap ae lp le gp ge) (hj : j < lp) (W : Wr h h' ap j (.int (Int32.ofNat x))) : FO Z h' lk pa ca ex nx gx nn cn0 len0 ff0 u cu ap ae lp le (updN gp j x) ge := by
  obtain ⟨hu, hn, kk, cn, r, len, ff, F, hc, ⟨rfl, rfl⟩, ⟨rfl, rfl⟩, ⟨rfl, rfl⟩, ho⟩ := F
  refine ⟨hu, hn, kk, cn, r, len, _, F.stRow (t0 := true) hu hj W, hc, ⟨rfl, rfl⟩, ⟨rfl, rfl⟩, ⟨if_pos ⟨rfl, rfl⟩, if_neg (fun z => nomatch z.1)⟩, fun u' hu' => ⟨(ho u' hu').1, fun t => ⟨((ho u' hu').2 t).1, ?_⟩⟩⟩
  exact (if_neg (fun z => hu' z.2)).trans ((ho u' hu').2 t).2
theorem FO.stE {j x : Nat} (F : FO Z h lk pa ca ex nx gx nn cn0 len0 ff0 u cu ap ae lp le gp ge) (hj : j < le) (W : Wr h h' ae j (.int (Int32.ofNat x))) : FO Z h' lk pa ca ex nx gx nn cn0 len0 ff0 u cu ap ae lp le gp (updN ge j x) := by
  obtain ⟨hu, hn, kk, cn, r, len, ff, F, hc, ⟨rfl, rfl⟩, ⟨rfl, rfl⟩, ⟨rfl, rfl⟩, ho⟩ := F
  refine ⟨hu, hn, kk, cn, r, len, _, F.stRow (t0 := false) hu hj W, hc, ⟨rfl, rfl⟩, ⟨rfl, rfl⟩, ⟨if_neg (fun z => nomatch z.1), if_pos ⟨rfl, rfl⟩⟩, fun u' hu' => ⟨(ho u' hu').1, fun t => ⟨((ho u' hu').2 t).1, ?_⟩⟩⟩
  exact (if_neg (fun z => hu' z.2)).trans ((ho u' hu').2 t).2
theorem FO.stC {x : Nat} (F : FO Z h lk pa ca ex nx gx nn cn0 len0 ff0 u cu ap ae lp le gp ge) (W : Wr h h' ca u (.int (Int32.ofNat x))) : FO Z h' lk pa ca ex nx gx nn cn0 len0 ff0 u x ap ae lp le gp ge := by
  obtain ⟨hu, hn, kk, cn, r, len, ff, F, hc, g1, g2, g3, ho⟩ := F
  exact ⟨hu, hn, kk, updN cn u x, r, len, ff, F.stCnt W, updN_same, g1, g2, g3, fun u' hu' => ⟨(updN_ne hu').trans (ho u' hu').1, (ho u' hu').2⟩⟩
theorem FO.keep0 (F : FO Z h lk pa ca ex nx gx nn cn0 len0 ff0 u cu ap ae lp le gp ge) (K : Keep h h' []) : FO Z h' lk pa ca ex nx gx nn cn0 len0 ff0 u cu ap ae lp le gp ge := by
  obtain ⟨hu, hn, kk, cn, r, len, ff, F, q⟩ := F; exact ⟨hu, hn, kk, cn, r, len, ff, F.keep0 K, q⟩
theorem FO.swP {h0 : Heap} {N : Nat} {b : Addr} {g : Nat → Nat} (F : FO Z h0 lk pa ca ex nx gx nn cn0 len0 ff0 u cu ap ae lp le gp ge) (K0 : Keep h0 h []) (hb : h0.size ≤ b) (I : IN Z h b N g) (W : Wr h h' (pa true) u (.ref b)) : FO Z h' lk pa ca ex nx gx nn cn0 len0 ff0 u cu b ae N le g ge := by
  obtain ⟨hu, hn, kk, cn, r, len, ff, F, hc, ⟨rfl, rfl⟩, ⟨rfl, rfl⟩, ⟨rfl, rfl⟩, ho⟩ := F
  exact ⟨hu, hn, kk, cn, _, _, _, F.swap (t0 := true) K0 hb I W, hc, ⟨if_pos ⟨rfl, rfl⟩, if_neg (fun z => nomatch z.1)⟩, ⟨if_pos ⟨rfl, rfl⟩, if_neg (fun z => nomatch z.1)⟩, ⟨if_pos ⟨rfl, rfl⟩, if_neg (fun z => nomatch z.1)⟩, fun u' hu' => ⟨(ho u' hu').1, fun t => ⟨(if_neg (fun z => hu' z.2)).trans ((ho u' hu').2 t).1, (if_neg (fun z => hu' z.2)).trans ((ho u' hu').2 t).2⟩⟩⟩
theorem FO.swE {h0 : Heap} {N : Nat} {b : Addr} {g : Nat → Nat} (F : FO Z h0 lk pa ca ex nx gx nn cn0 len0 ff0 u cu ap ae lp le gp ge) (K0 : Keep h0 h []) (hb : h0.size ≤ b) (I : IN Z h b N g) (W : Wr h h' (pa false) u (.ref b)) : FO Z h' lk pa ca ex nx gx nn cn0 len0 ff0 u cu ap b lp N gp g := by
  obtain ⟨hu, hn, kk, cn, r, len, ff, F, hc, ⟨rfl, rfl⟩, ⟨rfl, rfl⟩, ⟨rfl, rfl⟩, ho⟩ := F
  exact ⟨hu, hn, kk, cn, _, _, _, F.swap (t0 := false) K0 hb I W, hc, ⟨if_neg (fun z => nomatch z.1), if_pos ⟨rfl, rfl⟩⟩, ⟨if_neg (fun z => nomatch z.1), if_pos ⟨rfl, rfl⟩⟩, ⟨if_neg (fun z => nomatch z.1), if_pos ⟨rfl, rfl⟩⟩, fun u' hu' => ⟨(ho u' hu').1, fun t => ⟨(if_neg (fun z => hu' z.2)).trans ((ho u' hu').2 t).1, (if_neg (fun z => hu' z.2)).trans ((ho u' hu').2 t).2⟩⟩⟩
theorem f_ldP (B : Ctx p s m meth c Z own nm bytes maxL ret) (X : Stand p l e R s m args below meth c T locs cells slots) (eT : T.heap = h) (F : FO Z h lk pa ca ex nx gx nn cn0 len0 ff0 u cu ap ae lp le gp ge) (hd : decode bytes pc = .ok (.aaload, 1)) (hp : pc + 1 = pc') (k : Go p e below P (T.setTop (mkF m pc' Ls (.ref ap :: rest)))) : Go p e below P (T.setTop (mkF m pc Ls (.int (Int32.ofNat u) :: .ref (pa true) :: rest))) := by
  obtain ⟨hu, hn, kk, cn, r, len, ff, F, -, ⟨rfl, rfl⟩, -⟩ := F
  exact s_ldR B X eT (F.2.2.1 true).1 rfl (osm (Nat.lt_trans hu hn)).1 (osm (Nat.lt_trans hu hn)).2 hu rfl hd hp k
theorem f_swP (B : Ctx p s m meth c Z own nm bytes maxL ret) (X : Stand p l e R s m args below meth c T locs cells slots) {h0 : Heap} {N : Nat} {b : Addr} {g : Nat → Nat} (eT : T.heap = h) (F : FO Z h0 lk pa ca ex nx gx nn cn0 len0 ff0 u cu ap ae lp le gp ge) (K0 : Keep h0 h []) (hb0 : h0.size ≤ b) (I : IN Z h b N g) (Eb : Exa Z h b "[I") (Nf : Fr Z.heap.size locs) (hd : decode bytes pc = .ok (.aastore, 1)) (hp : pc + 1 = pc') (k : ∀ T' h' L', Stand p l e R s m args below meth c T' L' cells slots → T'.heap = h' → Fr Z.heap.size L' → FO Z h' lk pa ca ex nx gx nn cn0 len0 ff0 u cu b ae N le g ge → Go p e below P (T'.setTop (mkF m pc' Ls (rest)))) : Go p e below P (T.setTop (mkF m pc Ls (.ref b :: .int (Int32.ofNat u) :: .ref (pa true) :: rest))) := by
  obtain ⟨hu, hn, kk, cn, r, len, ff, L, -⟩ := id F
  have A := (L.2.2.1 true).1.keep K0 nin0
  exact s_stR B X eT A rfl (Ary.stoA A (L.2.2.1 true).2 (Ins.self Eb)) (osm (Nat.lt_trans hu hn)).1 (osm (Nat.lt_trans hu hn)).2 hu hd hp (fun T' h' X' e' W _ => k T' h' _ X' e' (Fr.snoc X' Nf (F.za true)) (F.swP K0 hb0 I W))
theorem f_ldp (B : Ctx p s m meth c Z own nm bytes maxL ret) (X : Stand p l e R s m args below meth c T locs cells slots) {j : Nat} (eT : T.heap = h) (F : FO Z h lk pa ca ex nx gx nn cn0 len0 ff0 u cu ap ae lp le gp ge) (hj : j < lp) (hj6 : j < 64) (hd : decode bytes pc = .ok (.iaload, 1)) (hp : pc + 1 = pc') (k : Go p e below P (T.setTop (mkF m pc' Ls (.int (Int32.ofNat (gp j)) :: rest)))) : Go p e below P (T.setTop (mkF m pc Ls (.int (Int32.ofNat j) :: .ref ap :: rest))) := s_ldIN B X eT F.rp (osm hj6).1 (osm hj6).2 hj rfl hd hp k
theorem f_stp (B : Ctx p s m meth c Z own nm bytes maxL ret) (X : Stand p l e R s m args below meth c T locs cells slots) {j x : Nat} (eT : T.heap = h) (F : FO Z h lk pa ca ex nx gx nn cn0 len0 ff0 u cu ap ae lp le gp ge) (hj : j < lp) (hj6 : j < 64) (Nf : Fr Z.heap.size locs) (hd : decode bytes pc = .ok (.iastore, 1)) (hp : pc + 1 = pc') (k : ∀ T' h' L', Stand p l e R s m args below meth c T' L' cells slots → T'.heap = h' → Fr Z.heap.size L' → FO Z h' lk pa ca ex nx gx nn cn0 len0 ff0 u cu ap ae lp le (updN gp j x) ge → Go p e below P (T'.setTop (mkF m pc' Ls (rest)))) : Go p e below P (T.setTop (mkF m pc Ls (.int (Int32.ofNat x) :: .int (Int32.ofNat j) :: .ref ap :: rest))) := s_stIN B X eT F.rp (osm hj6).1 (osm hj6).2 hj hd hp (fun T' h' X' e' W => k T' h' _ X' e' (Fr.snoc X' Nf (F.zp hj)) (F.stP hj W))
theorem f_ldE (B : Ctx p s m meth c Z own nm bytes maxL ret) (X : Stand p l e R s m args below meth c T locs cells slots) (eT : T.heap = h) (F : FO Z h lk pa ca ex nx gx nn cn0 len0 ff0 u cu ap ae lp le gp ge) (hd : decode bytes pc = .ok (.aaload, 1)) (hp : pc + 1 = pc') (k : Go p e below P (T.setTop (mkF m pc' Ls (.ref ae :: rest)))) : Go p e below P (T.setTop (mkF m pc Ls (.int (Int32.ofNat u) :: .ref (pa false) :: rest))) := by
  obtain ⟨hu, hn, kk, cn, r, len, ff, F, -, ⟨rfl, rfl⟩, -⟩ := F
  exact s_ldR B X eT (F.2.2.1 false).1 rfl (osm (Nat.lt_trans hu hn)).1 (osm (Nat.lt_trans hu hn)).2 hu rfl hd hp k
theorem f_swE (B : Ctx p s m meth c Z own nm bytes maxL ret) (X : Stand p l e R s m args below meth c T locs cells slots) {h0 : Heap} {N : Nat} {b : Addr} {g : Nat → Nat} (eT : T.heap = h) (F : FO Z h0 lk pa ca ex nx gx nn cn0 len0 ff0 u cu ap ae lp le gp ge) (K0 : Keep h0 h []) (hb0 : h0.size ≤ b) (I : IN Z h b N g) (Eb : Exa Z h b "[I") (Nf : Fr Z.heap.size locs) (hd : decode bytes pc = .ok (.aastore, 1)) (hp : pc + 1 = pc') (k : ∀ T' h' L', Stand p l e R s m args below meth c T' L' cells slots → T'.heap = h' → Fr Z.heap.size L' → FO Z h' lk pa ca ex nx gx nn cn0 len0 ff0 u cu ap b lp N gp g → Go p e below P (T'.setTop (mkF m pc' Ls (rest)))) : Go p e below P (T.setTop (mkF m pc Ls (.ref b :: .int (Int32.ofNat u) :: .ref (pa false) :: rest))) := by
  obtain ⟨hu, hn, kk, cn, r, len, ff, L, -⟩ := id F
  have A := (L.2.2.1 false).1.keep K0 nin0
  exact s_stR B X eT A rfl (Ary.stoA A (L.2.2.1 false).2 (Ins.self Eb)) (osm (Nat.lt_trans hu hn)).1 (osm (Nat.lt_trans hu hn)).2 hu hd hp (fun T' h' X' e' W _ => k T' h' _ X' e' (Fr.snoc X' Nf (F.za false)) (F.swE K0 hb0 I W))
theorem f_lde (B : Ctx p s m meth c Z own nm bytes maxL ret) (X : Stand p l e R s m args below meth c T locs cells slots) {j : Nat} (eT : T.heap = h) (F : FO Z h lk pa ca ex nx gx nn cn0 len0 ff0 u cu ap ae lp le gp ge) (hj : j < le) (hj6 : j < 64) (hd : decode bytes pc = .ok (.iaload, 1)) (hp : pc + 1 = pc') (k : Go p e below P (T.setTop (mkF m pc' Ls (.int (Int32.ofNat (ge j)) :: rest)))) : Go p e below P (T.setTop (mkF m pc Ls (.int (Int32.ofNat j) :: .ref ae :: rest))) := s_ldIN B X eT F.re (osm hj6).1 (osm hj6).2 hj rfl hd hp k
theorem f_ste (B : Ctx p s m meth c Z own nm bytes maxL ret) (X : Stand p l e R s m args below meth c T locs cells slots) {j x : Nat} (eT : T.heap = h) (F : FO Z h lk pa ca ex nx gx nn cn0 len0 ff0 u cu ap ae lp le gp ge) (hj : j < le) (hj6 : j < 64) (Nf : Fr Z.heap.size locs) (hd : decode bytes pc = .ok (.iastore, 1)) (hp : pc + 1 = pc') (k : ∀ T' h' L', Stand p l e R s m args below meth c T' L' cells slots → T'.heap = h' → Fr Z.heap.size L' → FO Z h' lk pa ca ex nx gx nn cn0 len0 ff0 u cu ap ae lp le gp (updN ge j x) → Go p e below P (T'.setTop (mkF m pc' Ls (rest)))) : Go p e below P (T.setTop (mkF m pc Ls (.int (Int32.ofNat x) :: .int (Int32.ofNat j) :: .ref ae :: rest))) := s_stIN B X eT F.re (osm hj6).1 (osm hj6).2 hj hd hp (fun T' h' X' e' W => k T' h' _ X' e' (Fr.snoc X' Nf (F.ze hj)) (F.stE hj W))
theorem f_ldC (B : Ctx p s m meth c Z own nm bytes maxL ret) (X : Stand p l e R s m args below meth c T locs cells slots) (eT : T.heap = h) (F : FO Z h lk pa ca ex nx gx nn cn0 len0 ff0 u cu ap ae lp le gp ge) (hd : decode bytes pc = .ok (.iaload, 1)) (hp : pc + 1 = pc') (k : Go p e below P (T.setTop (mkF m pc' Ls (.int (Int32.ofNat cu) :: rest)))) : Go p e below P (T.setTop (mkF m pc Ls (.int (Int32.ofNat u) :: .ref ca :: rest))) := by
  obtain ⟨hu, hn, kk, cn, r, len, ff, F, hc, -⟩ := F
  exact s_ldIN B X eT F.2.2.2.1 (osm (Nat.lt_trans hu hn)).1 (osm (Nat.lt_trans hu hn)).2 hu hc hd hp k
theorem f_stC (B : Ctx p s m meth c Z own nm bytes maxL ret) (X : Stand p l e R s m args below meth c T locs cells slots) {x : Nat} (eT : T.heap = h) (F : FO Z h lk pa ca ex nx gx nn cn0 len0 ff0 u cu ap ae lp le gp ge) (Nf : Fr Z.heap.size locs) (hd : decode bytes pc = .ok (.iastore, 1)) (hp : pc + 1 = pc') (k : ∀ T' h' L', Stand p l e R s m args below meth c T' L' cells slots → T'.heap = h' → Fr Z.heap.size L' → FO Z h' lk pa ca ex nx gx nn cn0 len0 ff0 u x ap ae lp le gp ge → Go p e below P (T'.setTop (mkF m pc' Ls (rest)))) : Go p e below P (T.setTop (mkF m pc Ls (.int (Int32.ofNat x) :: .int (Int32.ofNat u) :: .ref ca :: rest))) := by
  obtain ⟨hu, hn, kk, cn, r, len, ff, L, -⟩ := id F
  exact s_stIN B X eT L.2.2.2.1 (osm (Nat.lt_trans hu hn)).1 (osm (Nat.lt_trans hu hn)).2 hu hd hp (fun T' h' X' e' W => k T' h' _ X' e' (Fr.snoc X' Nf F.zc) (F.stC W))
def z1 (x : Nat) : Nat := if x = 0 then 0 else 1
/-- how many of the eight are not 0 -/
def c8 (D : Nat → Nat) : Nat := z1 (D 0) + z1 (D 1) + z1 (D 2) + z1 (D 3) + z1 (D 4) + z1 (D 5) + z1 (D 6) + z1 (D 7)
theorem c8_upd {D : Nat → Nat} {v x : Nat} (hv : v < 8) : c8 (updN D v x) + z1 (D v) = c8 D + z1 x := by
  match v, hv with
  | 0, _ => show z1 x + z1 (D 1) + z1 (D 2) + z1 (D 3) + z1 (D 4) + z1 (D 5) + z1 (D 6) + z1 (D 7) + z1 (D 0) = z1 (D 0) + z1 (D 1) + z1 (D 2) + z1 (D 3) + z1 (D 4) + z1 (D 5) + z1 (D 6) + z1 (D 7) + z1 x; omega
  | 1, _ => show z1 (D 0) + z1 x + z1 (D 2) + z1 (D 3) + z1 (D 4) + z1 (D 5) + z1 (D 6) + z1 (D 7) + z1 (D 1) = z1 (D 0) + z1 (D 1) + z1 (D 2) + z1 (D 3) + z1 (D 4) + z1 (D 5) + z1 (D 6) + z1 (D 7) + z1 x; omega
  | 2, _ => show z1 (D 0) + z1 (D 1) + z1 x + z1 (D 3) + z1 (D 4) + z1 (D 5) + z1 (D 6) + z1 (D 7) + z1 (D 2) = z1 (D 0) + z1 (D 1) + z1 (D 2) + z1 (D 3) + z1 (D 4) + z1 (D 5) + z1 (D 6) + z1 (D 7) + z1 x; omega
  | 3, _ => show z1 (D 0) + z1 (D 1) + z1 (D 2) + z1 x + z1 (D 4) + z1 (D 5) + z1 (D 6) + z1 (D 7) + z1 (D 3) = z1 (D 0) + z1 (D 1) + z1 (D 2) + z1 (D 3) + z1 (D 4) + z1 (D 5) + z1 (D 6) + z1 (D 7) + z1 x; omega
  | 4, _ => show z1 (D 0) + z1 (D 1) + z1 (D 2) + z1 (D 3) + z1 x + z1 (D 5) + z1 (D 6) + z1 (D 7) + z1 (D 4) = z1 (D 0) + z1 (D 1) + z1 (D 2) + z1 (D 3) + z1 (D 4) + z1 (D 5) + z1 (D 6) + z1 (D 7) + z1 x; omega
  | 5, _ => show z1 (D 0) + z1 (D 1) + z1 (D 2) + z1 (D 3) + z1 (D 4) + z1 x + z1 (D 6) + z1 (D 7) + z1 (D 5) = z1 (D 0) + z1 (D 1) + z1 (D 2) + z1 (D 3) + z1 (D 4) + z1 (D 5) + z1 (D 6) + z1 (D 7) + z1 x; omega
  | 6, _ => show z1 (D 0) + z1 (D 1) + z1 (D 2) + z1 (D 3) + z1 (D 4) + z1 (D 5) + z1 x + z1 (D 7) + z1 (D 6) = z1 (D 0) + z1 (D 1) + z1 (D 2) + z1 (D 3) + z1 (D 4) + z1 (D 5) + z1 (D 6) + z1 (D 7) + z1 x; omega
  | 7, _ => show z1 (D 0) + z1 (D 1) + z1 (D 2) + z1 (D 3) + z1 (D 4) + z1 (D 5) + z1 (D 6) + z1 x + z1 (D 7) = z1 (D 0) + z1 (D 1) + z1 (D 2) + z1 (D 3) + z1 (D 4) + z1 (D 5) + z1 (D 6) + z1 (D 7) + z1 x; omega
  | n + 8, h => exact absurd h (by omega)
def fI (g : Nat → Nat) (v : Nat) : Nat → Nat → Int32
  | 0, _ => -1
  | k + 1, i => if g i = v then Int32.ofNat i else fI g v k (i + 1)
theorem fI_yes {g : Nat → Nat} {v k i : Nat} (q : g i = v) : fI g v (k + 1) i = Int32.ofNat i := if_pos q
theorem fI_no {g : Nat → Nat} {v k i : Nat} (q : ¬ g i = v) : fI g v (k + 1) i = fI g v k (i + 1) := if_neg q
theorem fI_or (g : Nat → Nat) (v : Nat) : ∀ (k i : Nat), (∃ j, i ≤ j ∧ j < i + k ∧ g j = v ∧ fI g v k i = Int32.ofNat j) ∨ ((∀ j, i ≤ j → j < i + k → g j ≠ v) ∧ fI g v k i = -1)
  | 0, i => Or.inr ⟨fun j h1 h2 => by omega, rfl⟩
  | k + 1, i => by
    by_cases q : g i = v
    · exact Or.inl ⟨i, Nat.le_refl _, by omega, q, if_pos q⟩
    · have e : fI g v (k + 1) i = fI g v k (i + 1) := if_neg q
      rcases fI_or g v k (i + 1) with ⟨j, h1, h2, h3, h4⟩ | ⟨h1, h2⟩
      · exact Or.inl ⟨j, by omega, by omega, h3, e.trans h4⟩
      · refine Or.inr ⟨fun j h3 h4 => ?_, e.trans h2⟩
        rcases Nat.eq_or_lt_of_le h3 with z | z
        · exact z ▸ q
        · exact h1 j (by omega) (by omega)
/-- a unit's row: what it says of the numbers of edges D -/
def RowOK (bb cu lp le : Nat) (gp ge : Nat → Nat) (D : Nat → Nat) : Prop :=
  (cu ≤ bb ∧ lp = le ∧ cu ≤ lp ∧ (lp = 0 ∨ lp = 4 ∨ lp = 8) ∧ cu = c8 D) ∧ (∀ v, D v ≤ bb) ∧ (∀ k, k < cu → gp k < 8 ∧ ge k = D (gp k) ∧ 0 < D (gp k)) ∧ (∀ j k, j < cu → k < cu → gp j = gp k → j = k) ∧ (∀ v, v < 8 → 0 < D v → ∃ k, k < cu ∧ gp k = v)
theorem RowOK.find {bb cu lp le v : Nat} {gp ge D : Nat → Nat} (R : RowOK bb cu lp le gp ge D) (hv : v < 8) : (∃ k, k < cu ∧ gp k = v ∧ ge k = D v ∧ 0 < D v ∧ fI gp v cu 0 = Int32.ofNat k) ∨ (D v = 0 ∧ (∀ k, k < cu → gp k ≠ v) ∧ fI gp v cu 0 = -1) := by
  obtain ⟨-, -, h3, -, h5⟩ := R
  rcases fI_or gp v cu 0 with ⟨j, -, h1, h2, h4⟩ | ⟨h1, h2⟩
  · rw [Nat.zero_add] at h1
    obtain ⟨q1, q2, q3⟩ := h3 j h1
    rw [h2] at q2 q3
    exact Or.inl ⟨j, h1, h2, q2, q3, h4⟩
  · refine Or.inr ⟨?_, fun k hk => h1 k (Nat.zero_le _) (by omega), h2⟩
    rcases Nat.eq_zero_or_pos (D v) with z | z
    · exact z
    · obtain ⟨k, hk, e⟩ := h5 v hv z
      exact absurd e (h1 k (Nat.zero_le _) (by omega))
theorem RowOK.mono {bb bb' cu lp le : Nat} {gp ge D : Nat → Nat} (R : RowOK bb cu lp le gp ge D) (q : bb ≤ bb') : RowOK bb' cu lp le gp ge D := by
  obtain ⟨⟨a1, a2⟩, b, c⟩ := R
  exact ⟨⟨Nat.le_trans a1 q, a2⟩, fun v => Nat.le_trans (b v) q, c⟩
theorem RowOK.addFound {bb cu lp le k v : Nat} {gp ge D : Nat → Nat} (R : RowOK bb cu lp le gp ge D) (hv : v < 8) (hk : k < cu) (e1 : gp k = v) : RowOK (bb + 1) cu lp le gp (updN ge k (ge k + 1)) (updN D v (D v + 1)) := by
  obtain ⟨⟨a1, a2, a3, a4, a5⟩, b, c, d, e⟩ := R
  obtain ⟨k1, k2, k3⟩ := c k hk
  rw [e1] at k2 k3
  refine ⟨⟨by omega, a2, a3, a4, ?_⟩, fun w => ?_, fun j hj => ?_, d, fun w hw h0 => ?_⟩
  · have z := c8_upd (D := D) (x := D v + 1) hv
    have z2 : z1 (D v) = 1 := if_neg (by omega)
    have z3 : z1 (D v + 1) = 1 := if_neg (by omega)
    omega
  · by_cases q : w = v
    · rw [q, updN_same]; have := b v; omega
    · rw [updN_ne q]; have := b w; omega
  · obtain ⟨c1, c2, c3⟩ := c j hj
    by_cases q : j = k
    · rw [q, updN_same, e1, updN_same]; exact ⟨hv, by omega, by omega⟩
    · have q2 : gp j ≠ v := fun z => q (d j k hj hk (z.trans e1.symm))
      rw [updN_ne q, updN_ne q2]; exact ⟨c1, c2, c3⟩
  · by_cases q : w = v
    · exact ⟨k, hk, e1.trans q.symm⟩
    · rw [updN_ne q] at h0; exact e w hw h0
theorem RowOK.addNew {bb cu lp le v lp' : Nat} {gp ge D gp' ge' : Nat → Nat} (R : RowOK bb cu lp le gp ge D) (hv : v < 8) (h0 : D v = 0) (hno : ∀ k, k < cu → gp k ≠ v) (hl : cu < lp') (hl' : lp' = 4 ∨ lp' = 8) (hg : ∀ k, k < cu → gp' k = gp k ∧ ge' k = ge k) : RowOK (bb + 1) (cu + 1) lp' lp' (updN gp' cu v) (updN (updN ge' cu 0) cu 1) (updN D v (D v + 1)) := by
  obtain ⟨⟨a1, a2, a3, a4, a5⟩, b, c, d, e⟩ := R
  refine ⟨⟨by omega, rfl, hl, Or.inr hl', ?_⟩, fun w => ?_, fun j hj => ?_, fun i j hi hj z => ?_, fun w hw hD => ?_⟩
  · have z := c8_upd (D := D) (x := D v + 1) hv
    have z2 : z1 (D v) = 0 := if_pos h0
    have z3 : z1 (D v + 1) = 1 := if_neg (by omega)
    omega
  · by_cases q : w = v
    · rw [q, updN_same]; omega
    · rw [updN_ne q]; have := b w; omega
  · by_cases q : j = cu
    · rw [q, updN_same, updN_same, updN_same]; exact ⟨hv, by omega, by omega⟩
    · obtain ⟨c1, c2, c3⟩ := c j (by omega)
      obtain ⟨g1, g2⟩ := hg j (by omega)
      rw [updN_ne q, updN_ne q, updN_ne q, g1, g2, updN_ne (hno j (by omega))]; exact ⟨c1, c2, c3⟩
  · by_cases qi : i = cu
    · by_cases qj : j = cu
      · omega
      · rw [qi, updN_same, updN_ne qj, (hg j (by omega)).1] at z; exact absurd z.symm (hno j (by omega))
    · by_cases qj : j = cu
      · rw [qj, updN_same, updN_ne qi, (hg i (by omega)).1] at z; exact absurd z (hno i (by omega))
      · rw [updN_ne qi, updN_ne qj, (hg i (by omega)).1, (hg j (by omega)).1] at z; exact d i j (by omega) (by omega) z
  · by_cases q : w = v
    · exact ⟨cu, by omega, updN_same.trans q.symm⟩
    · rw [updN_ne q] at hD
      obtain ⟨k, hk, ek⟩ := e w hw hD
      exact ⟨k, by omega, by rw [updN_ne (by omega), (hg k hk).1]; exact ek⟩
theorem RowOK.remNot {bb cu lp le k v : Nat} {gp ge D : Nat → Nat} (R : RowOK bb cu lp le gp ge D) (hv : v < 8) (hk : k < cu) (e1 : gp k = v) (h2 : 1 < D v) : RowOK bb cu lp le gp (updN ge k (D v - 1)) (updN D v (D v - 1)) := by
  obtain ⟨⟨a1, a2, a3, a4, a5⟩, b, c, d, e⟩ := R
  refine ⟨⟨by omega, a2, a3, a4, ?_⟩, fun w => ?_, fun j hj => ?_, d, fun w hw h0 => ?_⟩
  · have z := c8_upd (D := D) (x := D v - 1) hv
    have z2 : z1 (D v) = 1 := if_neg (by omega)
    have z3 : z1 (D v - 1) = 1 := if_neg (by omega)
    omega
  · by_cases q : w = v
    · rw [q, updN_same]; have := b v; omega
    · rw [updN_ne q]; exact b w
  · obtain ⟨c1, c2, c3⟩ := c j hj
    by_cases q : j = k
    · rw [q, updN_same, e1, updN_same]; exact ⟨hv, rfl, by omega⟩
    · have q2 : gp j ≠ v := fun z => q (d j k hj hk (z.trans e1.symm))
      rw [updN_ne q, updN_ne q2]; exact ⟨c1, c2, c3⟩
  · by_cases q : w = v
    · exact ⟨k, hk, e1.trans q.symm⟩
    · rw [updN_ne q] at h0; exact e w hw h0
theorem RowOK.remYes {bb cu lp le k v : Nat} {gp ge D : Nat → Nat} (R : RowOK bb cu lp le gp ge D) (hv : v < 8) (hk : k < cu) (e1 : gp k = v) (h1 : D v = 1) : RowOK bb (cu - 1) lp le (updN gp k (gp (cu - 1))) (updN (updN ge k (D v - 1)) k (updN ge k (D v - 1) (cu - 1))) (updN D v (D v - 1)) := by
  obtain ⟨⟨a1, a2, a3, a4, a5⟩, b, c, d, e⟩ := R
  refine ⟨⟨by omega, a2, by omega, a4, ?_⟩, fun w => ?_, fun j hj => ?_, fun i j hi hj z => ?_, fun w hw hD => ?_⟩
  · have z := c8_upd (D := D) (x := D v - 1) hv
    have z2 : z1 (D v) = 1 := if_neg (by omega)
    have z3 : z1 (D v - 1) = 0 := if_pos (by omega)
    omega
  · by_cases q : w = v
    · rw [q, updN_same]; omega
    · rw [updN_ne q]; exact b w
  · by_cases q : j = k
    · have ql : cu - 1 ≠ k := by omega
      obtain ⟨c1, c2, c3⟩ := c (cu - 1) (by omega)
      have q2 : gp (cu - 1) ≠ v := fun z => ql (d (cu - 1) k (by omega) hk (z.trans e1.symm))
      rw [q, updN_same, updN_same, updN_ne ql, updN_ne q2]; exact ⟨c1, c2, c3⟩
    · obtain ⟨c1, c2, c3⟩ := c j (by omega)
      have q2 : gp j ≠ v := fun z => q (d j k (by omega) hk (z.trans e1.symm))
      rw [updN_ne q, updN_ne q, updN_ne q, updN_ne q2]; exact ⟨c1, c2, c3⟩
  · by_cases qi : i = k
    · by_cases qj : j = k
      · omega
      · rw [qi, updN_same, updN_ne qj] at z; have := d (cu - 1) j (by omega) (by omega) z; omega
    · by_cases qj : j = k
      · rw [qj, updN_same, updN_ne qi] at z; have := d i (cu - 1) (by omega) (by omega) z; omega
      · rw [updN_ne qi, updN_ne qj] at z; exact d i j (by omega) (by omega) z
  · by_cases q : w = v
    · rw [q, updN_same] at hD; omega
    · rw [updN_ne q] at hD
      obtain ⟨k0, hk0, ek⟩ := e w hw hD
      have qk : k0 ≠ k := fun z => q (by rw [← ek, z, e1])
      by_cases ql : k0 = cu - 1
      · exact ⟨k, by omega, by rw [updN_same, ← ql]; exact ek⟩
      · exact ⟨k0, by omega, by rw [updN_ne qk]; exact ek⟩
/-- a Links of nn units between which there are CC edges, the row of u bounded by bb u; ex: an int[] that lies beside it -/
def LA (Z : State) (h : Heap) (lk ex : Addr) (nx : Nat) (gx : Nat → Nat) (nn : Nat) (bb : Nat → Nat) (CC : Nat → Nat → Nat) : Prop := nn < 64 ∧ ∃ pa ca kk cn r len ff, LC Z h lk pa ca kk ex nx gx nn cn r len ff ∧ ∀ u, u < nn → RowOK (bb u) (cn u) (len true u) (len false u) (ff true u) (ff false u) (CC u)
theorem LA.view {bb : Nat → Nat} {CC : Nat → Nat → Nat} (F : LA Z h lk ex nx gx nn bb CC) (hu : u < nn) : ∃ pa ca cn0 len0 ff0 cu ap ae lp le gp ge, FO Z h lk pa ca ex nx gx nn cn0 len0 ff0 u cu ap ae lp le gp ge ∧ RowOK (bb u) cu lp le gp ge (CC u) ∧ ∀ u', u' < nn → u' ≠ u → RowOK (bb u') (cn0 u') (len0 true u') (len0 false u') (ff0 true u') (ff0 false u') (CC u') := by
  obtain ⟨hn, pa, ca, kk, cn, r, len, ff, L, R⟩ := F
  exact ⟨pa, ca, cn, len, ff, cn u, r true u, r false u, len true u, len false u, ff true u, ff false u, ⟨hu, hn, kk, cn, r, len, ff, L, rfl, ⟨rfl, rfl⟩, ⟨rfl, rfl⟩, ⟨rfl, rfl⟩, fun u' _ => ⟨rfl, fun t => ⟨rfl, rfl⟩⟩⟩, R u hu, fun u' hu' _ => R u' hu'⟩
theorem FO.close {bb : Nat → Nat} {CC : Nat → Nat → Nat} (F : FO Z h lk pa ca ex nx gx nn cn0 len0 ff0 u cu ap ae lp le gp ge) (R1 : RowOK (bb u) cu lp le gp ge (CC u)) (R2 : ∀ u', u' < nn → u' ≠ u → RowOK (bb u') (cn0 u') (len0 true u') (len0 false u') (ff0 true u') (ff0 false u') (CC u')) : LA Z h lk ex nx gx nn bb CC := by
  obtain ⟨hu, hn, kk, cn, r, len, ff, F, rfl, -, ⟨rfl, rfl⟩, ⟨rfl, rfl⟩, ho⟩ := F
  refine ⟨hn, pa, ca, kk, cn, r, len, ff, F, fun u' hu' => ?_⟩
  by_cases q : u' = u
  · rw [q]; exact R1
  · obtain ⟨q1, q2⟩ := ho u' q
    rw [q1, (q2 true).1, (q2 false).1, (q2 true).2, (q2 false).2]; exact R2 u' hu' q
theorem LA.exa {bb : Nat → Nat} {CC : Nat → Nat → Nat} (F : LA Z h lk ex nx gx nn bb CC) : Exa Z h lk LN := by obtain ⟨hn, pa, ca, kk, cn, r, len, ff, L, R⟩ := F; exact L.1
theorem LA.exi {bb : Nat → Nat} {CC : Nat → Nat → Nat} (F : LA Z h lk ex nx gx nn bb CC) : IN Z h ex nx gx := by obtain ⟨hn, pa, ca, kk, cn, r, len, ff, L, R⟩ := F; exact L.2.2.2.2.1
theorem LA.stX {bb : Nat → Nat} {CC : Nat → Nat → Nat} {j x : Nat} (F : LA Z h lk ex nx gx nn bb CC) (hz : Z.heap.size ≤ ex) (W : Wr h h' ex j (.int (Int32.ofNat x))) : LA Z h' lk ex nx (updN gx j x) nn bb CC := by obtain ⟨hn, pa, ca, kk, cn, r, len, ff, L, R⟩ := F; exact ⟨hn, pa, ca, kk, cn, r, len, ff, L.stEx hz W, R⟩
theorem LA.mono {bb bb' : Nat → Nat} {CC : Nat → Nat → Nat} (F : LA Z h lk ex nx gx nn bb CC) (q : ∀ u, u < nn → bb u ≤ bb' u) : LA Z h lk ex nx gx nn bb' CC := by obtain ⟨hn, pa, ca, kk, cn, r, len, ff, L, R⟩ := F; exact ⟨hn, pa, ca, kk, cn, r, len, ff, L, fun u hu => (R u hu).mono (q u hu)⟩
theorem LA.bnd {bb : Nat → Nat} {CC : Nat → Nat → Nat} (F : LA Z h lk ex nx gx nn bb CC) (hu : u < nn) (v : Nat) : CC u v ≤ bb u := by obtain ⟨hn, pa, ca, kk, cn, r, len, ff, L, R⟩ := F; exact (R u hu).2.1 v
/-- one edge more, one less, from u to v -/
def up1 (CC : Nat → Nat → Nat) (u v : Nat) : Nat → Nat → Nat := fun x => if x = u then updN (CC u) v (CC u v + 1) else CC x
def dn1 (CC : Nat → Nat → Nat) (u v : Nat) : Nat → Nat → Nat := fun x => if x = u then updN (CC u) v (CC u v - 1) else CC x
theorem up1_at {CC : Nat → Nat → Nat} {u v : Nat} : up1 CC u v u = updN (CC u) v (CC u v + 1) := if_pos rfl
theorem up1_ne {CC : Nat → Nat → Nat} {u v x : Nat} (q : x ≠ u) : up1 CC u v x = CC x := if_neg q
theorem dn1_at {CC : Nat → Nat → Nat} {u v : Nat} : dn1 CC u v u = updN (CC u) v (CC u v - 1) := if_pos rfl
theorem dn1_ne {CC : Nat → Nat → Nat} {u v x : Nat} (q : x ≠ u) : dn1 CC u v x = CC x := if_neg q
theorem nar_ite {q : Prop} [Decidable q] : nar .boolean (if q then 1 else 0) = if q then 1 else 0 := by
  by_cases z : q
  · rw [if_pos z]; rfl
  · rw [if_neg z]; rfl
theorem fill_upd {f : Nat → Value} {w : Value} {i : Nat} (j : Nat) : upd (fun j => if j < i then w else f j) i w j = if j < i + 1 then w else f j := by
  show (if j = i then w else (if j < i then w else f j)) = _
  by_cases q : j = i
  · rw [if_pos q, if_pos (by omega)]
  · rw [if_neg q]
    by_cases q2 : j < i
    · rw [if_pos q2, if_pos (by omega)]
    · rw [if_neg q2, if_neg (by omega)]
theorem LC.newEx {t : Addr} {N : Nat} {g : Nat → Nat} (F : LC Z h lk pa ca kk ex nx gx nn cn r len ff) (K : Keep h h' []) (hb : h.size ≤ t) (I : IN Z h' t N g) : LC Z h' lk pa ca kk t N g nn cn r len ff := by
  have l1 : lk < h.size := F.1.lt
  have l2 : ∀ b, pa b < h.size := fun b => (F.2.2.1 b).1.lt
  have l3 : ca < h.size := F.2.2.2.1.lt
  have l5 : ∀ b u, u < nn → r b u < h.size := fun b u hu => (F.2.2.2.2.2.1 b u hu).lt
  obtain ⟨E, f, A, c1, x1, ro, ⟨zz, dd, -, s4⟩⟩ := F.keep0 K
  refine ⟨E, f, A, c1, I, ro, zz, dd, ⟨Nat.ne_of_gt (Nat.lt_of_lt_of_le l1 hb), Nat.ne_of_gt (Nat.lt_of_lt_of_le l3 hb), fun b => Nat.ne_of_gt (Nat.lt_of_lt_of_le (l2 b) hb)⟩, fun b u hu => ?_⟩
  rcases s4 b u hu with z | ⟨g0, g1, g2, g3, g4, g5⟩
  · exact Or.inl z
  · exact Or.inr ⟨g0, g1, g2, g3, Nat.ne_of_lt (Nat.lt_of_lt_of_le (l5 b u hu) hb), g5⟩
theorem LA.newEx {bb : Nat → Nat} {CC : Nat → Nat → Nat} {t : Addr} {N : Nat} {g : Nat → Nat} (F : LA Z h lk ex nx gx nn bb CC) (K : Keep h h' []) (hb : h.size ≤ t) (I : IN Z h' t N g) : LA Z h' lk t N g nn bb CC := by
  obtain ⟨hn, pa, ca, kk, cn, r, len, ff, L, R⟩ := F; exact ⟨hn, pa, ca, kk, cn, r, len, ff, L.newEx K hb I, R⟩
theorem LA.zh {bb : Nat → Nat} {CC : Nat → Nat → Nat} (F : LA Z h lk ex nx gx nn bb CC) : Z.heap.size ≤ h.size := by obtain ⟨hn, pa, ca, kk, cn, r, len, ff, L, R⟩ := F; exact Nat.le_of_lt (Nat.lt_of_le_of_lt L.2.2.2.2.2.2.1.1 L.1.lt)
theorem LA.start {a1 a2 a3 wN : Addr} {k1 k2 k3 : ClassId} {g : Nat → Nat} (E : Exa Z h lk LN) (D1 : Fld Z h lk LN "partners" "[[I" (.ref a1)) (D2 : Fld Z h lk LN "edges" "[[I" (.ref a2)) (D3 : Fld Z h lk LN "partnerCount" "[I" (.ref a3)) (A1 : Ary Z h a1 k1 (.array .int) nn (fun _ => .ref wN)) (V1 : OvrA Z k1 .int "[I") (A2 : Ary Z h a2 k2 (.array .int) nn (fun _ => .ref wN)) (V2 : OvrA Z k2 .int "[I") (A3 : Ary Z h a3 k3 .int nn (fun _ => .int 0)) (I : IN Z h wN 0 g) (hN : wN < Z.heap.size)
    (z0 : Z.heap.size ≤ lk) (z1_ : Z.heap.size ≤ a1) (z2 : Z.heap.size ≤ a2) (z3 : Z.heap.size ≤ a3) (n1 : lk ≠ a1) (n2 : lk ≠ a2) (n3 : lk ≠ a3) (n4 : a1 ≠ a2) (n5 : a1 ≠ a3) (n6 : a2 ≠ a3) (hn : nn < 64) : LA Z h lk wN 0 g nn (fun _ => 0) (fun _ _ => 0) := by
  refine ⟨hn, fun t => cond t a1 a2, a3, fun t => cond t k1 k2, fun _ => 0, fun _ _ => wN, fun _ _ => 0, fun _ _ => g, ⟨E, ⟨D1, D2, D3⟩, ?_, ⟨k3, A3⟩, I, fun _ _ _ => I, ⟨z0, z3, ?_⟩, ⟨n3.symm, ?_, ?_, ?_⟩, ⟨Nat.ne_of_lt (Nat.lt_of_lt_of_le hN z0), Nat.ne_of_lt (Nat.lt_of_lt_of_le hN z3), ?_⟩, fun t u hu => Or.inl ⟨rfl, hN⟩⟩, fun u hu => ⟨⟨Nat.le_refl _, rfl, Nat.le_refl _, Or.inl rfl, rfl⟩, fun _ => Nat.le_refl _, fun k hk => absurd hk (Nat.not_lt_zero k), fun j k hj => absurd hj (Nat.not_lt_zero j), fun v _ h0 => absurd h0 (Nat.lt_irrefl _)⟩⟩
  · intro t; cases t
    · exact ⟨A2, V2⟩
    · exact ⟨A1, V1⟩
  · intro t; cases t
    · exact z2
    · exact z1_
  · intro t; cases t
    · exact n2.symm
    · exact n1.symm
  · intro t; cases t
    · exact n6
    · exact n5
  · intro t t' q
    cases t <;> cases t'
    · rfl
    · exact absurd q n4.symm
    · exact absurd q n4
    · rfl
  · intro t; cases t
    · exact Nat.ne_of_lt (Nat.lt_of_lt_of_le hN z2)
    · exact Nat.ne_of_lt (Nat.lt_of_lt_of_le hN z1_)
/-- 1 where the pair u, v is the pair x, y -/
def mt (u v x y : Nat) : Nat := if (u = x ∧ v = y) ∨ (u = y ∧ v = x) then 1 else 0
theorem mt_le (u v x y : Nat) : mt u v x y ≤ 1 := by unfold mt; split <;> omega
theorem mt_sym (u v x y : Nat) : mt u v x y = mt u v y x := by
  by_cases q : (u = x ∧ v = y) ∨ (u = y ∧ v = x)
  · exact (if_pos q).trans (if_pos q.symm).symm
  · exact (if_neg q).trans (if_neg (fun z => q z.symm)).symm
theorem mt_self (u v : Nat) : mt u v u v = 1 := if_pos (Or.inl ⟨rfl, rfl⟩)
theorem mt_flip (u v : Nat) : mt u v v u = 1 := if_pos (Or.inr ⟨rfl, rfl⟩)
theorem aE_at {CC : Nat → Nat → Nat} {u v : Nat} (hne : u ≠ v) (x y : Nat) : up1 (up1 CC u v) v u x y = CC x y + mt u v x y := by
  by_cases q1 : x = v
  · rw [q1, up1_at, up1_ne hne.symm]
    by_cases q2 : y = u
    · rw [q2, updN_same, mt_flip]
    · rw [updN_ne q2, show mt u v v y = 0 from if_neg (by omega)]; first | done | rfl
  · rw [up1_ne q1]
    by_cases q2 : x = u
    · rw [q2, up1_at]
      by_cases q3 : y = v
      · rw [q3, updN_same, mt_self]
      · rw [updN_ne q3, show mt u v u y = 0 from if_neg (by omega)]; first | done | rfl
    · rw [up1_ne q2, show mt u v x y = 0 from if_neg (by omega)]; first | done | rfl
theorem dE_at {CC : Nat → Nat → Nat} {u v : Nat} (hne : u ≠ v) (x y : Nat) : dn1 (dn1 CC u v) v u x y = CC x y - mt u v x y := by
  by_cases q1 : x = v
  · rw [q1, dn1_at, dn1_ne hne.symm]
    by_cases q2 : y = u
    · rw [q2, updN_same, mt_flip]
    · rw [updN_ne q2, show mt u v v y = 0 from if_neg (by omega)]; first | done | rfl
  · rw [dn1_ne q1]
    by_cases q2 : x = u
    · rw [q2, dn1_at]
      by_cases q3 : y = v
      · rw [q3, updN_same, mt_self]
      · rw [updN_ne q3, show mt u v u y = 0 from if_neg (by omega)]; first | done | rfl
    · rw [dn1_ne q2, show mt u v x y = 0 from if_neg (by omega)]; first | done | rfl
theorem mt_sw (u v x y : Nat) : mt u v x y = mt v u x y := by
  by_cases q : (u = x ∧ v = y) ∨ (u = y ∧ v = x)
  · exact (if_pos q).trans (if_pos (by omega)).symm
  · exact (if_neg q).trans (if_neg (by omega)).symm
/-- the edges of the third law: a1 between u and t1, a2 between v and t2, k between u and v -/
def CH (u v t1 t2 a1 a2 k : Nat) (C : Nat → Nat → Nat) : Prop := ∀ x y, C x y = a1 * mt u t1 x y + a2 * mt v t2 x y + k * mt u v x y
theorem CH.add1 {u v t1 t2 a1 a2 k : Nat} {C : Nat → Nat → Nat} (H : CH u v t1 t2 a1 a2 k C) (hne : u ≠ t1) : CH u v t1 t2 (a1 + 1) a2 k (up1 (up1 C u t1) t1 u) := by
  intro x y
  rw [aE_at hne, H x y, Nat.add_mul, Nat.one_mul]; omega
theorem CH.add1f {u v t1 t2 a1 a2 k : Nat} {C : Nat → Nat → Nat} (H : CH u v t1 t2 a1 a2 k C) (hne : t1 ≠ u) : CH u v t1 t2 (a1 + 1) a2 k (up1 (up1 C t1 u) u t1) := by
  intro x y
  rw [aE_at hne, mt_sw t1 u, H x y, Nat.add_mul, Nat.one_mul]; omega
theorem CH.add2 {u v t1 t2 a1 a2 k : Nat} {C : Nat → Nat → Nat} (H : CH u v t1 t2 a1 a2 k C) (hne : v ≠ t2) : CH u v t1 t2 a1 (a2 + 1) k (up1 (up1 C v t2) t2 v) := by
  intro x y
  rw [aE_at hne, H x y, Nat.add_mul, Nat.one_mul]; omega
theorem CH.add2f {u v t1 t2 a1 a2 k : Nat} {C : Nat → Nat → Nat} (H : CH u v t1 t2 a1 a2 k C) (hne : t2 ≠ v) : CH u v t1 t2 a1 (a2 + 1) k (up1 (up1 C t2 v) v t2) := by
  intro x y
  rw [aE_at hne, mt_sw t2 v, H x y, Nat.add_mul, Nat.one_mul]; omega
theorem CH.add3 {u v t1 t2 a1 a2 k : Nat} {C : Nat → Nat → Nat} (H : CH u v t1 t2 a1 a2 k C) (hne : u ≠ v) : CH u v t1 t2 a1 a2 (k + 1) (up1 (up1 C u v) v u) := by
  intro x y
  rw [aE_at hne, H x y, Nat.add_mul, Nat.one_mul]; omega
theorem CH.add3f {u v t1 t2 a1 a2 k : Nat} {C : Nat → Nat → Nat} (H : CH u v t1 t2 a1 a2 k C) (hne : v ≠ u) : CH u v t1 t2 a1 a2 (k + 1) (up1 (up1 C v u) u v) := by
  intro x y
  rw [aE_at hne, mt_sw v u, H x y, Nat.add_mul, Nat.one_mul]; omega
theorem CH.rem {u v t1 t2 a1 a2 k : Nat} {C : Nat → Nat → Nat} (H : CH u v t1 t2 a1 a2 k C) (hne : u ≠ v) (hk : 0 < k) : CH u v t1 t2 a1 a2 (k - 1) (dn1 (dn1 C u v) v u) := by
  intro x y
  rw [dE_at hne, H x y]
  have z := mt_le u v x y
  rcases (by omega : mt u v x y = 0 ∨ mt u v x y = 1) with z | z
  · rw [z]; omega
  · rw [z]; omega
theorem CH.remf {u v t1 t2 a1 a2 k : Nat} {C : Nat → Nat → Nat} (H : CH u v t1 t2 a1 a2 k C) (hne : v ≠ u) (hk : 0 < k) : CH u v t1 t2 a1 a2 (k - 1) (dn1 (dn1 C v u) u v) := by
  intro x y
  rw [dE_at hne, mt_sw v u, H x y]
  have z := mt_le u v x y
  rcases (by omega : mt u v x y = 0 ∨ mt u v x y = 1) with z | z
  · rw [z]; omega
  · rw [z]; omega
theorem mt_no {u v x y : Nat} (q : ¬ ((u = x ∧ v = y) ∨ (u = y ∧ v = x))) : mt u v x y = 0 := if_neg q
theorem row_c : ∀ u v t : Fin 4, ∀ f : Fin 2, ∀ k : Fin 3, u.1 ≠ v.1 → t.1 ≠ u.1 → t.1 ≠ v.1 → c8 (fun y => f.1 * mt u.1 t.1 u.1 y + k.1 * mt u.1 v.1 u.1 y) = f.1 + (if k.1 = 0 then 0 else 1) := by decide +kernel
theorem CH.cntU {u v t1 t2 a1 a2 k : Nat} {C : Nat → Nat → Nat} (H : CH u v t1 t2 a1 a2 k C) (hu : u < 4) (hv : v < 4) (h1 : t1 < 4) (n0 : u ≠ v) (n1 : t1 ≠ u) (n2 : t1 ≠ v) (n3 : t2 ≠ u) (ha : a1 < 2) (hk : k < 3) : c8 (C u) = a1 + (if k = 0 then 0 else 1) := by
  have e : C u = fun y => a1 * mt u t1 u y + k * mt u v u y := funext fun y => by rw [H u y, mt_no (u := v) (v := t2) (x := u) (y := y) (by omega)]; omega
  rw [e]; exact row_c ⟨u, hu⟩ ⟨v, hv⟩ ⟨t1, h1⟩ ⟨a1, ha⟩ ⟨k, hk⟩ n0 n1 n2
theorem CH.cntV {u v t1 t2 a1 a2 k : Nat} {C : Nat → Nat → Nat} (H : CH u v t1 t2 a1 a2 k C) (hu : u < 4) (hv : v < 4) (h2 : t2 < 4) (n0 : u ≠ v) (n1 : t2 ≠ u) (n2 : t2 ≠ v) (n3 : t1 ≠ v) (ha : a2 < 2) (hk : k < 3) : c8 (C v) = a2 + (if k = 0 then 0 else 1) := by
  have e : C v = fun y => a2 * mt v t2 v y + k * mt v u v y := funext fun y => by rw [H v y, mt_no (u := u) (v := t1) (x := v) (y := y) (by omega), mt_sw u v]; omega
  rw [e]; exact row_c ⟨v, hv⟩ ⟨u, hu⟩ ⟨t2, h2⟩ ⟨a2, ha⟩ ⟨k, hk⟩ n0.symm n2 n1
theorem b_selN (B : Ctx p s m meth c Z own nm bytes maxL ret) (X : Stand p l e R s m args below meth c T locs cells slots) {x : Int32} {na nb J py pn : Nat} {o : Int} (hd : decode bytes pc = .ok (.ifCond .eq o, 3)) (ho : 0 ≤ (pc : Int) + o) (hy : ((pc : Int) + o).toNat = py) (hn : pc + 3 = pn) (kb : Go p e below P (T.setTop (mkF m J Ls (.int (Int32.ofNat nb) :: rest))) → Go p e below P (T.setTop (mkF m py Ls (rest)))) (ka : Go p e below P (T.setTop (mkF m J Ls (.int (Int32.ofNat na) :: rest))) → Go p e below P (T.setTop (mkF m pn Ls (rest)))) (k : ∀ z : Nat, z = nb ∨ z = na → Go p e below P (T.setTop (mkF m J Ls (.int (Int32.ofNat z) :: rest)))) : Go p e below P (T.setTop (mkF m pc Ls (.int x :: rest))) := b_if_eq B X hd ho hy hn (fun _ => kb (k nb (Or.inl rfl))) (fun _ => ka (k na (Or.inr rfl)))
def mx4 (k : Nat) : Nat := if k ≤ 2 then 4 else 2 * k
end Links
end Jvm.OwnKit

namespace Jvm.Pilot.@@N@@
open Jvm Jvm.ClassFile Sem Op Lib Jvm.Free Jvm.Stand Jvm.LawKit Jvm.RoadKit Jvm.OwnKit Bundle Jvm.Pilot.@@N@@.Jvm.D
theorem tw0 {Z : State} {a0 : Array Value} (hw : ∀ d ∈ tables_1, d.before a0 Z = true) : (Jvm.Cond.constant "unitloom/engine/LinksRemoveEdgePinLaw" (7 : Nat) (2147483647 : Int32)).before a0 Z = true := hw _ (List.mem_of_getElem? (i := 0) rfl)
theorem tw1 {Z : State} {a0 : Array Value} (hw : ∀ d ∈ tables_1, d.before a0 Z = true) : (Jvm.Cond.classLink "unitloom/engine/LinksRemoveEdgePinLaw" (8 : Nat) "unitloom/engine/Links").before a0 Z = true := hw _ (List.mem_of_getElem? (i := 1) rfl)
theorem tw2 {Z : State} {a0 : Array Value} (hw : ∀ d ∈ tables_1, d.before a0 Z = true) : (Jvm.Cond.instantiable "unitloom/engine/Links" (3 : Nat)).before a0 Z = true := hw _ (List.mem_of_getElem? (i := 2) rfl)
theorem tw3 {Z : State} {a0 : Array Value} (hw : ∀ d ∈ tables_1, d.before a0 Z = true) : (Jvm.Cond.initialized "unitloom/engine/Links").before a0 Z = true := hw _ (List.mem_of_getElem? (i := 3) rfl)
theorem tw4 {Z : State} {a0 : Array Value} (hw : ∀ d ∈ tables_1, d.before a0 Z = true) : (Jvm.Cond.methodLink "unitloom/engine/LinksRemoveEdgePinLaw" (10 : Nat) ({ cls := "unitloom/engine/Links", name := "<init>", desc := "(I)V" } : Jvm.MethodName)).before a0 Z = true := hw _ (List.mem_of_getElem? (i := 4) rfl)
theorem tw5 {Z : State} {a0 : Array Value} (hw : ∀ d ∈ tables_1, d.before a0 Z = true) : (Jvm.Cond.instanceMethod ({ cls := "unitloom/engine/Links", name := "<init>", desc := "(I)V" } : Jvm.MethodName)).before a0 Z = true := hw _ (List.mem_of_getElem? (i := 5) rfl)
theorem tw6 {Z : State} {a0 : Array Value} (hw : ∀ d ∈ tables_1, d.before a0 Z = true) : (Jvm.Cond.code ({ cls := "unitloom/engine/Links", name := "<init>", desc := "(I)V" } : Jvm.MethodName) prog_8_method_1_code (2 : Nat) (Option.none : Option Jvm.ClassFile.FieldType)).before a0 Z = true := hw _ (List.mem_of_getElem? (i := 6) rfl)
theorem tw7 {Z : State} {a0 : Array Value} (hw : ∀ d ∈ tables_1, d.before a0 Z = true) : (Jvm.Cond.methodLink "unitloom/engine/Links" (1 : Nat) ({ cls := "java/lang/Object", name := "<init>", desc := "()V" } : Jvm.MethodName)).before a0 Z = true := hw _ (List.mem_of_getElem? (i := 7) rfl)
theorem tw8 {Z : State} {a0 : Array Value} (hw : ∀ d ∈ tables_1, d.before a0 Z = true) : (Jvm.Cond.instanceMethod ({ cls := "java/lang/Object", name := "<init>", desc := "()V" } : Jvm.MethodName)).before a0 Z = true := hw _ (List.mem_of_getElem? (i := 8) rfl)
theorem tw9 {Z : State} {a0 : Array Value} (hw : ∀ d ∈ tables_1, d.before a0 Z = true) : (Jvm.Cond.code ({ cls := "java/lang/Object", name := "<init>", desc := "()V" } : Jvm.MethodName) object_method_1_code (1 : Nat) (Option.none : Option Jvm.ClassFile.FieldType)).before a0 Z = true := hw _ (List.mem_of_getElem? (i := 9) rfl)
theorem tw10 {Z : State} {a0 : Array Value} (hw : ∀ d ∈ tables_1, d.before a0 Z = true) : (Jvm.Cond.classLink "unitloom/engine/Links" (7 : Nat) "[I").before a0 Z = true := hw _ (List.mem_of_getElem? (i := 10) rfl)
theorem tw11 {Z : State} {a0 : Array Value} (hw : ∀ d ∈ tables_1, d.before a0 Z = true) : (Jvm.Cond.arrayOver (Jvm.ClassFile.FieldType.array Jvm.ClassFile.FieldType.int)).before a0 Z = true := hw _ (List.mem_of_getElem? (i := 11) rfl)
theorem tw12 {Z : State} {a0 : Array Value} (hw : ∀ d ∈ tables_1, d.before a0 Z = true) : (Jvm.Cond.fieldLink "unitloom/engine/Links" (9 : Nat) "unitloom/engine/Links" "partners" "[[I").before a0 Z = true := hw _ (List.mem_of_getElem? (i := 12) rfl)
theorem tw13 {Z : State} {a0 : Array Value} (hw : ∀ d ∈ tables_1, d.before a0 Z = true) : (Jvm.Cond.laysFinal "unitloom/engine/Links" "unitloom/engine/Links" "partners" "[[I").before a0 Z = true := hw _ (List.mem_of_getElem? (i := 13) rfl)
theorem tw14 {Z : State} {a0 : Array Value} (hw : ∀ d ∈ tables_1, d.before a0 Z = true) : (Jvm.Cond.fieldLink "unitloom/engine/Links" (15 : Nat) "unitloom/engine/Links" "edges" "[[I").before a0 Z = true := hw _ (List.mem_of_getElem? (i := 14) rfl)
theorem tw15 {Z : State} {a0 : Array Value} (hw : ∀ d ∈ tables_1, d.before a0 Z = true) : (Jvm.Cond.laysFinal "unitloom/engine/Links" "unitloom/engine/Links" "edges" "[[I").before a0 Z = true := hw _ (List.mem_of_getElem? (i := 15) rfl)
theorem tw16 {Z : State} {a0 : Array Value} (hw : ∀ d ∈ tables_1, d.before a0 Z = true) : (Jvm.Cond.fieldLink "unitloom/engine/Links" (18 : Nat) "unitloom/engine/Links" "NO_UNITS" "[I").before a0 Z = true := hw _ (List.mem_of_getElem? (i := 16) rfl)
theorem tw17 {Z : State} {a0 : Array Value} (hw : ∀ d ∈ tables_1, d.before a0 Z = true) : (Jvm.Cond.laysStatic "unitloom/engine/Links" "NO_UNITS" "[I").before a0 Z = true := hw _ (List.mem_of_getElem? (i := 17) rfl)
theorem tw18 {Z : State} {a0 : Array Value} (hw : ∀ d ∈ tables_1, d.before a0 Z = true) : (Jvm.Cond.methodLink "unitloom/engine/Links" (21 : Nat) ({ cls := "java/util/Arrays", name := "fill", desc := "([Ljava/lang/Object;Ljava/lang/Object;)V" } : Jvm.MethodName)).before a0 Z = true := hw _ (List.mem_of_getElem? (i := 18) rfl)
theorem tw19 {Z : State} {a0 : Array Value} (hw : ∀ d ∈ tables_1, d.before a0 Z = true) : (Jvm.Cond.static ({ cls := "java/util/Arrays", name := "fill", desc := "([Ljava/lang/Object;Ljava/lang/Object;)V" } : Jvm.MethodName)).before a0 Z = true := hw _ (List.mem_of_getElem? (i := 19) rfl)
theorem tw20 {Z : State} {a0 : Array Value} (hw : ∀ d ∈ tables_1, d.before a0 Z = true) : (Jvm.Cond.initialized "java/util/Arrays").before a0 Z = true := hw _ (List.mem_of_getElem? (i := 20) rfl)
theorem tw21 {Z : State} {a0 : Array Value} (hw : ∀ d ∈ tables_1, d.before a0 Z = true) : (Jvm.Cond.code ({ cls := "java/util/Arrays", name := "fill", desc := "([Ljava/lang/Object;Ljava/lang/Object;)V" } : Jvm.MethodName) jdk_65_method_117_code (4 : Nat) (Option.none : Option Jvm.ClassFile.FieldType)).before a0 Z = true := hw _ (List.mem_of_getElem? (i := 21) rfl)
theorem tw23 {Z : State} {a0 : Array Value} (hw : ∀ d ∈ tables_1, d.before a0 Z = true) : (Jvm.Cond.arrayClass Jvm.ClassFile.FieldType.int).before a0 Z = true := hw _ (List.mem_of_getElem? (i := 23) rfl)
theorem tw24 {Z : State} {a0 : Array Value} (hw : ∀ d ∈ tables_1, d.before a0 Z = true) : (Jvm.Cond.fieldLink "unitloom/engine/Links" (27 : Nat) "unitloom/engine/Links" "partnerCount" "[I").before a0 Z = true := hw _ (List.mem_of_getElem? (i := 24) rfl)
theorem tw25 {Z : State} {a0 : Array Value} (hw : ∀ d ∈ tables_1, d.before a0 Z = true) : (Jvm.Cond.laysFinal "unitloom/engine/Links" "unitloom/engine/Links" "partnerCount" "[I").before a0 Z = true := hw _ (List.mem_of_getElem? (i := 25) rfl)
theorem tw26 {Z : State} {a0 : Array Value} (hw : ∀ d ∈ tables_1, d.before a0 Z = true) : (Jvm.Cond.methodLink "unitloom/engine/LinksRemoveEdgePinLaw" (13 : Nat) ({ cls := "unitloom/engine/Links", name := "addEdge", desc := "(II)Z" } : Jvm.MethodName)).before a0 Z = true := hw _ (List.mem_of_getElem? (i := 26) rfl)
theorem tw27 {Z : State} {a0 : Array Value} (hw : ∀ d ∈ tables_1, d.before a0 Z = true) : (Jvm.Cond.declares ({ cls := "unitloom/engine/Links", name := "addEdge", desc := "(II)Z" } : Jvm.MethodName)).before a0 Z = true := hw _ (List.mem_of_getElem? (i := 27) rfl)
theorem tw28 {Z : State} {a0 : Array Value} (hw : ∀ d ∈ tables_1, d.before a0 Z = true) : (Jvm.Cond.instanceMethod ({ cls := "unitloom/engine/Links", name := "addEdge", desc := "(II)Z" } : Jvm.MethodName)).before a0 Z = true := hw _ (List.mem_of_getElem? (i := 28) rfl)
theorem tw29 {Z : State} {a0 : Array Value} (hw : ∀ d ∈ tables_1, d.before a0 Z = true) : (Jvm.Cond.selects "unitloom/engine/Links" ({ cls := "unitloom/engine/Links", name := "addEdge", desc := "(II)Z" } : Jvm.MethodName) ({ cls := "unitloom/engine/Links", name := "addEdge", desc := "(II)Z" } : Jvm.MethodName)).before a0 Z = true := hw _ (List.mem_of_getElem? (i := 29) rfl)
theorem tw30 {Z : State} {a0 : Array Value} (hw : ∀ d ∈ tables_1, d.before a0 Z = true) : (Jvm.Cond.code ({ cls := "unitloom/engine/Links", name := "addEdge", desc := "(II)Z" } : Jvm.MethodName) prog_8_method_6_code (3 : Nat) (Option.some Jvm.ClassFile.FieldType.boolean)).before a0 Z = true := hw _ (List.mem_of_getElem? (i := 30) rfl)
theorem tw31 {Z : State} {a0 : Array Value} (hw : ∀ d ∈ tables_1, d.before a0 Z = true) : (Jvm.Cond.methodLink "unitloom/engine/Links" (34 : Nat) ({ cls := "unitloom/engine/Links", name := "addOneWay", desc := "(III)Z" } : Jvm.MethodName)).before a0 Z = true := hw _ (List.mem_of_getElem? (i := 31) rfl)
theorem tw32 {Z : State} {a0 : Array Value} (hw : ∀ d ∈ tables_1, d.before a0 Z = true) : (Jvm.Cond.instanceMethod ({ cls := "unitloom/engine/Links", name := "addOneWay", desc := "(III)Z" } : Jvm.MethodName)).before a0 Z = true := hw _ (List.mem_of_getElem? (i := 32) rfl)
theorem tw33 {Z : State} {a0 : Array Value} (hw : ∀ d ∈ tables_1, d.before a0 Z = true) : (Jvm.Cond.privateMethod ({ cls := "unitloom/engine/Links", name := "addOneWay", desc := "(III)Z" } : Jvm.MethodName)).before a0 Z = true := hw _ (List.mem_of_getElem? (i := 33) rfl)
theorem tw34 {Z : State} {a0 : Array Value} (hw : ∀ d ∈ tables_1, d.before a0 Z = true) : (Jvm.Cond.code ({ cls := "unitloom/engine/Links", name := "addOneWay", desc := "(III)Z" } : Jvm.MethodName) prog_8_method_11_code (6 : Nat) (Option.some Jvm.ClassFile.FieldType.boolean)).before a0 Z = true := hw _ (List.mem_of_getElem? (i := 34) rfl)
theorem tw35 {Z : State} {a0 : Array Value} (hw : ∀ d ∈ tables_1, d.before a0 Z = true) : (Jvm.Cond.methodLink "unitloom/engine/Links" (30 : Nat) ({ cls := "unitloom/engine/Links", name := "index", desc := "(II)I" } : Jvm.MethodName)).before a0 Z = true := hw _ (List.mem_of_getElem? (i := 35) rfl)
theorem tw36 {Z : State} {a0 : Array Value} (hw : ∀ d ∈ tables_1, d.before a0 Z = true) : (Jvm.Cond.instanceMethod ({ cls := "unitloom/engine/Links", name := "index", desc := "(II)I" } : Jvm.MethodName)).before a0 Z = true := hw _ (List.mem_of_getElem? (i := 36) rfl)
theorem tw37 {Z : State} {a0 : Array Value} (hw : ∀ d ∈ tables_1, d.before a0 Z = true) : (Jvm.Cond.privateMethod ({ cls := "unitloom/engine/Links", name := "index", desc := "(II)I" } : Jvm.MethodName)).before a0 Z = true := hw _ (List.mem_of_getElem? (i := 37) rfl)
theorem tw38 {Z : State} {a0 : Array Value} (hw : ∀ d ∈ tables_1, d.before a0 Z = true) : (Jvm.Cond.code ({ cls := "unitloom/engine/Links", name := "index", desc := "(II)I" } : Jvm.MethodName) prog_8_method_10_code (5 : Nat) (Option.some Jvm.ClassFile.FieldType.int)).before a0 Z = true := hw _ (List.mem_of_getElem? (i := 38) rfl)
theorem tw39 {Z : State} {a0 : Array Value} (hw : ∀ d ∈ tables_1, d.before a0 Z = true) : (Jvm.Cond.methodLink "unitloom/engine/Links" (44 : Nat) ({ cls := "java/lang/Math", name := "max", desc := "(II)I" } : Jvm.MethodName)).before a0 Z = true := hw _ (List.mem_of_getElem? (i := 39) rfl)
theorem tw40 {Z : State} {a0 : Array Value} (hw : ∀ d ∈ tables_1, d.before a0 Z = true) : (Jvm.Cond.static ({ cls := "java/lang/Math", name := "max", desc := "(II)I" } : Jvm.MethodName)).before a0 Z = true := hw _ (List.mem_of_getElem? (i := 40) rfl)
theorem tw41 {Z : State} {a0 : Array Value} (hw : ∀ d ∈ tables_1, d.before a0 Z = true) : (Jvm.Cond.initialized "java/lang/Math").before a0 Z = true := hw _ (List.mem_of_getElem? (i := 41) rfl)
theorem tw42 {Z : State} {a0 : Array Value} (hw : ∀ d ∈ tables_1, d.before a0 Z = true) : (Jvm.Cond.code ({ cls := "java/lang/Math", name := "max", desc := "(II)I" } : Jvm.MethodName) jdk_29_method_65_code (2 : Nat) (Option.some Jvm.ClassFile.FieldType.int)).before a0 Z = true := hw _ (List.mem_of_getElem? (i := 42) rfl)
theorem tw43 {Z : State} {a0 : Array Value} (hw : ∀ d ∈ tables_1, d.before a0 Z = true) : (Jvm.Cond.methodLink "unitloom/engine/Links" (49 : Nat) ({ cls := "java/util/Arrays", name := "copyOf", desc := "([II)[I" } : Jvm.MethodName)).before a0 Z = true := hw _ (List.mem_of_getElem? (i := 43) rfl)
theorem tw44 {Z : State} {a0 : Array Value} (hw : ∀ d ∈ tables_1, d.before a0 Z = true) : (Jvm.Cond.static ({ cls := "java/util/Arrays", name := "copyOf", desc := "([II)[I" } : Jvm.MethodName)).before a0 Z = true := hw _ (List.mem_of_getElem? (i := 44) rfl)
theorem tw45 {Z : State} {a0 : Array Value} (hw : ∀ d ∈ tables_1, d.before a0 Z = true) : (Jvm.Cond.code ({ cls := "java/util/Arrays", name := "copyOf", desc := "([II)[I" } : Jvm.MethodName) jdk_65_method_123_code (3 : Nat) (Option.some (Jvm.ClassFile.FieldType.array Jvm.ClassFile.FieldType.int))).before a0 Z = true := hw _ (List.mem_of_getElem? (i := 45) rfl)
theorem tw46 {Z : State} {a0 : Array Value} (hw : ∀ d ∈ tables_1, d.before a0 Z = true) : (Jvm.Cond.methodLink "java/util/Arrays" (304 : Nat) ({ cls := "java/lang/Math", name := "min", desc := "(II)I" } : Jvm.MethodName)).before a0 Z = true := hw _ (List.mem_of_getElem? (i := 46) rfl)
theorem tw47 {Z : State} {a0 : Array Value} (hw : ∀ d ∈ tables_1, d.before a0 Z = true) : (Jvm.Cond.static ({ cls := "java/lang/Math", name := "min", desc := "(II)I" } : Jvm.MethodName)).before a0 Z = true := hw _ (List.mem_of_getElem? (i := 47) rfl)
theorem tw48 {Z : State} {a0 : Array Value} (hw : ∀ d ∈ tables_1, d.before a0 Z = true) : (Jvm.Cond.code ({ cls := "java/lang/Math", name := "min", desc := "(II)I" } : Jvm.MethodName) jdk_29_method_69_code (2 : Nat) (Option.some Jvm.ClassFile.FieldType.int)).before a0 Z = true := hw _ (List.mem_of_getElem? (i := 48) rfl)
theorem tw49 {Z : State} {a0 : Array Value} (hw : ∀ d ∈ tables_1, d.before a0 Z = true) : (Jvm.Cond.methodLink "java/util/Arrays" (150 : Nat) ({ cls := "java/lang/System", name := "arraycopy", desc := "(Ljava/lang/Object;ILjava/lang/Object;II)V" } : Jvm.MethodName)).before a0 Z = true := hw _ (List.mem_of_getElem? (i := 49) rfl)
theorem tw50 {Z : State} {a0 : Array Value} (hw : ∀ d ∈ tables_1, d.before a0 Z = true) : (Jvm.Cond.static ({ cls := "java/lang/System", name := "arraycopy", desc := "(Ljava/lang/Object;ILjava/lang/Object;II)V" } : Jvm.MethodName)).before a0 Z = true := hw _ (List.mem_of_getElem? (i := 50) rfl)
theorem tw51 {Z : State} {a0 : Array Value} (hw : ∀ d ∈ tables_1, d.before a0 Z = true) : (Jvm.Cond.initialized "java/lang/System").before a0 Z = true := hw _ (List.mem_of_getElem? (i := 51) rfl)
theorem tw52 {Z : State} {a0 : Array Value} (hw : ∀ d ∈ tables_1, d.before a0 Z = true) : (Jvm.Cond.native ({ cls := "java/lang/System", name := "arraycopy", desc := "(Ljava/lang/Object;ILjava/lang/Object;II)V" } : Jvm.MethodName)).before a0 Z = true := hw _ (List.mem_of_getElem? (i := 52) rfl)
theorem tw53 {Z : State} {a0 : Array Value} (hw : ∀ d ∈ tables_1, d.before a0 Z = true) : (Jvm.Cond.methodLink "unitloom/engine/LinksRemoveEdgePinLaw" (17 : Nat) ({ cls := "unitloom/engine/Links", name := "removeEdge", desc := "(II)Z" } : Jvm.MethodName)).before a0 Z = true := hw _ (List.mem_of_getElem? (i := 53) rfl)
theorem tw54 {Z : State} {a0 : Array Value} (hw : ∀ d ∈ tables_1, d.before a0 Z = true) : (Jvm.Cond.declares ({ cls := "unitloom/engine/Links", name := "removeEdge", desc := "(II)Z" } : Jvm.MethodName)).before a0 Z = true := hw _ (List.mem_of_getElem? (i := 54) rfl)
theorem tw55 {Z : State} {a0 : Array Value} (hw : ∀ d ∈ tables_1, d.before a0 Z = true) : (Jvm.Cond.instanceMethod ({ cls := "unitloom/engine/Links", name := "removeEdge", desc := "(II)Z" } : Jvm.MethodName)).before a0 Z = true := hw _ (List.mem_of_getElem? (i := 55) rfl)
theorem tw56 {Z : State} {a0 : Array Value} (hw : ∀ d ∈ tables_1, d.before a0 Z = true) : (Jvm.Cond.selects "unitloom/engine/Links" ({ cls := "unitloom/engine/Links", name := "removeEdge", desc := "(II)Z" } : Jvm.MethodName) ({ cls := "unitloom/engine/Links", name := "removeEdge", desc := "(II)Z" } : Jvm.MethodName)).before a0 Z = true := hw _ (List.mem_of_getElem? (i := 56) rfl)
theorem tw57 {Z : State} {a0 : Array Value} (hw : ∀ d ∈ tables_1, d.before a0 Z = true) : (Jvm.Cond.code ({ cls := "unitloom/engine/Links", name := "removeEdge", desc := "(II)Z" } : Jvm.MethodName) prog_8_method_7_code (3 : Nat) (Option.some Jvm.ClassFile.FieldType.boolean)).before a0 Z = true := hw _ (List.mem_of_getElem? (i := 57) rfl)
theorem tw58 {Z : State} {a0 : Array Value} (hw : ∀ d ∈ tables_1, d.before a0 Z = true) : (Jvm.Cond.methodLink "unitloom/engine/Links" (38 : Nat) ({ cls := "unitloom/engine/Links", name := "removeOneWay", desc := "(III)Z" } : Jvm.MethodName)).before a0 Z = true := hw _ (List.mem_of_getElem? (i := 58) rfl)
theorem tw59 {Z : State} {a0 : Array Value} (hw : ∀ d ∈ tables_1, d.before a0 Z = true) : (Jvm.Cond.instanceMethod ({ cls := "unitloom/engine/Links", name := "removeOneWay", desc := "(III)Z" } : Jvm.MethodName)).before a0 Z = true := hw _ (List.mem_of_getElem? (i := 59) rfl)
theorem tw60 {Z : State} {a0 : Array Value} (hw : ∀ d ∈ tables_1, d.before a0 Z = true) : (Jvm.Cond.privateMethod ({ cls := "unitloom/engine/Links", name := "removeOneWay", desc := "(III)Z" } : Jvm.MethodName)).before a0 Z = true := hw _ (List.mem_of_getElem? (i := 60) rfl)
theorem tw61 {Z : State} {a0 : Array Value} (hw : ∀ d ∈ tables_1, d.before a0 Z = true) : (Jvm.Cond.code ({ cls := "unitloom/engine/Links", name := "removeOneWay", desc := "(III)Z" } : Jvm.MethodName) prog_8_method_12_code (7 : Nat) (Option.some Jvm.ClassFile.FieldType.boolean)).before a0 Z = true := hw _ (List.mem_of_getElem? (i := 61) rfl)
theorem tw62 {Z : State} {a0 : Array Value} (hw : ∀ d ∈ tables_1, d.before a0 Z = true) : (Jvm.Cond.methodLink "unitloom/engine/LinksRemoveEdgePinLaw" (20 : Nat) ({ cls := "unitloom/engine/Links", name := "edges", desc := "(II)I" } : Jvm.MethodName)).before a0 Z = true := hw _ (List.mem_of_getElem? (i := 62) rfl)
theorem tw63 {Z : State} {a0 : Array Value} (hw : ∀ d ∈ tables_1, d.before a0 Z = true) : (Jvm.Cond.declares ({ cls := "unitloom/engine/Links", name := "edges", desc := "(II)I" } : Jvm.MethodName)).before a0 Z = true := hw _ (List.mem_of_getElem? (i := 63) rfl)
theorem tw64 {Z : State} {a0 : Array Value} (hw : ∀ d ∈ tables_1, d.before a0 Z = true) : (Jvm.Cond.instanceMethod ({ cls := "unitloom/engine/Links", name := "edges", desc := "(II)I" } : Jvm.MethodName)).before a0 Z = true := hw _ (List.mem_of_getElem? (i := 64) rfl)
theorem tw65 {Z : State} {a0 : Array Value} (hw : ∀ d ∈ tables_1, d.before a0 Z = true) : (Jvm.Cond.selects "unitloom/engine/Links" ({ cls := "unitloom/engine/Links", name := "edges", desc := "(II)I" } : Jvm.MethodName) ({ cls := "unitloom/engine/Links", name := "edges", desc := "(II)I" } : Jvm.MethodName)).before a0 Z = true := hw _ (List.mem_of_getElem? (i := 65) rfl)
theorem tw66 {Z : State} {a0 : Array Value} (hw : ∀ d ∈ tables_1, d.before a0 Z = true) : (Jvm.Cond.code ({ cls := "unitloom/engine/Links", name := "edges", desc := "(II)I" } : Jvm.MethodName) prog_8_method_5_code (4 : Nat) (Option.some Jvm.ClassFile.FieldType.int)).before a0 Z = true := hw _ (List.mem_of_getElem? (i := 66) rfl)
theorem tw67 {Z : State} {a0 : Array Value} (hw : ∀ d ∈ tables_1, d.before a0 Z = true) : (Jvm.Cond.methodLink "unitloom/engine/LinksRemoveEdgePinLaw" (24 : Nat) ({ cls := "unitloom/engine/Links", name := "count", desc := "(I)I" } : Jvm.MethodName)).before a0 Z = true := hw _ (List.mem_of_getElem? (i := 67) rfl)
theorem tw68 {Z : State} {a0 : Array Value} (hw : ∀ d ∈ tables_1, d.before a0 Z = true) : (Jvm.Cond.declares ({ cls := "unitloom/engine/Links", name := "count", desc := "(I)I" } : Jvm.MethodName)).before a0 Z = true := hw _ (List.mem_of_getElem? (i := 68) rfl)
theorem tw69 {Z : State} {a0 : Array Value} (hw : ∀ d ∈ tables_1, d.before a0 Z = true) : (Jvm.Cond.instanceMethod ({ cls := "unitloom/engine/Links", name := "count", desc := "(I)I" } : Jvm.MethodName)).before a0 Z = true := hw _ (List.mem_of_getElem? (i := 69) rfl)
theorem tw70 {Z : State} {a0 : Array Value} (hw : ∀ d ∈ tables_1, d.before a0 Z = true) : (Jvm.Cond.selects "unitloom/engine/Links" ({ cls := "unitloom/engine/Links", name := "count", desc := "(I)I" } : Jvm.MethodName) ({ cls := "unitloom/engine/Links", name := "count", desc := "(I)I" } : Jvm.MethodName)).before a0 Z = true := hw _ (List.mem_of_getElem? (i := 70) rfl)
theorem tw71 {Z : State} {a0 : Array Value} (hw : ∀ d ∈ tables_1, d.before a0 Z = true) : (Jvm.Cond.code ({ cls := "unitloom/engine/Links", name := "count", desc := "(I)I" } : Jvm.MethodName) prog_8_method_2_code (2 : Nat) (Option.some Jvm.ClassFile.FieldType.int)).before a0 Z = true := hw _ (List.mem_of_getElem? (i := 71) rfl)
abbrev mn0 : MethodName := ⟨"unitloom/engine/Links", "index", "(II)I"⟩
abbrev mn1 : MethodName := ⟨"java/lang/Math", "max", "(II)I"⟩
abbrev mn2 : MethodName := ⟨"java/lang/Math", "min", "(II)I"⟩
abbrev mn3 : MethodName := ⟨"java/util/Arrays", "copyOf", "([II)[I"⟩
abbrev mn4 : MethodName := ⟨"unitloom/engine/Links", "addOneWay", "(III)Z"⟩
abbrev mn5 : MethodName := ⟨"unitloom/engine/Links", "removeOneWay", "(III)Z"⟩
abbrev mn6 : MethodName := ⟨"unitloom/engine/Links", "addEdge", "(II)Z"⟩
abbrev mn7 : MethodName := ⟨"unitloom/engine/Links", "removeEdge", "(II)Z"⟩
abbrev mn8 : MethodName := ⟨"unitloom/engine/Links", "edges", "(II)I"⟩
abbrev mn9 : MethodName := ⟨"unitloom/engine/Links", "count", "(I)I"⟩
abbrev mn10 : MethodName := ⟨"java/util/Arrays", "fill", "([Ljava/lang/Object;Ljava/lang/Object;)V"⟩
abbrev mn11 : MethodName := ⟨"unitloom/engine/Links", "<init>", "(I)V"⟩
theorem pd_6 : parseMethodDescriptor "(I)I" = some ⟨[.int], some .int⟩ := by decide +kernel
theorem pd_5 : parseMethodDescriptor "(II)Z" = some ⟨[.int, .int], some .boolean⟩ := by decide +kernel
theorem pd_4 : parseMethodDescriptor "(I)V" = some ⟨[.int], none⟩ := by decide +kernel
theorem pd_3 : parseMethodDescriptor "([Ljava/lang/Object;Ljava/lang/Object;)V" = some ⟨[(.array (.object "java/lang/Object")), (.object "java/lang/Object")], none⟩ := by decide +kernel
theorem pd_2 : parseMethodDescriptor "(III)Z" = some ⟨[.int, .int, .int], some .boolean⟩ := by decide +kernel
theorem pd_1 : parseMethodDescriptor "([II)[I" = some ⟨[(.array .int), .int], some (.array .int)⟩ := by decide +kernel
theorem pd_0 : parseMethodDescriptor "(II)I" = some ⟨[.int, .int], some .int⟩ := by decide +kernel
theorem own_rep_aux {d : Value} : ∀ (N i : Nat), i < N → (List.replicate N d).getD i d = d := fun N i hi => by simp [List.getD_eq_getElem?_getD, List.getElem?_replicate, hi]
theorem own_rep {d : Value} (N : Nat) : ∀ i, i < N → (fun _ : Nat => d) i = lst (List.replicate N d) d i := fun i hi => (own_rep_aux N i hi).symm
def OwnF (Z : State) (h : Heap) (w_NO_UNITS : Addr) : Prop := Sta Z h "unitloom/engine/Links" "NO_UNITS" "[I" (.ref w_NO_UNITS) ∧
  Exa Z h w_NO_UNITS "[I"
theorem OwnF.ext {Z : State} {h h' : Heap} {w_NO_UNITS : Addr} (E : Ext h h') (F : OwnF Z h w_NO_UNITS) : OwnF Z h' w_NO_UNITS := by
  obtain ⟨S_NO_UNITS, E_NO_UNITS⟩ := F
  exact ⟨S_NO_UNITS.ext E, E_NO_UNITS.ext E⟩
theorem own_rng4 {v : Int32} (h0 : 0 ≤ v.toInt) (h1 : v.toInt < 4) : v = 0 ∨ v = 1 ∨ v = 2 ∨ v = 3 := by
  rcases (by omega : v.toInt = 0 ∨ v.toInt = 1 ∨ v.toInt = 2 ∨ v.toInt = 3) with h | h | h | h
  · exact Or.inl (Int32.toInt_inj.mp (h.trans (by decide)))
  · exact Or.inr (Or.inl (Int32.toInt_inj.mp (h.trans (by decide))))
  · exact Or.inr (Or.inr (Or.inl (Int32.toInt_inj.mp (h.trans (by decide)))))
  · exact Or.inr (Or.inr (Or.inr ((Int32.toInt_inj.mp (h.trans (by decide))))))
theorem own_and3 (x : Int32) : x &&& 3 = 0 ∨ x &&& 3 = 1 ∨ x &&& 3 = 2 ∨ x &&& 3 = 3 := by
  have e := c_mask x 3 2 (by decide) (by decide)
  exact own_rng4 (by rw [e]; omega) (by rw [e]; omega)
theorem own_rng3 {v : Int32} (h0 : 0 ≤ v.toInt) (h1 : v.toInt < 3) : v = 0 ∨ v = 1 ∨ v = 2 := by
  rcases (by omega : v.toInt = 0 ∨ v.toInt = 1 ∨ v.toInt = 2) with h | h | h
  · exact Or.inl (Int32.toInt_inj.mp (h.trans (by decide)))
  · exact Or.inr (Or.inl (Int32.toInt_inj.mp (h.trans (by decide))))
  · exact Or.inr (Or.inr ((Int32.toInt_inj.mp (h.trans (by decide)))))
theorem own_rem3 (x : Int32) : (x &&& 2147483647) % 3 = 0 ∨ (x &&& 2147483647) % 3 = 1 ∨ (x &&& 2147483647) % 3 = 2 := by
  have e := c_mask x 2147483647 31 (by decide) (by decide)
  have e2 := (c_irem (x &&& 2147483647) 3 3 (by decide)).1 (by rw [e]; omega)
  exact own_rng3 (by rw [e2]; omega) (by rw [e2]; omega)
theorem d6_0 : decode prog_8_method_10_code 0 = .ok (.aload_n 0, 1) := by decide +kernel
theorem d6_1 : decode prog_8_method_10_code 1 = .ok (.getfield 9, 3) := by decide +kernel
theorem d6_4 : decode prog_8_method_10_code 4 = .ok (.iload_n 1, 1) := by decide +kernel
theorem d6_5 : decode prog_8_method_10_code 5 = .ok (.aaload, 1) := by decide +kernel
theorem d6_6 : decode prog_8_method_10_code 6 = .ok (.astore_n 3, 1) := by decide +kernel
theorem d6_7 : decode prog_8_method_10_code 7 = .ok (.iconst 0, 1) := by decide +kernel
theorem d6_8 : decode prog_8_method_10_code 8 = .ok (.istore 4, 2) := by decide +kernel
theorem d6_10 : decode prog_8_method_10_code 10 = .ok (.iload 4, 2) := by decide +kernel
theorem d6_12 : decode prog_8_method_10_code 12 = .ok (.aload_n 0, 1) := by decide +kernel
theorem d6_13 : decode prog_8_method_10_code 13 = .ok (.getfield 27, 3) := by decide +kernel
theorem d6_16 : decode prog_8_method_10_code 16 = .ok (.iload_n 1, 1) := by decide +kernel
theorem d6_17 : decode prog_8_method_10_code 17 = .ok (.iaload, 1) := by decide +kernel
theorem d6_18 : decode prog_8_method_10_code 18 = .ok (.if_icmp .ge 20, 3) := by decide +kernel
theorem d6_21 : decode prog_8_method_10_code 21 = .ok (.aload_n 3, 1) := by decide +kernel
theorem d6_22 : decode prog_8_method_10_code 22 = .ok (.iload 4, 2) := by decide +kernel
theorem d6_24 : decode prog_8_method_10_code 24 = .ok (.iaload, 1) := by decide +kernel
theorem d6_25 : decode prog_8_method_10_code 25 = .ok (.iload_n 2, 1) := by decide +kernel
theorem d6_26 : decode prog_8_method_10_code 26 = .ok (.if_icmp .ne 6, 3) := by decide +kernel
theorem d6_29 : decode prog_8_method_10_code 29 = .ok (.iload 4, 2) := by decide +kernel
theorem d6_31 : decode prog_8_method_10_code 31 = .ok (.ireturn, 1) := by decide +kernel
theorem d6_32 : decode prog_8_method_10_code 32 = .ok (.iinc 4 1, 3) := by decide +kernel
theorem d6_35 : decode prog_8_method_10_code 35 = .ok (.goto (-25), 3) := by decide +kernel
theorem d6_38 : decode prog_8_method_10_code 38 = .ok (.iconst (-1), 1) := by decide +kernel
theorem d6_39 : decode prog_8_method_10_code 39 = .ok (.ireturn, 1) := by decide +kernel
theorem pn_rm_index : plainFor mn0 = true := plainFor_of_name (show plainName "unitloom/engine/Links" = true by first | (simp [plainName, overriddenIn]; done) | decide +kernel)
set_option maxRecDepth 65536 in
set_option maxHeartbeats 40000000 in
theorem rm_index (l : Launch) (Z : State) (a0 : Array Value) (hw : ∀ d ∈ tables_1, d.before a0 Z = true) (lk : Addr) (pa : Bool → Addr) (ca ex : Addr) (nx : Nat) (gx : Nat → Nat) (nn : Nat) (cn0 : Nat → Nat) (len0 : Bool → Nat → Nat) (ff0 : Bool → Nat → Nat → Nat) (u cu : Nat) (ap ae : Addr) (lp le : Nat) (gp ge : Nat → Nat) (v : Nat) (h0 : Heap) (F0 : FO Z h0 lk pa ca ex nx gx nn cn0 len0 ff0 u cu ap ae lp le gp ge) (hv6 : v < 64) (hcl : cu ≤ lp) (hc6 : cu < 64) (hg6 : ∀ k, k < cu → gp k < 64) :
    OMeets l Z mn0 prog_8_method_10_code 5 (some .int) [] ({ frames := 0, cells := 0, slots := 0, locals := 0 } : Room) #[(.ref lk), (.int (Int32.ofNat u)), (.int (Int32.ofNat v))] h0 (PureQ (some (.int (fI gp v cu 0))) h0) := by
  refine OMeets.of pn_rm_index #[.val (.ref lk), .val (.int (Int32.ofNat u)), .val (.int (Int32.ofNat v)), .unset, .unset] (fun m => by first | rfl | (simp [entryFrame, mkF, argsToLocals, Value.category, maxLocals]; done)) ?_
  intro p e s m below meth c s₁ B X0 e0
  refine s_aloadN B X0 (pc' := 1) d6_0 rfl rfl rfl ?_
  refine s_getF B X0 (pc' := 4) e0 (host := "") (Or.inl (tw12 hw)) Via.refl F0.f1 d6_1 rfl (fun T1 X1 e1 => ?_)
  refine s_iloadN B X1 (pc' := 5) d6_4 rfl rfl ?_
  refine f_ldP B X1 (pc' := 6) e1 F0 d6_5 rfl ?_
  refine s_astoreN B X1 (pc' := 7) (Ls' := #[.val (.ref lk), .val (.int (Int32.ofNat u)), .val (.int (Int32.ofNat v)), .val (.ref ap), .unset]) d6_6 rfl rfl rfl ?_
  refine s_iconst B X1 (pc' := 8) (v := (0 : Int32)) d6_7 rfl rfl ?_
  refine s_istore B X1 (pc' := 10) (Ls' := #[.val (.ref lk), .val (.int (Int32.ofNat u)), .val (.int (Int32.ofNat v)), .val (.ref ap), .val (.int (0 : Int32))]) d6_8 rfl rfl ?_
  have loop : ∀ (k i : Nat), i + k = cu → fI gp v k i = fI gp v cu 0 → ∀ T, Stand p l e ({ frames := 0, cells := 0, slots := 0, locals := 0 } : Room) s m #[(.ref lk), (.int (Int32.ofNat u)), (.int (Int32.ofNat v))] below meth c T [] 0 0 → T.heap = h0 → Go p e below (OEnds s (PureQ (some (.int (fI gp v cu 0))) h0) ({ frames := 0, cells := 0, slots := 0, locals := 0 } : Room).cells ({ frames := 0, cells := 0, slots := 0, locals := 0 } : Room).slots) (T.setTop (mkF m 10 #[.val (.ref lk), .val (.int (Int32.ofNat u)), .val (.int (Int32.ofNat v)), .val (.ref ap), .val (.int (Int32.ofNat i))] [])) := by
    intro k
    induction k with
    | zero =>
      intro i hi hr T X eh
      have hic : i = cu := by omega
      refine s_iload B X (pc' := 12) d6_10 rfl rfl ?_
      refine s_aloadN B X (pc' := 13) d6_12 rfl rfl rfl ?_
      refine s_getF B X (pc' := 16) eh (host := "") (Or.inl (tw24 hw)) Via.refl F0.f3 d6_13 rfl (fun T2 X2 e2 => ?_)
      refine s_iloadN B X2 (pc' := 17) d6_16 rfl rfl ?_
      refine f_ldC B X2 (pc' := 18) e2 F0 d6_17 rfl ?_
      refine b_icmp_ge B X2 (py := 38) (pn := 21) d6_18 (by decide) (by decide) rfl (fun _ => ?_) (fun q => absurd q (fun z => by have := (sm_lt (x := i) (by omega) hc6).mp z; omega))
      refine s_iconst B X2 (pc' := 39) (v := (-1 : Int32)) d6_38 rfl rfl ?_
      exact r_int B X2 rfl d6_39 ⟨congrArg (fun z => some (Value.int z)) hr, rfl, e2⟩ (by decide) (by decide)
    | succ k ih =>
      intro i hi hr T X eh
      have hi6 : i < 64 := by omega
      have hil : i < lp := by omega
      have hic : i < cu := by omega
      refine s_iload B X (pc' := 12) d6_10 rfl rfl ?_
      refine s_aloadN B X (pc' := 13) d6_12 rfl rfl rfl ?_
      refine s_getF B X (pc' := 16) eh (host := "") (Or.inl (tw24 hw)) Via.refl F0.f3 d6_13 rfl (fun T3 X3 e3 => ?_)
      refine s_iloadN B X3 (pc' := 17) d6_16 rfl rfl ?_
      refine f_ldC B X3 (pc' := 18) e3 F0 d6_17 rfl ?_
      refine b_icmp_ge B X3 (py := 38) (pn := 21) d6_18 (by decide) (by decide) rfl (fun q => absurd ((sm_lt hi6 hc6).mpr hic) q) (fun _ => ?_)
      refine s_aloadN B X3 (pc' := 22) d6_21 rfl rfl rfl ?_
      refine s_iload B X3 (pc' := 24) d6_22 rfl rfl ?_
      refine f_ldp B X3 (pc' := 25) (j := i) e3 F0 hil hi6 d6_24 rfl ?_
      refine s_iloadN B X3 (pc' := 26) d6_25 rfl rfl ?_
      refine b_icmp_ne B X3 (py := 32) (pn := 29) d6_26 (by decide) (by decide) rfl (fun hc26_4 => ?_) (fun hc26_4 => ?_)
      · refine s_iinc B X3 (pc' := 35) (v := (Int32.ofNat (i + 1))) (Ls' := #[.val (.ref lk), .val (.int (Int32.ofNat u)), .val (.int (Int32.ofNat v)), .val (.ref ap), .val (.int (Int32.ofNat (i + 1)))]) d6_32 rfl (sm_inc hi6) rfl rfl ?_
        refine s_goto B X3 (pc' := 10) d6_35 (by decide) (by decide) ?_
        exact ih (i + 1) (by omega) ((fI_no (fun z => hc26_4 (congrArg Int32.ofNat z))).symm.trans hr) _ X3 e3
      · refine s_iload B X3 (pc' := 31) d6_29 rfl rfl ?_
        exact r_int B X3 rfl d6_31 ⟨congrArg (fun z => some (Value.int z)) ((fI_yes (sm_inj (hg6 i hic) hv6 hc26_4)).symm.trans hr), rfl, e3⟩ (by decide) (by decide)
  exact loop cu 0 (Nat.zero_add _) rfl _ X1 e1
theorem own_mxY {k : Nat} (hk : k ≤ 4) (q : (4 : Int32) < Int32.ofNat (2 * k)) : Int32.ofNat (2 * k) = Int32.ofNat (mx4 k) := by
  have z := (sm_lt (x := 4) (y := 2 * k) (by decide) (by omega)).mp q
  rw [show mx4 k = 2 * k from if_neg (by omega)]
theorem own_mxN {k : Nat} (hk : k ≤ 4) (q : ¬ (4 : Int32) < Int32.ofNat (2 * k)) : (4 : Int32) = Int32.ofNat (mx4 k) := by
  have z := mt (sm_lt (x := 4) (y := 2 * k) (by decide) (by omega)).mpr q
  rw [show mx4 k = 4 from if_pos (by omega)]; rfl
theorem d7_0 : decode jdk_29_method_65_code 0 = .ok (.iload_n 0, 1) := by decide +kernel
theorem d7_1 : decode jdk_29_method_65_code 1 = .ok (.iload_n 1, 1) := by decide +kernel
theorem d7_2 : decode jdk_29_method_65_code 2 = .ok (.if_icmp .lt 7, 3) := by decide +kernel
theorem d7_5 : decode jdk_29_method_65_code 5 = .ok (.iload_n 0, 1) := by decide +kernel
theorem d7_6 : decode jdk_29_method_65_code 6 = .ok (.goto 4, 3) := by decide +kernel
theorem d7_9 : decode jdk_29_method_65_code 9 = .ok (.iload_n 1, 1) := by decide +kernel
theorem d7_10 : decode jdk_29_method_65_code 10 = .ok (.ireturn, 1) := by decide +kernel
theorem pn_rm_max : plainFor mn1 = true := by decide +kernel
set_option maxRecDepth 65536 in
set_option maxHeartbeats 40000000 in
theorem rm_max (l : Launch) (Z : State) (a0 : Array Value) (hw : ∀ d ∈ tables_1, d.before a0 Z = true) (k : Nat) (hk : k ≤ 4) (h0 : Heap) :
    OMeets l Z mn1 jdk_29_method_65_code 2 (some .int) [] ({ frames := 0, cells := 0, slots := 0, locals := 0 } : Room) #[(.int (4 : Int32)), (.int (Int32.ofNat (2 * k)))] h0 (PureQ (some (.int (Int32.ofNat (mx4 k)))) h0) := by
  refine OMeets.of pn_rm_max #[.val (.int (4 : Int32)), .val (.int (Int32.ofNat (2 * k)))] (fun m => by first | rfl | (simp [entryFrame, mkF, argsToLocals, Value.category, maxLocals]; done)) ?_
  intro p e s m below meth c s₁ B X0 e0
  refine s_iloadN B X0 (pc' := 1) d7_0 rfl rfl ?_
  refine s_iloadN B X0 (pc' := 2) d7_1 rfl rfl ?_
  refine b_icmp_lt B X0 (py := 9) (pn := 5) d7_2 (by decide) (by decide) rfl (fun hc2_1 => ?_) (fun hc2_1 => ?_)
  · refine s_iloadN B X0 (pc' := 10) d7_9 rfl rfl ?_
    exact r_int B X0 rfl d7_10 ⟨congrArg (fun z => some (Value.int z)) (own_mxY hk hc2_1), rfl, e0⟩ (by decide) (by decide)
  · refine s_iloadN B X0 (pc' := 6) d7_5 rfl rfl ?_
    refine s_goto B X0 (pc' := 10) d7_6 (by decide) (by decide) ?_
    exact r_int B X0 rfl d7_10 ⟨congrArg (fun z => some (Value.int z)) (own_mxN hk hc2_1), rfl, e0⟩ (by decide) (by decide)
theorem d9_0 : decode jdk_29_method_69_code 0 = .ok (.iload_n 0, 1) := by decide +kernel
theorem d9_1 : decode jdk_29_method_69_code 1 = .ok (.iload_n 1, 1) := by decide +kernel
theorem d9_2 : decode jdk_29_method_69_code 2 = .ok (.if_icmp .gt 7, 3) := by decide +kernel
theorem d9_5 : decode jdk_29_method_69_code 5 = .ok (.iload_n 0, 1) := by decide +kernel
theorem d9_6 : decode jdk_29_method_69_code 6 = .ok (.goto 4, 3) := by decide +kernel
theorem d9_10 : decode jdk_29_method_69_code 10 = .ok (.ireturn, 1) := by decide +kernel
theorem pn_rm_min : plainFor mn2 = true := by decide +kernel
set_option maxRecDepth 65536 in
set_option maxHeartbeats 40000000 in
theorem rm_min (l : Launch) (Z : State) (a0 : Array Value) (hw : ∀ d ∈ tables_1, d.before a0 Z = true) (x y : Nat) (hxy : x ≤ y) (hy : y < 64) (h0 : Heap) :
    OMeets l Z mn2 jdk_29_method_69_code 2 (some .int) [] ({ frames := 0, cells := 0, slots := 0, locals := 0 } : Room) #[(.int (Int32.ofNat x)), (.int (Int32.ofNat y))] h0 (PureQ (some (.int (Int32.ofNat x))) h0) := by
  refine OMeets.of pn_rm_min #[.val (.int (Int32.ofNat x)), .val (.int (Int32.ofNat y))] (fun m => by first | rfl | (simp [entryFrame, mkF, argsToLocals, Value.category, maxLocals]; done)) ?_
  intro p e s m below meth c s₁ B X0 e0
  refine s_iloadN B X0 (pc' := 1) d9_0 rfl rfl ?_
  refine s_iloadN B X0 (pc' := 2) d9_1 rfl rfl ?_
  refine b_icmp_gt B X0 (py := 9) (pn := 5) d9_2 (by decide) (by decide) rfl (fun q => absurd q (fun z => by have := (sm_lt hy (Nat.lt_of_le_of_lt hxy hy)).mp z; omega)) (fun _ => ?_)
  refine s_iloadN B X0 (pc' := 6) d9_5 rfl rfl ?_
  refine s_goto B X0 (pc' := 10) d9_6 (by decide) (by decide) ?_
  exact r_int B X0 rfl d9_10 ⟨rfl, rfl, e0⟩ (by decide) (by decide)
theorem d8_0 : decode jdk_65_method_123_code 0 = .ok (.iload_n 1, 1) := by decide +kernel
theorem d8_1 : decode jdk_65_method_123_code 1 = .ok (.aload_n 0, 1) := by decide +kernel
theorem d8_2 : decode jdk_65_method_123_code 2 = .ok (.arraylength, 1) := by decide +kernel
theorem d8_3 : decode jdk_65_method_123_code 3 = .ok (.if_icmp .ne 11, 3) := by decide +kernel
theorem d8_14 : decode jdk_65_method_123_code 14 = .ok (.iload_n 1, 1) := by decide +kernel
theorem d8_15 : decode jdk_65_method_123_code 15 = .ok (.newarray .int, 2) := by decide +kernel
theorem d8_17 : decode jdk_65_method_123_code 17 = .ok (.astore_n 2, 1) := by decide +kernel
theorem d8_18 : decode jdk_65_method_123_code 18 = .ok (.aload_n 0, 1) := by decide +kernel
theorem d8_19 : decode jdk_65_method_123_code 19 = .ok (.iconst 0, 1) := by decide +kernel
theorem d8_20 : decode jdk_65_method_123_code 20 = .ok (.aload_n 2, 1) := by decide +kernel
theorem d8_21 : decode jdk_65_method_123_code 21 = .ok (.iconst 0, 1) := by decide +kernel
theorem d8_22 : decode jdk_65_method_123_code 22 = .ok (.aload_n 0, 1) := by decide +kernel
theorem d8_23 : decode jdk_65_method_123_code 23 = .ok (.arraylength, 1) := by decide +kernel
theorem d8_24 : decode jdk_65_method_123_code 24 = .ok (.iload_n 1, 1) := by decide +kernel
theorem d8_25 : decode jdk_65_method_123_code 25 = .ok (.invokestatic 304, 3) := by decide +kernel
theorem d8_28 : decode jdk_65_method_123_code 28 = .ok (.invokestatic 150, 3) := by decide +kernel
theorem d8_31 : decode jdk_65_method_123_code 31 = .ok (.aload_n 2, 1) := by decide +kernel
theorem d8_32 : decode jdk_65_method_123_code 32 = .ok (.areturn, 1) := by decide +kernel
theorem pn_rm_copyOf : plainFor mn3 = true := by first | exact plainFor_of_name (show plainName "java/util/Arrays" = true by first | (simp [plainName, overriddenIn]; done) | decide +kernel) | decide +kernel
set_option maxRecDepth 65536 in
set_option maxHeartbeats 40000000 in
theorem rm_copyOf (l : Launch) (Z : State) (a0 : Array Value) (hw : ∀ d ∈ tables_1, d.before a0 Z = true) (a : Addr) (N M : Nat) (g : Nat → Nat) (h0 : Heap) (hz : Z.heap.size ≤ h0.size) (I0 : IN Z h0 a N g) (hNM : N < M) (hM8 : M ≤ 8) (hM6 : M < 64) (hN6 : N < 64) :
    OMeets l Z mn3 jdk_65_method_123_code 3 (some (.array .int)) [] ({ frames := 1, cells := 1, slots := 8, locals := 18 } : Room) #[(.ref a), (.int (Int32.ofNat M))] h0 (fun v h L => ∃ b, v = some (.ref b) ∧ h0.size ≤ b ∧ Fr Z.heap.size L ∧ Keep h0 h [] ∧ IN Z h b M (fun i => if i < N then g i else 0) ∧ Exa Z h b "[I") := by
  refine OMeets.of pn_rm_copyOf #[.val (.ref a), .val (.int (Int32.ofNat M)), .unset] (fun m => by first | rfl | (simp [entryFrame, mkF, argsToLocals, Value.category, maxLocals]; done)) ?_
  intro p e s m below meth c s₁ B X0 e0
  refine s_iloadN B X0 (pc' := 1) d8_0 rfl rfl ?_
  refine s_aloadN B X0 (pc' := 2) d8_1 rfl rfl rfl ?_
  refine s_lenIN B X0 (pc' := 3) e0 I0 d8_2 rfl ?_
  refine b_icmp_ne B X0 (py := 14) (pn := 6) d8_3 (by decide) (by decide) rfl (fun _ => ?_) (fun q => absurd q (fun z => Nat.ne_of_gt hNM (sm_inj hM6 hN6 z)))
  refine s_iloadN B X0 (pc' := 15) d8_14 rfl rfl ?_
  refine s_newPE B X0 (pc' := 17) (aty := .int) (N := M) (cap := 8) (ad := "[I") e0 (by decide) (tw23 hw) (osm hM6).1 (osm hM6).2 hM8 (by decide) (by decide) (by decide) d8_15 rfl (fun T1 h1 b k1 g1 X1 e1 E1 A1 Y1 => ?_)
  have J1 : IN Z h1 b M (fun _ => 0) := ⟨k1, A1.congr fun i _ => rfl⟩
  have K1 := (Keep.refl h0 []).ext E1
  have I1 := I0.keep K1 nin0
  have gb : h0.size ≤ b := Nat.le_of_eq g1.symm
  show Go p e below _ (T1.setTop (mkF m 17 #[.val (.ref a), .val (.int (Int32.ofNat M)), .unset] [(.ref b)]))
  refine s_astoreN B X1 (pc' := 18) (Ls' := #[.val (.ref a), .val (.int (Int32.ofNat M)), .val (.ref b)]) d8_17 rfl rfl rfl ?_
  refine s_aloadN B X1 (pc' := 19) d8_18 rfl rfl rfl ?_
  refine s_iconst B X1 (pc' := 20) (v := (0 : Int32)) d8_19 rfl rfl ?_
  refine s_aloadN B X1 (pc' := 21) d8_20 rfl rfl rfl ?_
  refine s_iconst B X1 (pc' := 22) (v := (0 : Int32)) d8_21 rfl rfl ?_
  refine s_aloadN B X1 (pc' := 23) d8_22 rfl rfl rfl ?_
  refine s_lenIN B X1 (pc' := 24) e1 I1 d8_23 rfl ?_
  refine s_iloadN B X1 (pc' := 25) d8_24 rfl rfl ?_
  refine p_static B X1 (y := mn2) (pc' := 28) (argsL := [(.int (Int32.ofNat N)), (.int (Int32.ofNat M))]) (under := [(.int (0 : Int32)), (.ref b), (.int (0 : Int32)), (.ref a)]) (W := 4) e1 (tw46 hw) (tw47 hw) (tw48 hw) (tw41 hw) (by decide) (rm_min l Z a0 hw N M (Nat.le_of_lt hNM) hM6 h1) (lenOf pd_0 rfl) rfl rfl (by decide) (by decide) rfl rfl (by decide) (by decide) rfl d8_25 rfl (fun T1 X1 e1 => ?_)
  show Go p e below _ (T1.setTop (mkF m 28 #[.val (.ref a), .val (.int (Int32.ofNat M)), .val (.ref b)] [(.int (Int32.ofNat N)), (.int (0 : Int32)), (.ref b), (.int (0 : Int32)), (.ref a)]))
  refine s_copy B X1 (pc' := 31) (W := 0) e1 (tw49 hw) (tw52 hw) (tw50 hw) (tw51 hw) I1 J1 (Nat.le_of_lt hNM) hM6 (Fr.nil _) (Nat.le_trans hz gb) rfl (by decide) (by decide) rfl d8_28 rfl (fun T3 h3 L3 X3 e3 N3 K3 J3 => ?_)
  show Go p e below _ (T3.setTop (mkF m 31 #[.val (.ref a), .val (.int (Int32.ofNat M)), .val (.ref b)] []))
  refine s_aloadN B X3 (pc' := 32) d8_31 rfl rfl rfl ?_
  exact r_ref B X3 (t := (.array .int)) rfl rfl rfl rfl d8_32 (by rw [e3]; exact ⟨b, rfl, gb, N3, K1.trans K3 (allS (Or.inr gb) all0), J3, Y1.keep K3⟩) (by decide) (by decide)
theorem d5_0 : decode prog_8_method_11_code 0 = .ok (.aload_n 0, 1) := by decide +kernel
theorem d5_1 : decode prog_8_method_11_code 1 = .ok (.iload_n 1, 1) := by decide +kernel
theorem d5_2 : decode prog_8_method_11_code 2 = .ok (.iload_n 2, 1) := by decide +kernel
theorem d5_3 : decode prog_8_method_11_code 3 = .ok (.invokevirtual 30, 3) := by decide +kernel
theorem d5_6 : decode prog_8_method_11_code 6 = .ok (.istore 4, 2) := by decide +kernel
theorem d5_8 : decode prog_8_method_11_code 8 = .ok (.iload 4, 2) := by decide +kernel
theorem d5_10 : decode prog_8_method_11_code 10 = .ok (.ifCond .ge 7, 3) := by decide +kernel
theorem d5_13 : decode prog_8_method_11_code 13 = .ok (.iconst 1, 1) := by decide +kernel
theorem d5_14 : decode prog_8_method_11_code 14 = .ok (.goto 4, 3) := by decide +kernel
theorem d5_17 : decode prog_8_method_11_code 17 = .ok (.iconst 0, 1) := by decide +kernel
theorem d5_18 : decode prog_8_method_11_code 18 = .ok (.istore 5, 2) := by decide +kernel
theorem d5_20 : decode prog_8_method_11_code 20 = .ok (.iload 5, 2) := by decide +kernel
theorem d5_22 : decode prog_8_method_11_code 22 = .ok (.ifCond .eq 94, 3) := by decide +kernel
theorem d5_25 : decode prog_8_method_11_code 25 = .ok (.aload_n 0, 1) := by decide +kernel
theorem d5_26 : decode prog_8_method_11_code 26 = .ok (.getfield 27, 3) := by decide +kernel
theorem d5_29 : decode prog_8_method_11_code 29 = .ok (.iload_n 1, 1) := by decide +kernel
theorem d5_30 : decode prog_8_method_11_code 30 = .ok (.dup2, 1) := by decide +kernel
theorem d5_31 : decode prog_8_method_11_code 31 = .ok (.iaload, 1) := by decide +kernel
theorem d5_32 : decode prog_8_method_11_code 32 = .ok (.dup_x2, 1) := by decide +kernel
theorem d5_33 : decode prog_8_method_11_code 33 = .ok (.iconst 1, 1) := by decide +kernel
theorem d5_34 : decode prog_8_method_11_code 34 = .ok (.iadd, 1) := by decide +kernel
theorem d5_35 : decode prog_8_method_11_code 35 = .ok (.iastore, 1) := by decide +kernel
theorem d5_36 : decode prog_8_method_11_code 36 = .ok (.istore 4, 2) := by decide +kernel
theorem d5_38 : decode prog_8_method_11_code 38 = .ok (.iload 4, 2) := by decide +kernel
theorem d5_40 : decode prog_8_method_11_code 40 = .ok (.aload_n 0, 1) := by decide +kernel
theorem d5_41 : decode prog_8_method_11_code 41 = .ok (.getfield 9, 3) := by decide +kernel
theorem d5_44 : decode prog_8_method_11_code 44 = .ok (.iload_n 1, 1) := by decide +kernel
theorem d5_45 : decode prog_8_method_11_code 45 = .ok (.aaload, 1) := by decide +kernel
theorem d5_46 : decode prog_8_method_11_code 46 = .ok (.arraylength, 1) := by decide +kernel
theorem d5_47 : decode prog_8_method_11_code 47 = .ok (.if_icmp .ne 49, 3) := by decide +kernel
theorem d5_50 : decode prog_8_method_11_code 50 = .ok (.aload_n 0, 1) := by decide +kernel
theorem d5_51 : decode prog_8_method_11_code 51 = .ok (.getfield 9, 3) := by decide +kernel
theorem d5_54 : decode prog_8_method_11_code 54 = .ok (.iload_n 1, 1) := by decide +kernel
theorem d5_55 : decode prog_8_method_11_code 55 = .ok (.aload_n 0, 1) := by decide +kernel
theorem d5_56 : decode prog_8_method_11_code 56 = .ok (.getfield 9, 3) := by decide +kernel
theorem d5_59 : decode prog_8_method_11_code 59 = .ok (.iload_n 1, 1) := by decide +kernel
theorem d5_60 : decode prog_8_method_11_code 60 = .ok (.aaload, 1) := by decide +kernel
theorem d5_61 : decode prog_8_method_11_code 61 = .ok (.iconst 4, 1) := by decide +kernel
theorem d5_62 : decode prog_8_method_11_code 62 = .ok (.iconst 2, 1) := by decide +kernel
theorem d5_63 : decode prog_8_method_11_code 63 = .ok (.iload 4, 2) := by decide +kernel
theorem d5_65 : decode prog_8_method_11_code 65 = .ok (.imul, 1) := by decide +kernel
theorem d5_66 : decode prog_8_method_11_code 66 = .ok (.invokestatic 44, 3) := by decide +kernel
theorem d5_69 : decode prog_8_method_11_code 69 = .ok (.invokestatic 49, 3) := by decide +kernel
theorem d5_72 : decode prog_8_method_11_code 72 = .ok (.aastore, 1) := by decide +kernel
theorem d5_73 : decode prog_8_method_11_code 73 = .ok (.aload_n 0, 1) := by decide +kernel
theorem d5_74 : decode prog_8_method_11_code 74 = .ok (.getfield 15, 3) := by decide +kernel
theorem d5_77 : decode prog_8_method_11_code 77 = .ok (.iload_n 1, 1) := by decide +kernel
theorem d5_78 : decode prog_8_method_11_code 78 = .ok (.aload_n 0, 1) := by decide +kernel
theorem d5_79 : decode prog_8_method_11_code 79 = .ok (.getfield 15, 3) := by decide +kernel
theorem d5_82 : decode prog_8_method_11_code 82 = .ok (.iload_n 1, 1) := by decide +kernel
theorem d5_83 : decode prog_8_method_11_code 83 = .ok (.aaload, 1) := by decide +kernel
theorem d5_84 : decode prog_8_method_11_code 84 = .ok (.iconst 4, 1) := by decide +kernel
theorem d5_85 : decode prog_8_method_11_code 85 = .ok (.iconst 2, 1) := by decide +kernel
theorem d5_86 : decode prog_8_method_11_code 86 = .ok (.iload 4, 2) := by decide +kernel
theorem d5_88 : decode prog_8_method_11_code 88 = .ok (.imul, 1) := by decide +kernel
theorem d5_89 : decode prog_8_method_11_code 89 = .ok (.invokestatic 44, 3) := by decide +kernel
theorem d5_92 : decode prog_8_method_11_code 92 = .ok (.invokestatic 49, 3) := by decide +kernel
theorem d5_95 : decode prog_8_method_11_code 95 = .ok (.aastore, 1) := by decide +kernel
theorem d5_96 : decode prog_8_method_11_code 96 = .ok (.aload_n 0, 1) := by decide +kernel
theorem d5_97 : decode prog_8_method_11_code 97 = .ok (.getfield 9, 3) := by decide +kernel
theorem d5_100 : decode prog_8_method_11_code 100 = .ok (.iload_n 1, 1) := by decide +kernel
theorem d5_101 : decode prog_8_method_11_code 101 = .ok (.aaload, 1) := by decide +kernel
theorem d5_102 : decode prog_8_method_11_code 102 = .ok (.iload 4, 2) := by decide +kernel
theorem d5_104 : decode prog_8_method_11_code 104 = .ok (.iload_n 2, 1) := by decide +kernel
theorem d5_105 : decode prog_8_method_11_code 105 = .ok (.iastore, 1) := by decide +kernel
theorem d5_106 : decode prog_8_method_11_code 106 = .ok (.aload_n 0, 1) := by decide +kernel
theorem d5_107 : decode prog_8_method_11_code 107 = .ok (.getfield 15, 3) := by decide +kernel
theorem d5_110 : decode prog_8_method_11_code 110 = .ok (.iload_n 1, 1) := by decide +kernel
theorem d5_111 : decode prog_8_method_11_code 111 = .ok (.aaload, 1) := by decide +kernel
theorem d5_112 : decode prog_8_method_11_code 112 = .ok (.iload 4, 2) := by decide +kernel
theorem d5_114 : decode prog_8_method_11_code 114 = .ok (.iconst 0, 1) := by decide +kernel
theorem d5_115 : decode prog_8_method_11_code 115 = .ok (.iastore, 1) := by decide +kernel
theorem d5_116 : decode prog_8_method_11_code 116 = .ok (.aload_n 0, 1) := by decide +kernel
theorem d5_117 : decode prog_8_method_11_code 117 = .ok (.getfield 15, 3) := by decide +kernel
theorem d5_120 : decode prog_8_method_11_code 120 = .ok (.iload_n 1, 1) := by decide +kernel
theorem d5_121 : decode prog_8_method_11_code 121 = .ok (.aaload, 1) := by decide +kernel
theorem d5_122 : decode prog_8_method_11_code 122 = .ok (.iload 4, 2) := by decide +kernel
theorem d5_124 : decode prog_8_method_11_code 124 = .ok (.dup2, 1) := by decide +kernel
theorem d5_125 : decode prog_8_method_11_code 125 = .ok (.iaload, 1) := by decide +kernel
theorem d5_126 : decode prog_8_method_11_code 126 = .ok (.iload_n 3, 1) := by decide +kernel
theorem d5_127 : decode prog_8_method_11_code 127 = .ok (.iadd, 1) := by decide +kernel
theorem d5_128 : decode prog_8_method_11_code 128 = .ok (.iastore, 1) := by decide +kernel
theorem d5_129 : decode prog_8_method_11_code 129 = .ok (.iload 5, 2) := by decide +kernel
theorem d5_131 : decode prog_8_method_11_code 131 = .ok (.ireturn, 1) := by decide +kernel
theorem pn_rm_addOne : plainFor mn4 = true := plainFor_of_name (show plainName "unitloom/engine/Links" = true by first | (simp [plainName, overriddenIn]; done) | decide +kernel)
set_option maxRecDepth 65536 in
set_option maxHeartbeats 40000000 in
theorem rm_addOne (l : Launch) (Z : State) (a0 : Array Value) (hw : ∀ d ∈ tables_1, d.before a0 Z = true) (lk ex : Addr) (nx : Nat) (gx : Nat → Nat) (nn : Nat) (bb : Nat → Nat) (CC : Nat → Nat → Nat) (u v : Nat) (h0 : Heap) (A0 : LA Z h0 lk ex nx gx nn bb CC) (hu : u < nn) (hv : v < 8) (hb4 : bb u ≤ 4) :
    OMeets l Z mn4 prog_8_method_11_code 6 (some .boolean) [] ({ frames := 2, cells := 2, slots := 16, locals := 34 } : Room) #[(.ref lk), (.int (Int32.ofNat u)), (.int (Int32.ofNat v)), (.int (1 : Int32))] h0 (fun v' h L => v' = some (.int (if CC u v = 0 then 1 else 0)) ∧ Fr Z.heap.size L ∧ LA Z h lk ex nx gx nn (updN bb u (bb u + 1)) (up1 CC u v)) := by
  refine OMeets.of pn_rm_addOne #[.val (.ref lk), .val (.int (Int32.ofNat u)), .val (.int (Int32.ofNat v)), .val (.int (1 : Int32)), .unset, .unset] (fun m => by first | rfl | (simp [entryFrame, mkF, argsToLocals, Value.category, maxLocals]; done)) ?_
  intro p e s m below meth c s₁ B X0 e0
  obtain ⟨pa, ca, cn0, len0, ff0, cu, ap, ae, lp, le, gp, ge, F0, R1, R2⟩ := LA.view A0 hu
  obtain ⟨⟨a1, rfl, a3, a4, a5⟩, b1, c1, d1, -⟩ := id R1
  have hcl : cu ≤ lp := a3
  have hc6 : cu < 64 := by omega
  have hv6 : v < 64 := by omega
  have hg6 : ∀ k, k < cu → gp k < 64 := fun k hk => Nat.lt_of_lt_of_le (c1 k hk).1 (by decide)
  refine s_aloadN B X0 (pc' := 1) d5_0 rfl rfl rfl ?_
  refine s_iloadN B X0 (pc' := 2) d5_1 rfl rfl ?_
  refine s_iloadN B X0 (pc' := 3) d5_2 rfl rfl ?_
  refine p_private B X0 (y := mn0) (pc' := 6) (argsL := [(.int (Int32.ofNat u)), (.int (Int32.ofNat v))]) (under := []) (W := 0) e0 (tw35 hw) (tw2 hw) (tw37 hw) (tw36 hw) (tw38 hw) (tw3 hw) (by decide) (rm_index l Z a0 hw _ _ _ _ _ _ _ _ _ _ _ _ _ _ _ _ _ _ v h0 F0 hv6 hcl hc6 hg6) F0.exa (lenOf pd_0 rfl) rfl rfl (by decide) (by decide) rfl rfl (by decide) (by decide) rfl d5_3 rfl (fun T1 X1 e1 => ?_)
  show Go p e below _ (T1.setTop (mkF m 6 #[.val (.ref lk), .val (.int (Int32.ofNat u)), .val (.int (Int32.ofNat v)), .val (.int (1 : Int32)), .unset, .unset] [(.int (fI gp v cu 0))]))
  rcases R1.find hv with ⟨k, hk, hgk, hek, hD, hr⟩ | ⟨hD, hno, hr⟩
  · rw [hr]
    have hk6 : k < 64 := by omega
    have hke : k < lp := by omega
    show Go p e below _ (T1.setTop (mkF m 6 #[.val (.ref lk), .val (.int (Int32.ofNat u)), .val (.int (Int32.ofNat v)), .val (.int (1 : Int32)), .unset, .unset] [(.int (Int32.ofNat k))]))
    have hs1 : Int32.ofNat (ge k) + 1 = Int32.ofNat (ge k + 1) := sm_succ (by have := b1 v; omega)
    refine s_istore B X1 (pc' := 8) (Ls' := #[.val (.ref lk), .val (.int (Int32.ofNat u)), .val (.int (Int32.ofNat v)), .val (.int (1 : Int32)), .val (.int (Int32.ofNat k)), .unset]) d5_6 rfl rfl ?_
    refine s_iload B X1 (pc' := 10) d5_8 rfl rfl ?_
    refine b_if_ge B X1 (py := 17) (pn := 13) d5_10 (by decide) (by decide) rfl (fun _ => ?_) (fun q => absurd q (osm hk6).1)
    refine s_iconst B X1 (pc' := 18) (v := (0 : Int32)) d5_17 rfl rfl ?_
    refine s_istore B X1 (pc' := 20) (Ls' := #[.val (.ref lk), .val (.int (Int32.ofNat u)), .val (.int (Int32.ofNat v)), .val (.int (1 : Int32)), .val (.int (Int32.ofNat k)), .val (.int (0 : Int32))]) d5_18 rfl rfl ?_
    refine s_iload B X1 (pc' := 22) d5_20 rfl rfl ?_
    refine s_ifY B X1 (pc' := 116) d5_22 (by decide) (by decide) (by decide) ?_
    refine s_aloadN B X1 (pc' := 117) d5_116 rfl rfl rfl ?_
    refine s_getF B X1 (pc' := 120) e1 (host := "") (Or.inl (tw14 hw)) Via.refl F0.f2 d5_117 rfl (fun T2 X2 e2 => ?_)
    refine s_iloadN B X2 (pc' := 121) d5_120 rfl rfl ?_
    refine f_ldE B X2 (pc' := 122) e2 F0 d5_121 rfl ?_
    refine s_iload B X2 (pc' := 124) d5_122 rfl rfl ?_
    refine s_dup2 B X2 (pc' := 125) d5_124 rfl rfl rfl ?_
    refine f_lde B X2 (pc' := 126) (j := k) e2 F0 hke hk6 d5_125 rfl ?_
    refine s_iloadN B X2 (pc' := 127) d5_126 rfl rfl ?_
    refine s_iadd B X2 (pc' := 128) (v := (Int32.ofNat (ge k + 1))) d5_127 (hs1) rfl ?_
    refine f_ste B X2 (pc' := 129) (j := k) (x := (ge k + 1)) e2 F0 hke hk6 (Fr.nil _) d5_128 rfl (fun T3 h3 L3 X3 e3 N3 F3 => ?_)
    show Go p e below _ (T3.setTop (mkF m 129 #[.val (.ref lk), .val (.int (Int32.ofNat u)), .val (.int (Int32.ofNat v)), .val (.int (1 : Int32)), .val (.int (Int32.ofNat k)), .val (.int (0 : Int32))] []))
    refine s_iload B X3 (pc' := 131) d5_129 rfl rfl ?_
    exact r_nar B X3 (t := .boolean) (by simp) rfl d5_131 (by rw [e3]; exact ⟨congrArg (fun z => some (Value.int z)) (if_neg (Nat.ne_of_gt hD)).symm, N3, F3.close (by rw [updN_same, up1_at]; exact RowOK.addFound R1 hv hk hgk) (fun u' h1 h2 => by rw [updN_ne h2, up1_ne h2]; exact R2 u' h1 h2)⟩) (by decide) (by decide)
  · rw [hr]
    show Go p e below _ (T1.setTop (mkF m 6 #[.val (.ref lk), .val (.int (Int32.ofNat u)), .val (.int (Int32.ofNat v)), .val (.int (1 : Int32)), .unset, .unset] [(.int (-1 : Int32))]))
    have hs1 : Int32.ofNat cu + 1 = Int32.ofNat (cu + 1) := sm_succ hc6
    have hs2 : 2 * Int32.ofNat cu = Int32.ofNat (2 * cu) := sm_dbl hc6
    refine s_istore B X1 (pc' := 8) (Ls' := #[.val (.ref lk), .val (.int (Int32.ofNat u)), .val (.int (Int32.ofNat v)), .val (.int (1 : Int32)), .val (.int (-1 : Int32)), .unset]) d5_6 rfl rfl ?_
    refine s_iload B X1 (pc' := 10) d5_8 rfl rfl ?_
    refine s_ifN B X1 (pc' := 13) d5_10 (by decide) rfl ?_
    refine s_iconst B X1 (pc' := 14) (v := (1 : Int32)) d5_13 rfl rfl ?_
    refine s_goto B X1 (pc' := 18) d5_14 (by decide) (by decide) ?_
    refine s_istore B X1 (pc' := 20) (Ls' := #[.val (.ref lk), .val (.int (Int32.ofNat u)), .val (.int (Int32.ofNat v)), .val (.int (1 : Int32)), .val (.int (-1 : Int32)), .val (.int (1 : Int32))]) d5_18 rfl rfl ?_
    refine s_iload B X1 (pc' := 22) d5_20 rfl rfl ?_
    refine s_ifN B X1 (pc' := 25) d5_22 (by decide) rfl ?_
    refine s_aloadN B X1 (pc' := 26) d5_25 rfl rfl rfl ?_
    refine s_getF B X1 (pc' := 29) e1 (host := "") (Or.inl (tw24 hw)) Via.refl F0.f3 d5_26 rfl (fun T4 X4 e4 => ?_)
    refine s_iloadN B X4 (pc' := 30) d5_29 rfl rfl ?_
    refine s_dup2 B X4 (pc' := 31) d5_30 rfl rfl rfl ?_
    refine f_ldC B X4 (pc' := 32) e4 F0 d5_31 rfl ?_
    refine s_dup_x2 B X4 (pc' := 33) d5_32 rfl rfl rfl rfl ?_
    refine s_iconst B X4 (pc' := 34) (v := (1 : Int32)) d5_33 rfl rfl ?_
    refine s_iadd B X4 (pc' := 35) (v := (Int32.ofNat (cu + 1))) d5_34 (hs1) rfl ?_
    refine f_stC B X4 (pc' := 36) (x := (cu + 1)) e4 F0 (Fr.nil _) d5_35 rfl (fun T5 h5 L5 X5 e5 N5 F5 => ?_)
    show Go p e below _ (T5.setTop (mkF m 36 #[.val (.ref lk), .val (.int (Int32.ofNat u)), .val (.int (Int32.ofNat v)), .val (.int (1 : Int32)), .val (.int (-1 : Int32)), .val (.int (1 : Int32))] [(.int (Int32.ofNat cu))]))
    refine s_istore B X5 (pc' := 38) (Ls' := #[.val (.ref lk), .val (.int (Int32.ofNat u)), .val (.int (Int32.ofNat v)), .val (.int (1 : Int32)), .val (.int (Int32.ofNat cu)), .val (.int (1 : Int32))]) d5_36 rfl rfl ?_
    refine s_iload B X5 (pc' := 40) d5_38 rfl rfl ?_
    refine s_aloadN B X5 (pc' := 41) d5_40 rfl rfl rfl ?_
    refine s_getF B X5 (pc' := 44) e5 (host := "") (Or.inl (tw12 hw)) Via.refl F5.f1 d5_41 rfl (fun T6 X6 e6 => ?_)
    refine s_iloadN B X6 (pc' := 45) d5_44 rfl rfl ?_
    refine f_ldP B X6 (pc' := 46) e6 F5 d5_45 rfl ?_
    refine s_lenIN B X6 (pc' := 47) e6 F5.rp d5_46 rfl ?_
    by_cases hful : cu = lp
    · have hm : mx4 cu = 4 ∨ mx4 cu = 8 := by
        rcases (by omega : cu = 0 ∨ cu = 4) with z | z <;> rw [z]
        · exact Or.inl rfl
        · exact Or.inr rfl
      have hm2 : cu < mx4 cu := by simp only [mx4]; split <;> omega
      have hm6 : mx4 cu < 64 := by omega
      have hc64 : cu < 64 := hc6
      refine b_icmp_ne B X6 (py := 96) (pn := 50) d5_47 (by decide) (by decide) rfl (fun q => absurd (congrArg Int32.ofNat hful) q) (fun _ => ?_)
      refine s_aloadN B X6 (pc' := 51) d5_50 rfl rfl rfl ?_
      refine s_getF B X6 (pc' := 54) e6 (host := "") (Or.inl (tw12 hw)) Via.refl F5.f1 d5_51 rfl (fun T7 X7 e7 => ?_)
      refine s_iloadN B X7 (pc' := 55) d5_54 rfl rfl ?_
      refine s_aloadN B X7 (pc' := 56) d5_55 rfl rfl rfl ?_
      refine s_getF B X7 (pc' := 59) e7 (host := "") (Or.inl (tw12 hw)) Via.refl F5.f1 d5_56 rfl (fun T8 X8 e8 => ?_)
      refine s_iloadN B X8 (pc' := 60) d5_59 rfl rfl ?_
      refine f_ldP B X8 (pc' := 61) e8 F5 d5_60 rfl ?_
      refine s_iconst B X8 (pc' := 62) (v := (4 : Int32)) d5_61 rfl rfl ?_
      refine s_iconst B X8 (pc' := 63) (v := (2 : Int32)) d5_62 rfl rfl ?_
      refine s_iload B X8 (pc' := 65) d5_63 rfl rfl ?_
      refine s_imul B X8 (pc' := 66) (v := (Int32.ofNat (2 * cu))) d5_65 (hs2) rfl ?_
      refine p_static B X8 (y := mn1) (pc' := 69) (argsL := [(.int (4 : Int32)), (.int (Int32.ofNat (2 * cu)))]) (under := [(.ref ap), (.int (Int32.ofNat u)), (.ref (pa true))]) (W := 3) e8 (tw39 hw) (tw40 hw) (tw42 hw) (tw41 hw) (by decide) (rm_max l Z a0 hw cu (by omega) h5) (lenOf pd_0 rfl) rfl rfl (by decide) (by decide) rfl rfl (by decide) (by decide) rfl d5_66 rfl (fun T9 X9 e9 => ?_)
      show Go p e below _ (T9.setTop (mkF m 69 #[.val (.ref lk), .val (.int (Int32.ofNat u)), .val (.int (Int32.ofNat v)), .val (.int (1 : Int32)), .val (.int (Int32.ofNat cu)), .val (.int (1 : Int32))] [(.int (Int32.ofNat (mx4 cu))), (.ref ap), (.int (Int32.ofNat u)), (.ref (pa true))]))
      refine c_static B X9 (y := mn3) (pc' := 72) (argsL := [(.ref ap), (.int (Int32.ofNat (mx4 cu)))]) (under := [(.int (Int32.ofNat u)), (.ref (pa true))]) (W := 2) e9 (tw43 hw) (tw44 hw) (tw45 hw) (tw20 hw) (by decide) (rm_copyOf l Z a0 hw _ _ (mx4 cu) _ h5 F5.zh F5.rp (by omega) (by omega) hm6 (by omega)) (lenOf pd_1 rfl) rfl rfl (by decide) (by decide) (by decide) (by decide) rfl d5_69 rfl (fun v10 T10 L10 X10 hQ10 => ?_)
      obtain ⟨b10, rfl, gb10, Nq10, Kq10, Iq10, Eq10⟩ := hQ10
      have N10 := Fr.app N5 Nq10
      show Go p e below _ (T10.setTop (mkF m 72 #[.val (.ref lk), .val (.int (Int32.ofNat u)), .val (.int (Int32.ofNat v)), .val (.int (1 : Int32)), .val (.int (Int32.ofNat cu)), .val (.int (1 : Int32))] [(.ref b10), (.int (Int32.ofNat u)), (.ref (pa true))]))
      refine f_swP B X10 (pc' := 73) rfl F5 Kq10 gb10 Iq10 Eq10 N10 d5_72 rfl (fun T11 h11 L11 X11 e11 N11 F11 => ?_)
      show Go p e below _ (T11.setTop (mkF m 73 #[.val (.ref lk), .val (.int (Int32.ofNat u)), .val (.int (Int32.ofNat v)), .val (.int (1 : Int32)), .val (.int (Int32.ofNat cu)), .val (.int (1 : Int32))] []))
      refine s_aloadN B X11 (pc' := 74) d5_73 rfl rfl rfl ?_
      refine s_getF B X11 (pc' := 77) e11 (host := "") (Or.inl (tw14 hw)) Via.refl F11.f2 d5_74 rfl (fun T12 X12 e12 => ?_)
      refine s_iloadN B X12 (pc' := 78) d5_77 rfl rfl ?_
      refine s_aloadN B X12 (pc' := 79) d5_78 rfl rfl rfl ?_
      refine s_getF B X12 (pc' := 82) e12 (host := "") (Or.inl (tw14 hw)) Via.refl F11.f2 d5_79 rfl (fun T13 X13 e13 => ?_)
      refine s_iloadN B X13 (pc' := 83) d5_82 rfl rfl ?_
      refine f_ldE B X13 (pc' := 84) e13 F11 d5_83 rfl ?_
      refine s_iconst B X13 (pc' := 85) (v := (4 : Int32)) d5_84 rfl rfl ?_
      refine s_iconst B X13 (pc' := 86) (v := (2 : Int32)) d5_85 rfl rfl ?_
      refine s_iload B X13 (pc' := 88) d5_86 rfl rfl ?_
      refine s_imul B X13 (pc' := 89) (v := (Int32.ofNat (2 * cu))) d5_88 (hs2) rfl ?_
      refine p_static B X13 (y := mn1) (pc' := 92) (argsL := [(.int (4 : Int32)), (.int (Int32.ofNat (2 * cu)))]) (under := [(.ref ae), (.int (Int32.ofNat u)), (.ref (pa false))]) (W := 3) e13 (tw39 hw) (tw40 hw) (tw42 hw) (tw41 hw) (by decide) (rm_max l Z a0 hw cu (by omega) h11) (lenOf pd_0 rfl) rfl rfl (by decide) (by decide) rfl rfl (by decide) (by decide) rfl d5_89 rfl (fun T14 X14 e14 => ?_)
      show Go p e below _ (T14.setTop (mkF m 92 #[.val (.ref lk), .val (.int (Int32.ofNat u)), .val (.int (Int32.ofNat v)), .val (.int (1 : Int32)), .val (.int (Int32.ofNat cu)), .val (.int (1 : Int32))] [(.int (Int32.ofNat (mx4 cu))), (.ref ae), (.int (Int32.ofNat u)), (.ref (pa false))]))
      refine c_static B X14 (y := mn3) (pc' := 95) (argsL := [(.ref ae), (.int (Int32.ofNat (mx4 cu)))]) (under := [(.int (Int32.ofNat u)), (.ref (pa false))]) (W := 2) e14 (tw43 hw) (tw44 hw) (tw45 hw) (tw20 hw) (by decide) (rm_copyOf l Z a0 hw _ _ (mx4 cu) _ h11 F11.zh F11.re (by omega) (by omega) hm6 (by omega)) (lenOf pd_1 rfl) rfl rfl (by decide) (by decide) (by decide) (by decide) rfl d5_92 rfl (fun v15 T15 L15 X15 hQ15 => ?_)
      obtain ⟨b15, rfl, gb15, Nq15, Kq15, Iq15, Eq15⟩ := hQ15
      have N15 := Fr.app N11 Nq15
      show Go p e below _ (T15.setTop (mkF m 95 #[.val (.ref lk), .val (.int (Int32.ofNat u)), .val (.int (Int32.ofNat v)), .val (.int (1 : Int32)), .val (.int (Int32.ofNat cu)), .val (.int (1 : Int32))] [(.ref b15), (.int (Int32.ofNat u)), (.ref (pa false))]))
      refine f_swE B X15 (pc' := 96) rfl F11 Kq15 gb15 Iq15 Eq15 N15 d5_95 rfl (fun T16 h16 L16 X16 e16 N16 F16 => ?_)
      show Go p e below _ (T16.setTop (mkF m 96 #[.val (.ref lk), .val (.int (Int32.ofNat u)), .val (.int (Int32.ofNat v)), .val (.int (1 : Int32)), .val (.int (Int32.ofNat cu)), .val (.int (1 : Int32))] []))
      refine s_aloadN B X16 (pc' := 97) d5_96 rfl rfl rfl ?_
      refine s_getF B X16 (pc' := 100) e16 (host := "") (Or.inl (tw12 hw)) Via.refl F16.f1 d5_97 rfl (fun T17 X17 e17 => ?_)
      refine s_iloadN B X17 (pc' := 101) d5_100 rfl rfl ?_
      refine f_ldP B X17 (pc' := 102) e17 F16 d5_101 rfl ?_
      refine s_iload B X17 (pc' := 104) d5_102 rfl rfl ?_
      refine s_iloadN B X17 (pc' := 105) d5_104 rfl rfl ?_
      refine f_stp B X17 (pc' := 106) (j := cu) (x := v) e17 F16 hm2 hc6 N16 d5_105 rfl (fun T18 h18 L18 X18 e18 N18 F18 => ?_)
      show Go p e below _ (T18.setTop (mkF m 106 #[.val (.ref lk), .val (.int (Int32.ofNat u)), .val (.int (Int32.ofNat v)), .val (.int (1 : Int32)), .val (.int (Int32.ofNat cu)), .val (.int (1 : Int32))] []))
      refine s_aloadN B X18 (pc' := 107) d5_106 rfl rfl rfl ?_
      refine s_getF B X18 (pc' := 110) e18 (host := "") (Or.inl (tw14 hw)) Via.refl F18.f2 d5_107 rfl (fun T19 X19 e19 => ?_)
      refine s_iloadN B X19 (pc' := 111) d5_110 rfl rfl ?_
      refine f_ldE B X19 (pc' := 112) e19 F18 d5_111 rfl ?_
      refine s_iload B X19 (pc' := 114) d5_112 rfl rfl ?_
      refine s_iconst B X19 (pc' := 115) (v := (0 : Int32)) d5_114 rfl rfl ?_
      refine f_ste B X19 (pc' := 116) (j := cu) (x := 0) e19 F18 hm2 hc6 N18 d5_115 rfl (fun T20 h20 L20 X20 e20 N20 F20 => ?_)
      show Go p e below _ (T20.setTop (mkF m 116 #[.val (.ref lk), .val (.int (Int32.ofNat u)), .val (.int (Int32.ofNat v)), .val (.int (1 : Int32)), .val (.int (Int32.ofNat cu)), .val (.int (1 : Int32))] []))
      have hz0 : (updN (fun i => if i < lp then ge i else 0) cu 0) cu = 0 := updN_same
      refine s_aloadN B X20 (pc' := 117) d5_116 rfl rfl rfl ?_
      refine s_getF B X20 (pc' := 120) e20 (host := "") (Or.inl (tw14 hw)) Via.refl F20.f2 d5_117 rfl (fun T21 X21 e21 => ?_)
      refine s_iloadN B X21 (pc' := 121) d5_120 rfl rfl ?_
      refine f_ldE B X21 (pc' := 122) e21 F20 d5_121 rfl ?_
      refine s_iload B X21 (pc' := 124) d5_122 rfl rfl ?_
      refine s_dup2 B X21 (pc' := 125) d5_124 rfl rfl rfl ?_
      refine f_lde B X21 (pc' := 126) (j := cu) e21 F20 hm2 hc6 d5_125 rfl ?_
      rw [show (Int32.ofNat ((updN (fun i => if i < lp then ge i else 0) cu 0) cu)) = (0 : Int32) from by rw [hz0]; rfl]
      show Go p e below _ (T21.setTop (mkF m 126 #[.val (.ref lk), .val (.int (Int32.ofNat u)), .val (.int (Int32.ofNat v)), .val (.int (1 : Int32)), .val (.int (Int32.ofNat cu)), .val (.int (1 : Int32))] [(.int (0 : Int32)), (.int (Int32.ofNat cu)), (.ref b15)]))
      refine s_iloadN B X21 (pc' := 127) d5_126 rfl rfl ?_
      refine s_iadd B X21 (pc' := 128) (v := (1 : Int32)) d5_127 rfl rfl ?_
      refine f_ste B X21 (pc' := 129) (j := cu) (x := 1) e21 F20 hm2 hc6 N20 d5_128 rfl (fun T22 h22 L22 X22 e22 N22 F22 => ?_)
      show Go p e below _ (T22.setTop (mkF m 129 #[.val (.ref lk), .val (.int (Int32.ofNat u)), .val (.int (Int32.ofNat v)), .val (.int (1 : Int32)), .val (.int (Int32.ofNat cu)), .val (.int (1 : Int32))] []))
      refine s_iload B X22 (pc' := 131) d5_129 rfl rfl ?_
      exact r_nar B X22 (t := .boolean) (by simp) rfl d5_131 (by rw [e22]; exact ⟨congrArg (fun z => some (Value.int z)) (if_pos hD).symm, N22, F22.close (by rw [updN_same, up1_at]; exact RowOK.addNew R1 hv hD hno hm2 hm (fun k hk => ⟨if_pos (Nat.lt_of_lt_of_le hk hcl), if_pos (Nat.lt_of_lt_of_le hk hcl)⟩)) (fun u' h1 h2 => by rw [updN_ne h2, up1_ne h2]; exact R2 u' h1 h2)⟩) (by decide) (by decide)
    · have hlt : cu < lp := by omega
      have hm : lp = 4 ∨ lp = 8 := by omega
      refine b_icmp_ne B X6 (py := 96) (pn := 50) d5_47 (by decide) (by decide) rfl (fun _ => ?_) (fun q => absurd q (fun z => hful (sm_inj hc6 (by omega) z)))
      refine s_aloadN B X6 (pc' := 97) d5_96 rfl rfl rfl ?_
      refine s_getF B X6 (pc' := 100) e6 (host := "") (Or.inl (tw12 hw)) Via.refl F5.f1 d5_97 rfl (fun T23 X23 e23 => ?_)
      refine s_iloadN B X23 (pc' := 101) d5_100 rfl rfl ?_
      refine f_ldP B X23 (pc' := 102) e23 F5 d5_101 rfl ?_
      refine s_iload B X23 (pc' := 104) d5_102 rfl rfl ?_
      refine s_iloadN B X23 (pc' := 105) d5_104 rfl rfl ?_
      refine f_stp B X23 (pc' := 106) (j := cu) (x := v) e23 F5 hlt hc6 N5 d5_105 rfl (fun T24 h24 L24 X24 e24 N24 F24 => ?_)
      show Go p e below _ (T24.setTop (mkF m 106 #[.val (.ref lk), .val (.int (Int32.ofNat u)), .val (.int (Int32.ofNat v)), .val (.int (1 : Int32)), .val (.int (Int32.ofNat cu)), .val (.int (1 : Int32))] []))
      refine s_aloadN B X24 (pc' := 107) d5_106 rfl rfl rfl ?_
      refine s_getF B X24 (pc' := 110) e24 (host := "") (Or.inl (tw14 hw)) Via.refl F24.f2 d5_107 rfl (fun T25 X25 e25 => ?_)
      refine s_iloadN B X25 (pc' := 111) d5_110 rfl rfl ?_
      refine f_ldE B X25 (pc' := 112) e25 F24 d5_111 rfl ?_
      refine s_iload B X25 (pc' := 114) d5_112 rfl rfl ?_
      refine s_iconst B X25 (pc' := 115) (v := (0 : Int32)) d5_114 rfl rfl ?_
      refine f_ste B X25 (pc' := 116) (j := cu) (x := 0) e25 F24 hlt hc6 N24 d5_115 rfl (fun T26 h26 L26 X26 e26 N26 F26 => ?_)
      show Go p e below _ (T26.setTop (mkF m 116 #[.val (.ref lk), .val (.int (Int32.ofNat u)), .val (.int (Int32.ofNat v)), .val (.int (1 : Int32)), .val (.int (Int32.ofNat cu)), .val (.int (1 : Int32))] []))
      have hz0 : (updN ge cu 0) cu = 0 := updN_same
      refine s_aloadN B X26 (pc' := 117) d5_116 rfl rfl rfl ?_
      refine s_getF B X26 (pc' := 120) e26 (host := "") (Or.inl (tw14 hw)) Via.refl F26.f2 d5_117 rfl (fun T27 X27 e27 => ?_)
      refine s_iloadN B X27 (pc' := 121) d5_120 rfl rfl ?_
      refine f_ldE B X27 (pc' := 122) e27 F26 d5_121 rfl ?_
      refine s_iload B X27 (pc' := 124) d5_122 rfl rfl ?_
      refine s_dup2 B X27 (pc' := 125) d5_124 rfl rfl rfl ?_
      refine f_lde B X27 (pc' := 126) (j := cu) e27 F26 hlt hc6 d5_125 rfl ?_
      rw [show (Int32.ofNat ((updN ge cu 0) cu)) = (0 : Int32) from by rw [hz0]; rfl]
      show Go p e below _ (T27.setTop (mkF m 126 #[.val (.ref lk), .val (.int (Int32.ofNat u)), .val (.int (Int32.ofNat v)), .val (.int (1 : Int32)), .val (.int (Int32.ofNat cu)), .val (.int (1 : Int32))] [(.int (0 : Int32)), (.int (Int32.ofNat cu)), (.ref ae)]))
      refine s_iloadN B X27 (pc' := 127) d5_126 rfl rfl ?_
      refine s_iadd B X27 (pc' := 128) (v := (1 : Int32)) d5_127 rfl rfl ?_
      refine f_ste B X27 (pc' := 129) (j := cu) (x := 1) e27 F26 hlt hc6 N26 d5_128 rfl (fun T28 h28 L28 X28 e28 N28 F28 => ?_)
      show Go p e below _ (T28.setTop (mkF m 129 #[.val (.ref lk), .val (.int (Int32.ofNat u)), .val (.int (Int32.ofNat v)), .val (.int (1 : Int32)), .val (.int (Int32.ofNat cu)), .val (.int (1 : Int32))] []))
      refine s_iload B X28 (pc' := 131) d5_129 rfl rfl ?_
      exact r_nar B X28 (t := .boolean) (by simp) rfl d5_131 (by rw [e28]; exact ⟨congrArg (fun z => some (Value.int z)) (if_pos hD).symm, N28, F28.close (by rw [updN_same, up1_at]; exact RowOK.addNew R1 hv hD hno hlt hm (fun k hk => ⟨rfl, rfl⟩)) (fun u' h1 h2 => by rw [updN_ne h2, up1_ne h2]; exact R2 u' h1 h2)⟩) (by decide) (by decide)
theorem d11_0 : decode prog_8_method_12_code 0 = .ok (.aload_n 0, 1) := by decide +kernel
theorem d11_1 : decode prog_8_method_12_code 1 = .ok (.iload_n 1, 1) := by decide +kernel
theorem d11_2 : decode prog_8_method_12_code 2 = .ok (.iload_n 2, 1) := by decide +kernel
theorem d11_3 : decode prog_8_method_12_code 3 = .ok (.invokevirtual 30, 3) := by decide +kernel
theorem d11_6 : decode prog_8_method_12_code 6 = .ok (.istore 4, 2) := by decide +kernel
theorem d11_8 : decode prog_8_method_12_code 8 = .ok (.aload_n 0, 1) := by decide +kernel
theorem d11_9 : decode prog_8_method_12_code 9 = .ok (.getfield 15, 3) := by decide +kernel
theorem d11_12 : decode prog_8_method_12_code 12 = .ok (.iload_n 1, 1) := by decide +kernel
theorem d11_13 : decode prog_8_method_12_code 13 = .ok (.aaload, 1) := by decide +kernel
theorem d11_14 : decode prog_8_method_12_code 14 = .ok (.iload 4, 2) := by decide +kernel
theorem d11_16 : decode prog_8_method_12_code 16 = .ok (.dup2, 1) := by decide +kernel
theorem d11_17 : decode prog_8_method_12_code 17 = .ok (.iaload, 1) := by decide +kernel
theorem d11_18 : decode prog_8_method_12_code 18 = .ok (.iload_n 3, 1) := by decide +kernel
theorem d11_19 : decode prog_8_method_12_code 19 = .ok (.isub, 1) := by decide +kernel
theorem d11_20 : decode prog_8_method_12_code 20 = .ok (.iastore, 1) := by decide +kernel
theorem d11_21 : decode prog_8_method_12_code 21 = .ok (.aload_n 0, 1) := by decide +kernel
theorem d11_22 : decode prog_8_method_12_code 22 = .ok (.getfield 15, 3) := by decide +kernel
theorem d11_25 : decode prog_8_method_12_code 25 = .ok (.iload_n 1, 1) := by decide +kernel
theorem d11_26 : decode prog_8_method_12_code 26 = .ok (.aaload, 1) := by decide +kernel
theorem d11_27 : decode prog_8_method_12_code 27 = .ok (.iload 4, 2) := by decide +kernel
theorem d11_29 : decode prog_8_method_12_code 29 = .ok (.iaload, 1) := by decide +kernel
theorem d11_30 : decode prog_8_method_12_code 30 = .ok (.ifCond .ne 7, 3) := by decide +kernel
theorem d11_33 : decode prog_8_method_12_code 33 = .ok (.iconst 1, 1) := by decide +kernel
theorem d11_34 : decode prog_8_method_12_code 34 = .ok (.goto 4, 3) := by decide +kernel
theorem d11_37 : decode prog_8_method_12_code 37 = .ok (.iconst 0, 1) := by decide +kernel
theorem d11_38 : decode prog_8_method_12_code 38 = .ok (.istore 5, 2) := by decide +kernel
theorem d11_40 : decode prog_8_method_12_code 40 = .ok (.iload 5, 2) := by decide +kernel
theorem d11_42 : decode prog_8_method_12_code 42 = .ok (.ifCond .eq 52, 3) := by decide +kernel
theorem d11_45 : decode prog_8_method_12_code 45 = .ok (.aload_n 0, 1) := by decide +kernel
theorem d11_46 : decode prog_8_method_12_code 46 = .ok (.getfield 27, 3) := by decide +kernel
theorem d11_49 : decode prog_8_method_12_code 49 = .ok (.iload_n 1, 1) := by decide +kernel
theorem d11_50 : decode prog_8_method_12_code 50 = .ok (.dup2, 1) := by decide +kernel
theorem d11_51 : decode prog_8_method_12_code 51 = .ok (.iaload, 1) := by decide +kernel
theorem d11_52 : decode prog_8_method_12_code 52 = .ok (.iconst 1, 1) := by decide +kernel
theorem d11_53 : decode prog_8_method_12_code 53 = .ok (.isub, 1) := by decide +kernel
theorem d11_54 : decode prog_8_method_12_code 54 = .ok (.dup_x2, 1) := by decide +kernel
theorem d11_55 : decode prog_8_method_12_code 55 = .ok (.iastore, 1) := by decide +kernel
theorem d11_56 : decode prog_8_method_12_code 56 = .ok (.istore 6, 2) := by decide +kernel
theorem d11_58 : decode prog_8_method_12_code 58 = .ok (.aload_n 0, 1) := by decide +kernel
theorem d11_59 : decode prog_8_method_12_code 59 = .ok (.getfield 9, 3) := by decide +kernel
theorem d11_62 : decode prog_8_method_12_code 62 = .ok (.iload_n 1, 1) := by decide +kernel
theorem d11_63 : decode prog_8_method_12_code 63 = .ok (.aaload, 1) := by decide +kernel
theorem d11_64 : decode prog_8_method_12_code 64 = .ok (.iload 4, 2) := by decide +kernel
theorem d11_66 : decode prog_8_method_12_code 66 = .ok (.aload_n 0, 1) := by decide +kernel
theorem d11_67 : decode prog_8_method_12_code 67 = .ok (.getfield 9, 3) := by decide +kernel
theorem d11_70 : decode prog_8_method_12_code 70 = .ok (.iload_n 1, 1) := by decide +kernel
theorem d11_71 : decode prog_8_method_12_code 71 = .ok (.aaload, 1) := by decide +kernel
theorem d11_72 : decode prog_8_method_12_code 72 = .ok (.iload 6, 2) := by decide +kernel
theorem d11_74 : decode prog_8_method_12_code 74 = .ok (.iaload, 1) := by decide +kernel
theorem d11_75 : decode prog_8_method_12_code 75 = .ok (.iastore, 1) := by decide +kernel
theorem d11_76 : decode prog_8_method_12_code 76 = .ok (.aload_n 0, 1) := by decide +kernel
theorem d11_77 : decode prog_8_method_12_code 77 = .ok (.getfield 15, 3) := by decide +kernel
theorem d11_80 : decode prog_8_method_12_code 80 = .ok (.iload_n 1, 1) := by decide +kernel
theorem d11_81 : decode prog_8_method_12_code 81 = .ok (.aaload, 1) := by decide +kernel
theorem d11_82 : decode prog_8_method_12_code 82 = .ok (.iload 4, 2) := by decide +kernel
theorem d11_84 : decode prog_8_method_12_code 84 = .ok (.aload_n 0, 1) := by decide +kernel
theorem d11_85 : decode prog_8_method_12_code 85 = .ok (.getfield 15, 3) := by decide +kernel
theorem d11_88 : decode prog_8_method_12_code 88 = .ok (.iload_n 1, 1) := by decide +kernel
theorem d11_89 : decode prog_8_method_12_code 89 = .ok (.aaload, 1) := by decide +kernel
theorem d11_90 : decode prog_8_method_12_code 90 = .ok (.iload 6, 2) := by decide +kernel
theorem d11_92 : decode prog_8_method_12_code 92 = .ok (.iaload, 1) := by decide +kernel
theorem d11_93 : decode prog_8_method_12_code 93 = .ok (.iastore, 1) := by decide +kernel
theorem d11_94 : decode prog_8_method_12_code 94 = .ok (.iload 5, 2) := by decide +kernel
theorem d11_96 : decode prog_8_method_12_code 96 = .ok (.ireturn, 1) := by decide +kernel
theorem pn_rm_remOne : plainFor mn5 = true := plainFor_of_name (show plainName "unitloom/engine/Links" = true by first | (simp [plainName, overriddenIn]; done) | decide +kernel)
set_option maxRecDepth 65536 in
set_option maxHeartbeats 40000000 in
theorem rm_remOne (l : Launch) (Z : State) (a0 : Array Value) (hw : ∀ d ∈ tables_1, d.before a0 Z = true) (lk ex : Addr) (nx : Nat) (gx : Nat → Nat) (nn : Nat) (bb : Nat → Nat) (CC : Nat → Nat → Nat) (u v : Nat) (h0 : Heap) (A0 : LA Z h0 lk ex nx gx nn bb CC) (hu : u < nn) (hv : v < 8) (hb5_ : bb u ≤ 5) (hpos : 0 < CC u v) :
    OMeets l Z mn5 prog_8_method_12_code 7 (some .boolean) [] ({ frames := 1, cells := 0, slots := 0, locals := 16 } : Room) #[(.ref lk), (.int (Int32.ofNat u)), (.int (Int32.ofNat v)), (.int (1 : Int32))] h0 (fun v' h L => v' = some (.int (if CC u v = 1 then 1 else 0)) ∧ Fr Z.heap.size L ∧ LA Z h lk ex nx gx nn bb (dn1 CC u v)) := by
  refine OMeets.of pn_rm_remOne #[.val (.ref lk), .val (.int (Int32.ofNat u)), .val (.int (Int32.ofNat v)), .val (.int (1 : Int32)), .unset, .unset, .unset] (fun m => by first | rfl | (simp [entryFrame, mkF, argsToLocals, Value.category, maxLocals]; done)) ?_
  intro p e s m below meth c s₁ B X0 e0
  obtain ⟨pa, ca, cn0, len0, ff0, cu, ap, ae, lp, le, gp, ge, F0, R1, R2⟩ := LA.view A0 hu
  obtain ⟨⟨a1, rfl, a3, a4, a5⟩, b1, c1, d1, -⟩ := id R1
  have hcl : cu ≤ lp := a3
  have hc6 : cu < 64 := by omega
  have hv6 : v < 64 := by omega
  have hg6 : ∀ k, k < cu → gp k < 64 := fun k hk => Nat.lt_of_lt_of_le (c1 k hk).1 (by decide)
  refine s_aloadN B X0 (pc' := 1) d11_0 rfl rfl rfl ?_
  refine s_iloadN B X0 (pc' := 2) d11_1 rfl rfl ?_
  refine s_iloadN B X0 (pc' := 3) d11_2 rfl rfl ?_
  refine p_private B X0 (y := mn0) (pc' := 6) (argsL := [(.int (Int32.ofNat u)), (.int (Int32.ofNat v))]) (under := []) (W := 0) e0 (tw35 hw) (tw2 hw) (tw37 hw) (tw36 hw) (tw38 hw) (tw3 hw) (by decide) (rm_index l Z a0 hw _ _ _ _ _ _ _ _ _ _ _ _ _ _ _ _ _ _ v h0 F0 hv6 hcl hc6 hg6) F0.exa (lenOf pd_0 rfl) rfl rfl (by decide) (by decide) rfl rfl (by decide) (by decide) rfl d11_3 rfl (fun T1 X1 e1 => ?_)
  show Go p e below _ (T1.setTop (mkF m 6 #[.val (.ref lk), .val (.int (Int32.ofNat u)), .val (.int (Int32.ofNat v)), .val (.int (1 : Int32)), .unset, .unset, .unset] [(.int (fI gp v cu 0))]))
  rcases R1.find hv with ⟨k, hk, hgk, hek, hD, hr⟩ | ⟨hD, hno, hr⟩
  · rw [hr]
    have hk6 : k < 64 := by omega
    have hke : k < lp := by omega
    show Go p e below _ (T1.setTop (mkF m 6 #[.val (.ref lk), .val (.int (Int32.ofNat u)), .val (.int (Int32.ofNat v)), .val (.int (1 : Int32)), .unset, .unset, .unset] [(.int (Int32.ofNat k))]))
    have hb5 := b1 v
    have hs1 : Int32.ofNat (ge k) - 1 = Int32.ofNat (CC u v - 1) := by rw [hek]; exact sm_pred hD (by omega)
    have hu1 : updN ge k (CC u v - 1) k = CC u v - 1 := updN_same
    have hs2 : Int32.ofNat cu - 1 = Int32.ofNat (cu - 1) := sm_pred (by omega) hc6
    have hl1 : cu - 1 < lp := by omega
    have hl6 : cu - 1 < 64 := by omega
    by_cases h1 : CC u v = 1
    · show Go p e below _ (T1.setTop (mkF m 6 #[.val (.ref lk), .val (.int (Int32.ofNat u)), .val (.int (Int32.ofNat v)), .val (.int (1 : Int32)), .unset, .unset, .unset] [(.int (Int32.ofNat k))]))
      refine s_istore B X1 (pc' := 8) (Ls' := #[.val (.ref lk), .val (.int (Int32.ofNat u)), .val (.int (Int32.ofNat v)), .val (.int (1 : Int32)), .val (.int (Int32.ofNat k)), .unset, .unset]) d11_6 rfl rfl ?_
      refine s_aloadN B X1 (pc' := 9) d11_8 rfl rfl rfl ?_
      refine s_getF B X1 (pc' := 12) e1 (host := "") (Or.inl (tw14 hw)) Via.refl F0.f2 d11_9 rfl (fun T2 X2 e2 => ?_)
      refine s_iloadN B X2 (pc' := 13) d11_12 rfl rfl ?_
      refine f_ldE B X2 (pc' := 14) e2 F0 d11_13 rfl ?_
      refine s_iload B X2 (pc' := 16) d11_14 rfl rfl ?_
      refine s_dup2 B X2 (pc' := 17) d11_16 rfl rfl rfl ?_
      refine f_lde B X2 (pc' := 18) (j := k) e2 F0 hke hk6 d11_17 rfl ?_
      refine s_iloadN B X2 (pc' := 19) d11_18 rfl rfl ?_
      refine s_isub B X2 (pc' := 20) (v := (Int32.ofNat (CC u v - 1))) d11_19 (hs1) rfl ?_
      refine f_ste B X2 (pc' := 21) (j := k) (x := (CC u v - 1)) e2 F0 hke hk6 (Fr.nil _) d11_20 rfl (fun T3 h3 L3 X3 e3 N3 F3 => ?_)
      show Go p e below _ (T3.setTop (mkF m 21 #[.val (.ref lk), .val (.int (Int32.ofNat u)), .val (.int (Int32.ofNat v)), .val (.int (1 : Int32)), .val (.int (Int32.ofNat k)), .unset, .unset] []))
      refine s_aloadN B X3 (pc' := 22) d11_21 rfl rfl rfl ?_
      refine s_getF B X3 (pc' := 25) e3 (host := "") (Or.inl (tw14 hw)) Via.refl F3.f2 d11_22 rfl (fun T4 X4 e4 => ?_)
      refine s_iloadN B X4 (pc' := 26) d11_25 rfl rfl ?_
      refine f_ldE B X4 (pc' := 27) e4 F3 d11_26 rfl ?_
      refine s_iload B X4 (pc' := 29) d11_27 rfl rfl ?_
      refine f_lde B X4 (pc' := 30) (j := k) e4 F3 hke hk6 d11_29 rfl ?_
      rw [show (Int32.ofNat ((updN ge k (CC u v - 1)) k)) = (Int32.ofNat (CC u v - 1)) from congrArg Int32.ofNat hu1]
      show Go p e below _ (T4.setTop (mkF m 30 #[.val (.ref lk), .val (.int (Int32.ofNat u)), .val (.int (Int32.ofNat v)), .val (.int (1 : Int32)), .val (.int (Int32.ofNat k)), .unset, .unset] [(.int (Int32.ofNat (CC u v - 1)))]))
      refine b_if_ne B X4 (py := 37) (pn := 33) d11_30 (by decide) (by decide) rfl (fun q => absurd ((sm_eq0 (by omega)).mpr (by omega)) q) (fun _ => ?_)
      refine s_iconst B X4 (pc' := 34) (v := (1 : Int32)) d11_33 rfl rfl ?_
      refine s_goto B X4 (pc' := 38) d11_34 (by decide) (by decide) ?_
      refine s_istore B X4 (pc' := 40) (Ls' := #[.val (.ref lk), .val (.int (Int32.ofNat u)), .val (.int (Int32.ofNat v)), .val (.int (1 : Int32)), .val (.int (Int32.ofNat k)), .val (.int (1 : Int32)), .unset]) d11_38 rfl rfl ?_
      refine s_iload B X4 (pc' := 42) d11_40 rfl rfl ?_
      refine s_ifN B X4 (pc' := 45) d11_42 (by decide) rfl ?_
      refine s_aloadN B X4 (pc' := 46) d11_45 rfl rfl rfl ?_
      refine s_getF B X4 (pc' := 49) e4 (host := "") (Or.inl (tw24 hw)) Via.refl F3.f3 d11_46 rfl (fun T5 X5 e5 => ?_)
      refine s_iloadN B X5 (pc' := 50) d11_49 rfl rfl ?_
      refine s_dup2 B X5 (pc' := 51) d11_50 rfl rfl rfl ?_
      refine f_ldC B X5 (pc' := 52) e5 F3 d11_51 rfl ?_
      refine s_iconst B X5 (pc' := 53) (v := (1 : Int32)) d11_52 rfl rfl ?_
      refine s_isub B X5 (pc' := 54) (v := (Int32.ofNat (cu - 1))) d11_53 (hs2) rfl ?_
      refine s_dup_x2 B X5 (pc' := 55) d11_54 rfl rfl rfl rfl ?_
      refine f_stC B X5 (pc' := 56) (x := (cu - 1)) e5 F3 N3 d11_55 rfl (fun T6 h6 L6 X6 e6 N6 F6 => ?_)
      show Go p e below _ (T6.setTop (mkF m 56 #[.val (.ref lk), .val (.int (Int32.ofNat u)), .val (.int (Int32.ofNat v)), .val (.int (1 : Int32)), .val (.int (Int32.ofNat k)), .val (.int (1 : Int32)), .unset] [(.int (Int32.ofNat (cu - 1)))]))
      refine s_istore B X6 (pc' := 58) (Ls' := #[.val (.ref lk), .val (.int (Int32.ofNat u)), .val (.int (Int32.ofNat v)), .val (.int (1 : Int32)), .val (.int (Int32.ofNat k)), .val (.int (1 : Int32)), .val (.int (Int32.ofNat (cu - 1)))]) d11_56 rfl rfl ?_
      refine s_aloadN B X6 (pc' := 59) d11_58 rfl rfl rfl ?_
      refine s_getF B X6 (pc' := 62) e6 (host := "") (Or.inl (tw12 hw)) Via.refl F6.f1 d11_59 rfl (fun T7 X7 e7 => ?_)
      refine s_iloadN B X7 (pc' := 63) d11_62 rfl rfl ?_
      refine f_ldP B X7 (pc' := 64) e7 F6 d11_63 rfl ?_
      refine s_iload B X7 (pc' := 66) d11_64 rfl rfl ?_
      refine s_aloadN B X7 (pc' := 67) d11_66 rfl rfl rfl ?_
      refine s_getF B X7 (pc' := 70) e7 (host := "") (Or.inl (tw12 hw)) Via.refl F6.f1 d11_67 rfl (fun T8 X8 e8 => ?_)
      refine s_iloadN B X8 (pc' := 71) d11_70 rfl rfl ?_
      refine f_ldP B X8 (pc' := 72) e8 F6 d11_71 rfl ?_
      refine s_iload B X8 (pc' := 74) d11_72 rfl rfl ?_
      refine f_ldp B X8 (pc' := 75) (j := (cu - 1)) e8 F6 hl1 hl6 d11_74 rfl ?_
      refine f_stp B X8 (pc' := 76) (j := k) (x := (gp (cu - 1))) e8 F6 hke hk6 N6 d11_75 rfl (fun T9 h9 L9 X9 e9 N9 F9 => ?_)
      show Go p e below _ (T9.setTop (mkF m 76 #[.val (.ref lk), .val (.int (Int32.ofNat u)), .val (.int (Int32.ofNat v)), .val (.int (1 : Int32)), .val (.int (Int32.ofNat k)), .val (.int (1 : Int32)), .val (.int (Int32.ofNat (cu - 1)))] []))
      refine s_aloadN B X9 (pc' := 77) d11_76 rfl rfl rfl ?_
      refine s_getF B X9 (pc' := 80) e9 (host := "") (Or.inl (tw14 hw)) Via.refl F9.f2 d11_77 rfl (fun T10 X10 e10 => ?_)
      refine s_iloadN B X10 (pc' := 81) d11_80 rfl rfl ?_
      refine f_ldE B X10 (pc' := 82) e10 F9 d11_81 rfl ?_
      refine s_iload B X10 (pc' := 84) d11_82 rfl rfl ?_
      refine s_aloadN B X10 (pc' := 85) d11_84 rfl rfl rfl ?_
      refine s_getF B X10 (pc' := 88) e10 (host := "") (Or.inl (tw14 hw)) Via.refl F9.f2 d11_85 rfl (fun T11 X11 e11 => ?_)
      refine s_iloadN B X11 (pc' := 89) d11_88 rfl rfl ?_
      refine f_ldE B X11 (pc' := 90) e11 F9 d11_89 rfl ?_
      refine s_iload B X11 (pc' := 92) d11_90 rfl rfl ?_
      refine f_lde B X11 (pc' := 93) (j := (cu - 1)) e11 F9 hl1 hl6 d11_92 rfl ?_
      refine f_ste B X11 (pc' := 94) (j := k) (x := ((updN ge k (CC u v - 1)) (cu - 1))) e11 F9 hke hk6 N9 d11_93 rfl (fun T12 h12 L12 X12 e12 N12 F12 => ?_)
      show Go p e below _ (T12.setTop (mkF m 94 #[.val (.ref lk), .val (.int (Int32.ofNat u)), .val (.int (Int32.ofNat v)), .val (.int (1 : Int32)), .val (.int (Int32.ofNat k)), .val (.int (1 : Int32)), .val (.int (Int32.ofNat (cu - 1)))] []))
      refine s_iload B X12 (pc' := 96) d11_94 rfl rfl ?_
      exact r_nar B X12 (t := .boolean) (by simp) rfl d11_96 (by rw [e12]; exact ⟨congrArg (fun z => some (Value.int z)) (if_pos h1).symm, N12, F12.close (by rw [dn1_at]; exact RowOK.remYes R1 hv hk hgk h1) (fun u' h2 h3 => by rw [dn1_ne h3]; exact R2 u' h2 h3)⟩) (by decide) (by decide)
    · show Go p e below _ (T1.setTop (mkF m 6 #[.val (.ref lk), .val (.int (Int32.ofNat u)), .val (.int (Int32.ofNat v)), .val (.int (1 : Int32)), .unset, .unset, .unset] [(.int (Int32.ofNat k))]))
      refine s_istore B X1 (pc' := 8) (Ls' := #[.val (.ref lk), .val (.int (Int32.ofNat u)), .val (.int (Int32.ofNat v)), .val (.int (1 : Int32)), .val (.int (Int32.ofNat k)), .unset, .unset]) d11_6 rfl rfl ?_
      refine s_aloadN B X1 (pc' := 9) d11_8 rfl rfl rfl ?_
      refine s_getF B X1 (pc' := 12) e1 (host := "") (Or.inl (tw14 hw)) Via.refl F0.f2 d11_9 rfl (fun T13 X13 e13 => ?_)
      refine s_iloadN B X13 (pc' := 13) d11_12 rfl rfl ?_
      refine f_ldE B X13 (pc' := 14) e13 F0 d11_13 rfl ?_
      refine s_iload B X13 (pc' := 16) d11_14 rfl rfl ?_
      refine s_dup2 B X13 (pc' := 17) d11_16 rfl rfl rfl ?_
      refine f_lde B X13 (pc' := 18) (j := k) e13 F0 hke hk6 d11_17 rfl ?_
      refine s_iloadN B X13 (pc' := 19) d11_18 rfl rfl ?_
      refine s_isub B X13 (pc' := 20) (v := (Int32.ofNat (CC u v - 1))) d11_19 (hs1) rfl ?_
      refine f_ste B X13 (pc' := 21) (j := k) (x := (CC u v - 1)) e13 F0 hke hk6 (Fr.nil _) d11_20 rfl (fun T14 h14 L14 X14 e14 N14 F14 => ?_)
      show Go p e below _ (T14.setTop (mkF m 21 #[.val (.ref lk), .val (.int (Int32.ofNat u)), .val (.int (Int32.ofNat v)), .val (.int (1 : Int32)), .val (.int (Int32.ofNat k)), .unset, .unset] []))
      refine s_aloadN B X14 (pc' := 22) d11_21 rfl rfl rfl ?_
      refine s_getF B X14 (pc' := 25) e14 (host := "") (Or.inl (tw14 hw)) Via.refl F14.f2 d11_22 rfl (fun T15 X15 e15 => ?_)
      refine s_iloadN B X15 (pc' := 26) d11_25 rfl rfl ?_
      refine f_ldE B X15 (pc' := 27) e15 F14 d11_26 rfl ?_
      refine s_iload B X15 (pc' := 29) d11_27 rfl rfl ?_
      refine f_lde B X15 (pc' := 30) (j := k) e15 F14 hke hk6 d11_29 rfl ?_
      rw [show (Int32.ofNat ((updN ge k (CC u v - 1)) k)) = (Int32.ofNat (CC u v - 1)) from congrArg Int32.ofNat hu1]
      show Go p e below _ (T15.setTop (mkF m 30 #[.val (.ref lk), .val (.int (Int32.ofNat u)), .val (.int (Int32.ofNat v)), .val (.int (1 : Int32)), .val (.int (Int32.ofNat k)), .unset, .unset] [(.int (Int32.ofNat (CC u v - 1)))]))
      refine b_if_ne B X15 (py := 37) (pn := 33) d11_30 (by decide) (by decide) rfl (fun _ => ?_) (fun q => absurd q (fun z => h1 (by have := (sm_eq0 (x := CC u v - 1) (by omega)).mp z; omega)))
      refine s_iconst B X15 (pc' := 38) (v := (0 : Int32)) d11_37 rfl rfl ?_
      refine s_istore B X15 (pc' := 40) (Ls' := #[.val (.ref lk), .val (.int (Int32.ofNat u)), .val (.int (Int32.ofNat v)), .val (.int (1 : Int32)), .val (.int (Int32.ofNat k)), .val (.int (0 : Int32)), .unset]) d11_38 rfl rfl ?_
      refine s_iload B X15 (pc' := 42) d11_40 rfl rfl ?_
      refine s_ifY B X15 (pc' := 94) d11_42 (by decide) (by decide) (by decide) ?_
      refine s_iload B X15 (pc' := 96) d11_94 rfl rfl ?_
      exact r_nar B X15 (t := .boolean) (by simp) rfl d11_96 (by rw [e15]; exact ⟨congrArg (fun z => some (Value.int z)) (if_neg h1).symm, N14, F14.close (by rw [dn1_at]; exact RowOK.remNot R1 hv hk hgk (by omega)) (fun u' h2 h3 => by rw [dn1_ne h3]; exact R2 u' h2 h3)⟩) (by decide) (by decide)
  · rw [hr]
    show Go p e below _ (T1.setTop (mkF m 6 #[.val (.ref lk), .val (.int (Int32.ofNat u)), .val (.int (Int32.ofNat v)), .val (.int (1 : Int32)), .unset, .unset, .unset] [(.int (-1 : Int32))]))
    omega
theorem d4_0 : decode prog_8_method_6_code 0 = .ok (.aload_n 0, 1) := by decide +kernel
theorem d4_1 : decode prog_8_method_6_code 1 = .ok (.iload_n 1, 1) := by decide +kernel
theorem d4_2 : decode prog_8_method_6_code 2 = .ok (.iload_n 2, 1) := by decide +kernel
theorem d4_3 : decode prog_8_method_6_code 3 = .ok (.iconst 1, 1) := by decide +kernel
theorem d4_4 : decode prog_8_method_6_code 4 = .ok (.invokevirtual 34, 3) := by decide +kernel
theorem d4_7 : decode prog_8_method_6_code 7 = .ok (.pop, 1) := by decide +kernel
theorem d4_8 : decode prog_8_method_6_code 8 = .ok (.aload_n 0, 1) := by decide +kernel
theorem d4_9 : decode prog_8_method_6_code 9 = .ok (.iload_n 2, 1) := by decide +kernel
theorem d4_10 : decode prog_8_method_6_code 10 = .ok (.iload_n 1, 1) := by decide +kernel
theorem d4_11 : decode prog_8_method_6_code 11 = .ok (.iconst 1, 1) := by decide +kernel
theorem d4_12 : decode prog_8_method_6_code 12 = .ok (.invokevirtual 34, 3) := by decide +kernel
theorem d4_15 : decode prog_8_method_6_code 15 = .ok (.ireturn, 1) := by decide +kernel
theorem pn_rm_addEdge : plainFor mn6 = true := plainFor_of_name (show plainName "unitloom/engine/Links" = true by first | (simp [plainName, overriddenIn]; done) | decide +kernel)
set_option maxRecDepth 65536 in
set_option maxHeartbeats 40000000 in
theorem rm_addEdge (l : Launch) (Z : State) (a0 : Array Value) (hw : ∀ d ∈ tables_1, d.before a0 Z = true) (lk ex : Addr) (nx : Nat) (gx : Nat → Nat) (nn : Nat) (B0 : Nat) (CC : Nat → Nat → Nat) (u v : Nat) (h0 : Heap) (A0 : LA Z h0 lk ex nx gx nn (fun _ => B0) CC) (hn8 : nn ≤ 8) (hu : u < nn) (hv : v < nn) (hne : u ≠ v) (hB : B0 ≤ 4) :
    OMeets l Z mn6 prog_8_method_6_code 3 (some .boolean) [] ({ frames := 3, cells := 4, slots := 32, locals := 51 } : Room) #[(.ref lk), (.int (Int32.ofNat u)), (.int (Int32.ofNat v))] h0 (fun v' h L => (∃ x, v' = some (.int x)) ∧ Fr Z.heap.size L ∧ LA Z h lk ex nx gx nn (fun _ => B0 + 1) (up1 (up1 CC u v) v u)) := by
  refine OMeets.of pn_rm_addEdge #[.val (.ref lk), .val (.int (Int32.ofNat u)), .val (.int (Int32.ofNat v))] (fun m => by first | rfl | (simp [entryFrame, mkF, argsToLocals, Value.category, maxLocals]; done)) ?_
  intro p e s m below meth c s₁ B X0 e0
  refine s_aloadN B X0 (pc' := 1) d4_0 rfl rfl rfl ?_
  refine s_iloadN B X0 (pc' := 2) d4_1 rfl rfl ?_
  refine s_iloadN B X0 (pc' := 3) d4_2 rfl rfl ?_
  refine s_iconst B X0 (pc' := 4) (v := (1 : Int32)) d4_3 rfl rfl ?_
  refine c_private B X0 (y := mn4) (pc' := 7) (argsL := [(.int (Int32.ofNat u)), (.int (Int32.ofNat v)), (.int (1 : Int32))]) (under := []) (W := 0) e0 (tw31 hw) (tw2 hw) (tw33 hw) (tw32 hw) (tw34 hw) (tw3 hw) (by decide) (rm_addOne l Z a0 hw lk ex nx gx nn (fun _ => B0) CC u v h0 A0 hu (Nat.lt_of_lt_of_le hv hn8) hB) A0.exa (lenOf pd_2 rfl) rfl rfl (by decide) (by decide) (by decide) (by decide) rfl d4_4 rfl (fun v1 T1 L1 X1 hQ1 => ?_)
  obtain ⟨rfl, Nq1, A1⟩ := hQ1
  have N1 := Fr.app (Fr.nil _) Nq1
  show Go p e below _ (T1.setTop (mkF m 7 #[.val (.ref lk), .val (.int (Int32.ofNat u)), .val (.int (Int32.ofNat v))] [(.int (if CC u v = 0 then 1 else 0))]))
  refine s_pop B X1 (pc' := 8) d4_7 rfl rfl ?_
  refine s_aloadN B X1 (pc' := 9) d4_8 rfl rfl rfl ?_
  refine s_iloadN B X1 (pc' := 10) d4_9 rfl rfl ?_
  refine s_iloadN B X1 (pc' := 11) d4_10 rfl rfl ?_
  refine s_iconst B X1 (pc' := 12) (v := (1 : Int32)) d4_11 rfl rfl ?_
  refine c_private B X1 (y := mn4) (pc' := 15) (argsL := [(.int (Int32.ofNat v)), (.int (Int32.ofNat u)), (.int (1 : Int32))]) (under := []) (W := 0) rfl (tw31 hw) (tw2 hw) (tw33 hw) (tw32 hw) (tw34 hw) (tw3 hw) (by decide) (rm_addOne l Z a0 hw lk ex nx gx nn _ _ v u _ A1 hv (Nat.lt_of_lt_of_le hu hn8) (by rw [updN_ne hne.symm]; exact hB)) A1.exa (lenOf pd_2 rfl) rfl rfl (by decide) (by decide) (by decide) (by decide) rfl d4_12 rfl (fun v2 T2 L2 X2 hQ2 => ?_)
  obtain ⟨rfl, Nq2, A2⟩ := hQ2
  have N2 := Fr.app N1 Nq2
  show Go p e below _ (T2.setTop (mkF m 15 #[.val (.ref lk), .val (.int (Int32.ofNat u)), .val (.int (Int32.ofNat v))] [(.int (if up1 CC u v v u = 0 then 1 else 0))]))
  exact r_nar B X2 (t := .boolean) (by simp) rfl d4_15 ⟨⟨_, rfl⟩, N2, A2.mono (fun x hx => by simp only [updN]; split <;> (try split) <;> omega)⟩ (by decide) (by decide)
theorem d10_0 : decode prog_8_method_7_code 0 = .ok (.aload_n 0, 1) := by decide +kernel
theorem d10_1 : decode prog_8_method_7_code 1 = .ok (.iload_n 1, 1) := by decide +kernel
theorem d10_2 : decode prog_8_method_7_code 2 = .ok (.iload_n 2, 1) := by decide +kernel
theorem d10_3 : decode prog_8_method_7_code 3 = .ok (.iconst 1, 1) := by decide +kernel
theorem d10_4 : decode prog_8_method_7_code 4 = .ok (.invokevirtual 38, 3) := by decide +kernel
theorem d10_7 : decode prog_8_method_7_code 7 = .ok (.pop, 1) := by decide +kernel
theorem d10_8 : decode prog_8_method_7_code 8 = .ok (.aload_n 0, 1) := by decide +kernel
theorem d10_9 : decode prog_8_method_7_code 9 = .ok (.iload_n 2, 1) := by decide +kernel
theorem d10_10 : decode prog_8_method_7_code 10 = .ok (.iload_n 1, 1) := by decide +kernel
theorem d10_11 : decode prog_8_method_7_code 11 = .ok (.iconst 1, 1) := by decide +kernel
theorem d10_12 : decode prog_8_method_7_code 12 = .ok (.invokevirtual 38, 3) := by decide +kernel
theorem d10_15 : decode prog_8_method_7_code 15 = .ok (.ireturn, 1) := by decide +kernel
theorem pn_rm_removeEdge : plainFor mn7 = true := plainFor_of_name (show plainName "unitloom/engine/Links" = true by first | (simp [plainName, overriddenIn]; done) | decide +kernel)
set_option maxRecDepth 65536 in
set_option maxHeartbeats 40000000 in
theorem rm_removeEdge (l : Launch) (Z : State) (a0 : Array Value) (hw : ∀ d ∈ tables_1, d.before a0 Z = true) (lk ex : Addr) (nx : Nat) (gx : Nat → Nat) (nn : Nat) (B0 : Nat) (CC : Nat → Nat → Nat) (u v : Nat) (h0 : Heap) (A0 : LA Z h0 lk ex nx gx nn (fun _ => B0) CC) (hn8 : nn ≤ 8) (hu : u < nn) (hv : v < nn) (hne : u ≠ v) (hB : B0 ≤ 5) (hp1 : 0 < CC u v) (hp2 : 0 < CC v u) :
    OMeets l Z mn7 prog_8_method_7_code 3 (some .boolean) [] ({ frames := 2, cells := 0, slots := 0, locals := 34 } : Room) #[(.ref lk), (.int (Int32.ofNat u)), (.int (Int32.ofNat v))] h0 (fun v' h L => v' = some (.int (if CC v u = 1 then 1 else 0)) ∧ Fr Z.heap.size L ∧ LA Z h lk ex nx gx nn (fun _ => B0) (dn1 (dn1 CC u v) v u)) := by
  refine OMeets.of pn_rm_removeEdge #[.val (.ref lk), .val (.int (Int32.ofNat u)), .val (.int (Int32.ofNat v))] (fun m => by first | rfl | (simp [entryFrame, mkF, argsToLocals, Value.category, maxLocals]; done)) ?_
  intro p e s m below meth c s₁ B X0 e0
  refine s_aloadN B X0 (pc' := 1) d10_0 rfl rfl rfl ?_
  refine s_iloadN B X0 (pc' := 2) d10_1 rfl rfl ?_
  refine s_iloadN B X0 (pc' := 3) d10_2 rfl rfl ?_
  refine s_iconst B X0 (pc' := 4) (v := (1 : Int32)) d10_3 rfl rfl ?_
  refine c_private B X0 (y := mn5) (pc' := 7) (argsL := [(.int (Int32.ofNat u)), (.int (Int32.ofNat v)), (.int (1 : Int32))]) (under := []) (W := 0) e0 (tw58 hw) (tw2 hw) (tw60 hw) (tw59 hw) (tw61 hw) (tw3 hw) (by decide) (rm_remOne l Z a0 hw lk ex nx gx nn (fun _ => B0) CC u v h0 A0 hu (Nat.lt_of_lt_of_le hv hn8) hB hp1) A0.exa (lenOf pd_2 rfl) rfl rfl (by decide) (by decide) (by decide) (by decide) rfl d10_4 rfl (fun v1 T1 L1 X1 hQ1 => ?_)
  obtain ⟨rfl, Nq1, A1⟩ := hQ1
  have N1 := Fr.app (Fr.nil _) Nq1
  show Go p e below _ (T1.setTop (mkF m 7 #[.val (.ref lk), .val (.int (Int32.ofNat u)), .val (.int (Int32.ofNat v))] [(.int (if CC u v = 1 then 1 else 0))]))
  refine s_pop B X1 (pc' := 8) d10_7 rfl rfl ?_
  refine s_aloadN B X1 (pc' := 9) d10_8 rfl rfl rfl ?_
  refine s_iloadN B X1 (pc' := 10) d10_9 rfl rfl ?_
  refine s_iloadN B X1 (pc' := 11) d10_10 rfl rfl ?_
  refine s_iconst B X1 (pc' := 12) (v := (1 : Int32)) d10_11 rfl rfl ?_
  refine c_private B X1 (y := mn5) (pc' := 15) (argsL := [(.int (Int32.ofNat v)), (.int (Int32.ofNat u)), (.int (1 : Int32))]) (under := []) (W := 0) rfl (tw58 hw) (tw2 hw) (tw60 hw) (tw59 hw) (tw61 hw) (tw3 hw) (by decide) (rm_remOne l Z a0 hw lk ex nx gx nn (fun _ => B0) (dn1 CC u v) v u _ A1 hv (Nat.lt_of_lt_of_le hu hn8) hB (by rw [dn1_ne hne.symm]; exact hp2)) A1.exa (lenOf pd_2 rfl) rfl rfl (by decide) (by decide) (by decide) (by decide) rfl d10_12 rfl (fun v2 T2 L2 X2 hQ2 => ?_)
  obtain ⟨rfl, Nq2, A2⟩ := hQ2
  have N2 := Fr.app N1 Nq2
  show Go p e below _ (T2.setTop (mkF m 15 #[.val (.ref lk), .val (.int (Int32.ofNat u)), .val (.int (Int32.ofNat v))] [(.int (if dn1 CC u v v u = 1 then 1 else 0))]))
  exact r_nar B X2 (t := .boolean) (by simp) rfl d10_15 ⟨congrArg (fun z => some (Value.int z)) (by rw [nar_ite, dn1_ne hne.symm]), N2, A2⟩ (by decide) (by decide)
theorem d12_0 : decode prog_8_method_5_code 0 = .ok (.aload_n 0, 1) := by decide +kernel
theorem d12_1 : decode prog_8_method_5_code 1 = .ok (.iload_n 1, 1) := by decide +kernel
theorem d12_2 : decode prog_8_method_5_code 2 = .ok (.iload_n 2, 1) := by decide +kernel
theorem d12_3 : decode prog_8_method_5_code 3 = .ok (.invokevirtual 30, 3) := by decide +kernel
theorem d12_6 : decode prog_8_method_5_code 6 = .ok (.istore_n 3, 1) := by decide +kernel
theorem d12_7 : decode prog_8_method_5_code 7 = .ok (.iload_n 3, 1) := by decide +kernel
theorem d12_8 : decode prog_8_method_5_code 8 = .ok (.ifCond .ge 7, 3) := by decide +kernel
theorem d12_11 : decode prog_8_method_5_code 11 = .ok (.iconst 0, 1) := by decide +kernel
theorem d12_12 : decode prog_8_method_5_code 12 = .ok (.goto 11, 3) := by decide +kernel
theorem d12_15 : decode prog_8_method_5_code 15 = .ok (.aload_n 0, 1) := by decide +kernel
theorem d12_16 : decode prog_8_method_5_code 16 = .ok (.getfield 15, 3) := by decide +kernel
theorem d12_19 : decode prog_8_method_5_code 19 = .ok (.iload_n 1, 1) := by decide +kernel
theorem d12_20 : decode prog_8_method_5_code 20 = .ok (.aaload, 1) := by decide +kernel
theorem d12_21 : decode prog_8_method_5_code 21 = .ok (.iload_n 3, 1) := by decide +kernel
theorem d12_22 : decode prog_8_method_5_code 22 = .ok (.iaload, 1) := by decide +kernel
theorem d12_23 : decode prog_8_method_5_code 23 = .ok (.ireturn, 1) := by decide +kernel
theorem pn_rm_edges : plainFor mn8 = true := plainFor_of_name (show plainName "unitloom/engine/Links" = true by first | (simp [plainName, overriddenIn]; done) | decide +kernel)
set_option maxRecDepth 65536 in
set_option maxHeartbeats 40000000 in
theorem rm_edges (l : Launch) (Z : State) (a0 : Array Value) (hw : ∀ d ∈ tables_1, d.before a0 Z = true) (lk ex : Addr) (nx : Nat) (gx : Nat → Nat) (nn : Nat) (bb : Nat → Nat) (CC : Nat → Nat → Nat) (u v : Nat) (h0 : Heap) (A0 : LA Z h0 lk ex nx gx nn bb CC) (hu : u < nn) (hv : v < 8) (hb5_ : bb u ≤ 5) (EE : Nat) (hE : CC u v = EE) :
    OMeets l Z mn8 prog_8_method_5_code 4 (some .int) [] ({ frames := 1, cells := 0, slots := 0, locals := 16 } : Room) #[(.ref lk), (.int (Int32.ofNat u)), (.int (Int32.ofNat v))] h0 (PureQ (some (.int (Int32.ofNat EE))) h0) := by
  refine OMeets.of pn_rm_edges #[.val (.ref lk), .val (.int (Int32.ofNat u)), .val (.int (Int32.ofNat v)), .unset] (fun m => by first | rfl | (simp [entryFrame, mkF, argsToLocals, Value.category, maxLocals]; done)) ?_
  intro p e s m below meth c s₁ B X0 e0
  obtain ⟨pa, ca, cn0, len0, ff0, cu, ap, ae, lp, le, gp, ge, F0, R1, R2⟩ := LA.view A0 hu
  obtain ⟨⟨a1, rfl, a3, a4, a5⟩, b1, c1, d1, -⟩ := id R1
  have hcl : cu ≤ lp := a3
  have hc6 : cu < 64 := by omega
  have hv6 : v < 64 := by omega
  have hg6 : ∀ k, k < cu → gp k < 64 := fun k hk => Nat.lt_of_lt_of_le (c1 k hk).1 (by decide)
  refine s_aloadN B X0 (pc' := 1) d12_0 rfl rfl rfl ?_
  refine s_iloadN B X0 (pc' := 2) d12_1 rfl rfl ?_
  refine s_iloadN B X0 (pc' := 3) d12_2 rfl rfl ?_
  refine p_private B X0 (y := mn0) (pc' := 6) (argsL := [(.int (Int32.ofNat u)), (.int (Int32.ofNat v))]) (under := []) (W := 0) e0 (tw35 hw) (tw2 hw) (tw37 hw) (tw36 hw) (tw38 hw) (tw3 hw) (by decide) (rm_index l Z a0 hw _ _ _ _ _ _ _ _ _ _ _ _ _ _ _ _ _ _ v h0 F0 hv6 hcl hc6 hg6) F0.exa (lenOf pd_0 rfl) rfl rfl (by decide) (by decide) rfl rfl (by decide) (by decide) rfl d12_3 rfl (fun T1 X1 e1 => ?_)
  show Go p e below _ (T1.setTop (mkF m 6 #[.val (.ref lk), .val (.int (Int32.ofNat u)), .val (.int (Int32.ofNat v)), .unset] [(.int (fI gp v cu 0))]))
  rcases R1.find hv with ⟨k, hk, hgk, hek, hD, hr⟩ | ⟨hD, hno, hr⟩
  · rw [hr]
    have hk6 : k < 64 := by omega
    have hke : k < lp := by omega
    show Go p e below _ (T1.setTop (mkF m 6 #[.val (.ref lk), .val (.int (Int32.ofNat u)), .val (.int (Int32.ofNat v)), .unset] [(.int (Int32.ofNat k))]))
    refine s_istoreN B X1 (pc' := 7) (Ls' := #[.val (.ref lk), .val (.int (Int32.ofNat u)), .val (.int (Int32.ofNat v)), .val (.int (Int32.ofNat k))]) d12_6 rfl rfl ?_
    refine s_iloadN B X1 (pc' := 8) d12_7 rfl rfl ?_
    refine b_if_ge B X1 (py := 15) (pn := 11) d12_8 (by decide) (by decide) rfl (fun _ => ?_) (fun q => absurd q (osm hk6).1)
    refine s_aloadN B X1 (pc' := 16) d12_15 rfl rfl rfl ?_
    refine s_getF B X1 (pc' := 19) e1 (host := "") (Or.inl (tw14 hw)) Via.refl F0.f2 d12_16 rfl (fun T2 X2 e2 => ?_)
    refine s_iloadN B X2 (pc' := 20) d12_19 rfl rfl ?_
    refine f_ldE B X2 (pc' := 21) e2 F0 d12_20 rfl ?_
    refine s_iloadN B X2 (pc' := 22) d12_21 rfl rfl ?_
    refine f_lde B X2 (pc' := 23) (j := k) e2 F0 hke hk6 d12_22 rfl ?_
    exact r_int B X2 rfl d12_23 ⟨congrArg (fun z => some (Value.int (Int32.ofNat z))) (hek.trans hE), rfl, e2⟩ (by decide) (by decide)
  · rw [hr]
    show Go p e below _ (T1.setTop (mkF m 6 #[.val (.ref lk), .val (.int (Int32.ofNat u)), .val (.int (Int32.ofNat v)), .unset] [(.int (-1 : Int32))]))
    refine s_istoreN B X1 (pc' := 7) (Ls' := #[.val (.ref lk), .val (.int (Int32.ofNat u)), .val (.int (Int32.ofNat v)), .val (.int (-1 : Int32))]) d12_6 rfl rfl ?_
    refine s_iloadN B X1 (pc' := 8) d12_7 rfl rfl ?_
    refine s_ifN B X1 (pc' := 11) d12_8 (by decide) rfl ?_
    refine s_iconst B X1 (pc' := 12) (v := (0 : Int32)) d12_11 rfl rfl ?_
    refine s_goto B X1 (pc' := 23) d12_12 (by decide) (by decide) ?_
    exact r_int B X1 rfl d12_23 ⟨congrArg (fun z => some (Value.int (Int32.ofNat z))) (hD.symm.trans hE), rfl, e1⟩ (by decide) (by decide)
theorem d13_0 : decode prog_8_method_2_code 0 = .ok (.aload_n 0, 1) := by decide +kernel
theorem d13_1 : decode prog_8_method_2_code 1 = .ok (.getfield 27, 3) := by decide +kernel
theorem d13_4 : decode prog_8_method_2_code 4 = .ok (.iload_n 1, 1) := by decide +kernel
theorem d13_5 : decode prog_8_method_2_code 5 = .ok (.iaload, 1) := by decide +kernel
theorem d13_6 : decode prog_8_method_2_code 6 = .ok (.ireturn, 1) := by decide +kernel
theorem pn_rm_count : plainFor mn9 = true := plainFor_of_name (show plainName "unitloom/engine/Links" = true by first | (simp [plainName, overriddenIn]; done) | decide +kernel)
set_option maxRecDepth 65536 in
set_option maxHeartbeats 40000000 in
theorem rm_count (l : Launch) (Z : State) (a0 : Array Value) (hw : ∀ d ∈ tables_1, d.before a0 Z = true) (lk ex : Addr) (nx : Nat) (gx : Nat → Nat) (nn : Nat) (bb : Nat → Nat) (CC : Nat → Nat → Nat) (u : Nat) (h0 : Heap) (A0 : LA Z h0 lk ex nx gx nn bb CC) (hu : u < nn) (EE : Nat) (hE : c8 (CC u) = EE) :
    OMeets l Z mn9 prog_8_method_2_code 2 (some .int) [] ({ frames := 0, cells := 0, slots := 0, locals := 0 } : Room) #[(.ref lk), (.int (Int32.ofNat u))] h0 (PureQ (some (.int (Int32.ofNat EE))) h0) := by
  refine OMeets.of pn_rm_count #[.val (.ref lk), .val (.int (Int32.ofNat u))] (fun m => by first | rfl | (simp [entryFrame, mkF, argsToLocals, Value.category, maxLocals]; done)) ?_
  intro p e s m below meth c s₁ B X0 e0
  obtain ⟨pa, ca, cn0, len0, ff0, cu, ap, ae, lp, le, gp, ge, F0, R1, R2⟩ := LA.view A0 hu
  obtain ⟨⟨a1, rfl, a3, a4, a5⟩, b1, c1, d1, -⟩ := id R1
  refine s_aloadN B X0 (pc' := 1) d13_0 rfl rfl rfl ?_
  refine s_getF B X0 (pc' := 4) e0 (host := "") (Or.inl (tw24 hw)) Via.refl F0.f3 d13_1 rfl (fun T1 X1 e1 => ?_)
  refine s_iloadN B X1 (pc' := 5) d13_4 rfl rfl ?_
  refine f_ldC B X1 (pc' := 6) e1 F0 d13_5 rfl ?_
  exact r_int B X1 rfl d13_6 ⟨congrArg (fun z => some (Value.int (Int32.ofNat z))) (a5.trans hE), rfl, e1⟩ (by decide) (by decide)
theorem d3_0 : decode jdk_65_method_117_code 0 = .ok (.iconst 0, 1) := by decide +kernel
theorem d3_1 : decode jdk_65_method_117_code 1 = .ok (.istore_n 2, 1) := by decide +kernel
theorem d3_2 : decode jdk_65_method_117_code 2 = .ok (.aload_n 0, 1) := by decide +kernel
theorem d3_3 : decode jdk_65_method_117_code 3 = .ok (.arraylength, 1) := by decide +kernel
theorem d3_4 : decode jdk_65_method_117_code 4 = .ok (.istore_n 3, 1) := by decide +kernel
theorem d3_5 : decode jdk_65_method_117_code 5 = .ok (.iload_n 2, 1) := by decide +kernel
theorem d3_6 : decode jdk_65_method_117_code 6 = .ok (.iload_n 3, 1) := by decide +kernel
theorem d3_7 : decode jdk_65_method_117_code 7 = .ok (.if_icmp .ge 13, 3) := by decide +kernel
theorem d3_10 : decode jdk_65_method_117_code 10 = .ok (.aload_n 0, 1) := by decide +kernel
theorem d3_11 : decode jdk_65_method_117_code 11 = .ok (.iload_n 2, 1) := by decide +kernel
theorem d3_12 : decode jdk_65_method_117_code 12 = .ok (.aload_n 1, 1) := by decide +kernel
theorem d3_13 : decode jdk_65_method_117_code 13 = .ok (.aastore, 1) := by decide +kernel
theorem d3_14 : decode jdk_65_method_117_code 14 = .ok (.iinc 2 1, 3) := by decide +kernel
theorem d3_17 : decode jdk_65_method_117_code 17 = .ok (.goto (-12), 3) := by decide +kernel
theorem d3_20 : decode jdk_65_method_117_code 20 = .ok (.return_, 1) := by decide +kernel
theorem pn_rm_fill : plainFor mn10 = true := by first | exact plainFor_of_name (show plainName "java/util/Arrays" = true by first | (simp [plainName, overriddenIn]; done) | decide +kernel) | decide +kernel
set_option maxRecDepth 65536 in
set_option maxHeartbeats 40000000 in
theorem rm_fill (l : Launch) (Z : State) (a0 : Array Value) (hw : ∀ d ∈ tables_1, d.before a0 Z = true) (a w : Addr) (kA : ClassId) (N : Nat) (f : Nat → Value) (h0 : Heap) (A0 : Ary Z h0 a kA (.array .int) N f) (V : OvrA Z kA .int "[I") (Ew : Exa Z h0 w "[I") (ge : Z.heap.size ≤ a) (hN6 : N < 64) :
    OMeets l Z mn10 jdk_65_method_117_code 4 none [] ({ frames := 0, cells := 0, slots := 0, locals := 0 } : Room) #[(.ref a), (.ref w)] h0 (fun v h L => v = none ∧ Fr Z.heap.size L ∧ Keep h0 h [a] ∧ Ary Z h a kA (.array .int) N (fun _ => .ref w)) := by
  refine OMeets.of pn_rm_fill #[.val (.ref a), .val (.ref w), .unset, .unset] (fun m => by first | rfl | (simp [entryFrame, mkF, argsToLocals, Value.category, maxLocals]; done)) ?_
  intro p e s m below meth c s₁ B X0 e0
  refine s_iconst B X0 (pc' := 1) (v := (0 : Int32)) d3_0 rfl rfl ?_
  refine s_istoreN B X0 (pc' := 2) (Ls' := #[.val (.ref a), .val (.ref w), .val (.int (0 : Int32)), .unset]) d3_1 rfl rfl ?_
  refine s_aloadN B X0 (pc' := 3) d3_2 rfl rfl rfl ?_
  refine s_len B X0 (pc' := 4) (v := (Int32.ofNat N)) e0 A0 rfl d3_3 rfl ?_
  refine s_istoreN B X0 (pc' := 5) (Ls' := #[.val (.ref a), .val (.ref w), .val (.int (0 : Int32)), .val (.int (Int32.ofNat N))]) d3_4 rfl rfl ?_
  have loop : ∀ (k i : Nat), i + k = N → ∀ T h L, Stand p l e ({ frames := 0, cells := 0, slots := 0, locals := 0 } : Room) s m #[(.ref a), (.ref w)] below meth c T L 0 0 → T.heap = h → Fr Z.heap.size L → Keep h0 h [a] → Ary Z h a kA (.array .int) N (fun j => if j < i then .ref w else f j) → Go p e below (OEnds s (fun v h L => v = none ∧ Fr Z.heap.size L ∧ Keep h0 h [a] ∧ Ary Z h a kA (.array .int) N (fun _ => .ref w)) ({ frames := 0, cells := 0, slots := 0, locals := 0 } : Room).cells ({ frames := 0, cells := 0, slots := 0, locals := 0 } : Room).slots) (T.setTop (mkF m 5 #[.val (.ref a), .val (.ref w), .val (.int (Int32.ofNat i)), .val (.int (Int32.ofNat N))] [])) := by
    intro k
    induction k with
    | zero =>
      intro i hi T h L X eh NN K A
      have hic : i = N := by omega
      refine s_iloadN B X (pc' := 6) d3_5 rfl rfl ?_
      refine s_iloadN B X (pc' := 7) d3_6 rfl rfl ?_
      refine b_icmp_ge B X (py := 20) (pn := 10) d3_7 (by decide) (by decide) rfl (fun _ => ?_) (fun q => absurd q (fun z => by have := (sm_lt (x := i) (by omega) hN6).mp z; omega))
      exact r_void B X rfl d3_20 (by rw [eh]; exact ⟨rfl, NN, K, A.congr fun j hj => if_pos (by omega)⟩) (by decide) (by decide)
    | succ k ih =>
      intro i hi T h L X eh NN K A
      have hi6 : i < 64 := by omega
      have hiN : i < N := by omega
      refine s_iloadN B X (pc' := 6) d3_5 rfl rfl ?_
      refine s_iloadN B X (pc' := 7) d3_6 rfl rfl ?_
      refine b_icmp_ge B X (py := 20) (pn := 10) d3_7 (by decide) (by decide) rfl (fun q => absurd ((sm_lt hi6 hN6).mpr hiN) q) (fun _ => ?_)
      refine s_aloadN B X (pc' := 11) d3_10 rfl rfl rfl ?_
      refine s_iloadN B X (pc' := 12) d3_11 rfl rfl ?_
      refine s_aloadN B X (pc' := 13) d3_12 rfl rfl rfl ?_
      refine s_stR B X (pc' := 14) (jn := i) eh A rfl (Ary.stoA A V (Ins.self (Ew.keep K))) (osm hi6).1 (osm hi6).2 hiN d3_13 rfl (fun T2 h2 X2 e2 W2 A2 => ?_)
      show Go p e below _ (T2.setTop (mkF m 14 #[.val (.ref a), .val (.ref w), .val (.int (Int32.ofNat i)), .val (.int (Int32.ofNat N))] []))
      refine s_iinc B X2 (pc' := 17) (v := (Int32.ofNat (i + 1))) (Ls' := #[.val (.ref a), .val (.ref w), .val (.int (Int32.ofNat (i + 1))), .val (.int (Int32.ofNat N))]) d3_14 rfl (sm_inc hi6) rfl rfl ?_
      refine s_goto B X2 (pc' := 5) d3_17 (by decide) (by decide) ?_
      exact ih (i + 1) (by omega) _ _ _ X2 e2 (Fr.snoc X2 NN ge) (K.wr W2 (Or.inl (List.mem_of_getElem? (i := 0) rfl))) (A2.congr fun j _ => fill_upd j)
  exact loop N 0 (Nat.zero_add _) _ _ _ X0 e0 (Fr.nil _) (Keep.refl _ _) (A0.congr fun i _ => (if_neg (Nat.not_lt_zero i)).symm)
theorem d1_0 : decode prog_8_method_1_code 0 = .ok (.aload_n 0, 1) := by decide +kernel
theorem d1_1 : decode prog_8_method_1_code 1 = .ok (.invokespecial 1, 3) := by decide +kernel
theorem d1_4 : decode prog_8_method_1_code 4 = .ok (.aload_n 0, 1) := by decide +kernel
theorem d1_5 : decode prog_8_method_1_code 5 = .ok (.iload_n 1, 1) := by decide +kernel
theorem d1_6 : decode prog_8_method_1_code 6 = .ok (.anewarray 7, 3) := by decide +kernel
theorem d1_9 : decode prog_8_method_1_code 9 = .ok (.putfield 9, 3) := by decide +kernel
theorem d1_12 : decode prog_8_method_1_code 12 = .ok (.aload_n 0, 1) := by decide +kernel
theorem d1_13 : decode prog_8_method_1_code 13 = .ok (.iload_n 1, 1) := by decide +kernel
theorem d1_14 : decode prog_8_method_1_code 14 = .ok (.anewarray 7, 3) := by decide +kernel
theorem d1_17 : decode prog_8_method_1_code 17 = .ok (.putfield 15, 3) := by decide +kernel
theorem d1_20 : decode prog_8_method_1_code 20 = .ok (.aload_n 0, 1) := by decide +kernel
theorem d1_21 : decode prog_8_method_1_code 21 = .ok (.getfield 9, 3) := by decide +kernel
theorem d1_24 : decode prog_8_method_1_code 24 = .ok (.getstatic 18, 3) := by decide +kernel
theorem d1_27 : decode prog_8_method_1_code 27 = .ok (.invokestatic 21, 3) := by decide +kernel
theorem d1_30 : decode prog_8_method_1_code 30 = .ok (.aload_n 0, 1) := by decide +kernel
theorem d1_31 : decode prog_8_method_1_code 31 = .ok (.getfield 15, 3) := by decide +kernel
theorem d1_34 : decode prog_8_method_1_code 34 = .ok (.getstatic 18, 3) := by decide +kernel
theorem d1_37 : decode prog_8_method_1_code 37 = .ok (.invokestatic 21, 3) := by decide +kernel
theorem d1_40 : decode prog_8_method_1_code 40 = .ok (.aload_n 0, 1) := by decide +kernel
theorem d1_41 : decode prog_8_method_1_code 41 = .ok (.iload_n 1, 1) := by decide +kernel
theorem d1_42 : decode prog_8_method_1_code 42 = .ok (.newarray .int, 2) := by decide +kernel
theorem d1_44 : decode prog_8_method_1_code 44 = .ok (.putfield 27, 3) := by decide +kernel
theorem d1_47 : decode prog_8_method_1_code 47 = .ok (.return_, 1) := by decide +kernel
theorem pn_rm_init : plainFor mn11 = true := plainFor_of_name (show plainName "unitloom/engine/Links" = true by first | (simp [plainName, overriddenIn]; done) | decide +kernel)
set_option maxRecDepth 65536 in
set_option maxHeartbeats 40000000 in
theorem rm_init (l : Launch) (Z : State) (a0 : Array Value) (hw : ∀ d ∈ tables_1, d.before a0 Z = true) (lk : Addr) (w_NO_UNITS : Addr) (h0 : Heap) (FZ : OwnF Z Z.heap w_NO_UNITS) (I0 : IN Z Z.heap w_NO_UNITS 0 (fun _ => 0)) (O0 : Old Z Z.heap.size h0) (ge_lk : Z.heap.size ≤ lk) (E0 : Exa Z h0 lk "unitloom/engine/Links") (D1 : Fld Z h0 lk "unitloom/engine/Links" "partners" "[[I" .null) (D2 : Fld Z h0 lk "unitloom/engine/Links" "edges" "[[I" .null) (D3 : Fld Z h0 lk "unitloom/engine/Links" "partnerCount" "[I" .null) :
    OMeets l Z mn11 prog_8_method_1_code 2 none [] ({ frames := 1, cells := 3, slots := 12, locals := 15 } : Room) #[(.ref lk), (.int (4 : Int32))] h0 (fun v h L => v = none ∧ Fr Z.heap.size L ∧ LA Z h lk w_NO_UNITS 0 (fun _ => 0) 4 (fun _ => 0) (fun _ _ => 0)) := by
  refine OMeets.of pn_rm_init #[.val (.ref lk), .val (.int (4 : Int32))] (fun m => by first | rfl | (simp [entryFrame, mkF, argsToLocals, Value.category, maxLocals]; done)) ?_
  intro p e s m below meth c s₁ B X0 e0
  have F0 := OwnF.ext O0.2 FZ
  obtain ⟨S_NO_UNITS, E_NO_UNITS⟩ := id F0
  refine s_aloadN B X0 (pc' := 1) d1_0 rfl rfl rfl ?_
  refine s_initO B X0 (pc' := 4) (W := 0) e0 (tw7 hw) (tw8 hw) (tw9 hw) rfl (by decide) (by decide) rfl d1_1 rfl (fun T1 X1 e1 => ?_)
  refine s_aloadN B X1 (pc' := 5) d1_4 rfl rfl rfl ?_
  refine s_iloadN B X1 (pc' := 6) d1_5 rfl rfl ?_
  refine s_newRA B X1 (pc' := 9) (N := 4) (cap := 4) (ty := .int) (C := "[I") e1 rfl (tw10 hw) (tw11 hw) (by decide) (by decide) (by decide) (by decide) (by decide) (by decide) d1_6 rfl (fun T2 h2 o2 k2 g2 X2 e2 E2 A2 V2 => ?_)
  have ne_lk_o2 : lk ≠ o2 := Nat.ne_of_lt (g2 ▸ E0.lt)
  have ge_o2 : Z.heap.size ≤ o2 := g2 ▸ old_le O0
  have O2 := (O0).ext E2
  have F2 := OwnF.ext O2.2 FZ
  show Go p e below _ (T2.setTop (mkF m 9 #[.val (.ref lk), .val (.int (4 : Int32))] [(.ref o2), (.ref lk)]))
  have f4 := (D1.ext E2)
  have f5 := (E0.ext E2)
  refine s_putF B X2 (pc' := 12) (ty := (.array (.array .int))) e2 (host := "") (Or.inl (tw12 hw)) Via.refl f4 f5 (Or.inr ⟨(tw13 hw), rfl, rfl⟩) (tw2 hw) (by decide) rfl rfl d1_9 rfl (fun T3 h3 X3 e3 W3 => ?_)
  have G3 := f4.same W3
  have N3 := Fr.snoc X3 (Fr.nil _) ge_lk
  have O3 := (O2).wr W3 ge_lk
  have F3 := OwnF.ext O3.2 FZ
  show Go p e below _ (T3.setTop (mkF m 12 #[.val (.ref lk), .val (.int (4 : Int32))] []))
  refine s_aloadN B X3 (pc' := 13) d1_12 rfl rfl rfl ?_
  refine s_iloadN B X3 (pc' := 14) d1_13 rfl rfl ?_
  refine s_newRA B X3 (pc' := 17) (N := 4) (cap := 4) (ty := .int) (C := "[I") e3 rfl (tw10 hw) (tw11 hw) (by decide) (by decide) (by decide) (by decide) (by decide) (by decide) d1_14 rfl (fun T6 h6 o6 k6 g6 X6 e6 E6 A6 V6 => ?_)
  have f7 := (f5.wr W3)
  have ne_lk_o6 : lk ≠ o6 := Nat.ne_of_lt (g6 ▸ f7.lt)
  have f8 := (Ary.other W3 A2 (Ne.symm ne_lk_o2))
  have ne_o2_o6 : o2 ≠ o6 := Nat.ne_of_lt (g6 ▸ f8.lt)
  have ge_o6 : Z.heap.size ≤ o6 := g6 ▸ old_le O3
  have O6 := (O3).ext E6
  have F6 := OwnF.ext O6.2 FZ
  show Go p e below _ (T6.setTop (mkF m 17 #[.val (.ref lk), .val (.int (4 : Int32))] [(.ref o6), (.ref lk)]))
  have f10 := (((D2.ext E2).other W3 (Or.inr (slot_ne (Or.inr (tw15 hw)) (Or.inr (tw13 hw)) (by decide) (t := (.array (.array .int))) (t' := (.array (.array .int))) (by decide) (by decide)))).ext E6)
  have f11 := (f7.ext E6)
  refine s_putF B X6 (pc' := 20) (ty := (.array (.array .int))) e6 (host := "") (Or.inl (tw14 hw)) Via.refl f10 f11 (Or.inr ⟨(tw15 hw), rfl, rfl⟩) (tw2 hw) (by decide) rfl rfl d1_17 rfl (fun T9 h9 X9 e9 W9 => ?_)
  have G9 := f10.same W9
  have N9 := Fr.snoc X9 N3 ge_lk
  have O9 := (O6).wr W9 ge_lk
  have F9 := OwnF.ext O9.2 FZ
  show Go p e below _ (T9.setTop (mkF m 20 #[.val (.ref lk), .val (.int (4 : Int32))] []))
  refine s_aloadN B X9 (pc' := 21) d1_20 rfl rfl rfl ?_
  have f12 := ((G3.ext E6).other W9 (Or.inr (slot_ne (Or.inr (tw13 hw)) (Or.inr (tw15 hw)) (by decide) (t := (.array (.array .int))) (t' := (.array (.array .int))) (by decide) (by decide))))
  refine s_getF B X9 (pc' := 24) e9 (host := "") (Or.inl (tw12 hw)) Via.refl f12 d1_21 rfl (fun T13 X13 e13 => ?_)
  obtain ⟨S_NO_UNITS, E_NO_UNITS⟩ := id F9
  refine s_getS B X13 (pc' := 27) e13 (tw16 hw) Via.refl S_NO_UNITS d1_24 rfl (fun T14 X14 e14 => ?_)
  have f15 := (Ary.other W9 (f8.ext E6) (Ne.symm ne_lk_o2))
  refine c_static B X14 (y := mn10) (pc' := 30) (argsL := [(.ref o2), (.ref w_NO_UNITS)]) (under := []) (W := 0) e14 (tw18 hw) (tw19 hw) (tw21 hw) (tw20 hw) (by decide) (rm_fill l Z a0 hw o2 w_NO_UNITS _ _ _ h9 f15 V2 E_NO_UNITS ge_o2 (by decide)) (lenOf pd_3 rfl) rfl rfl (by decide) (by decide) (by decide) (by decide) rfl d1_27 rfl (fun v16 T16 L16 X16 hQ16 => ?_)
  obtain ⟨rfl, Nq16, Kq16, Aq16⟩ := hQ16
  obtain ⟨h16, e16⟩ : ∃ z, T16.heap = z := ⟨_, rfl⟩
  rw [e16] at Kq16 Aq16
  have N16 := Fr.app N9 Nq16
  have O16 := (O9).keep Kq16 (allS ge_o2 all0)
  have F16 := OwnF.ext O16.2 FZ
  show Go p e below _ (T16.setTop (mkF m 30 #[.val (.ref lk), .val (.int (4 : Int32))] []))
  refine s_aloadN B X16 (pc' := 31) d1_30 rfl rfl rfl ?_
  have f17 := (G9.keep Kq16 (ninS ne_lk_o2 nin0))
  refine s_getF B X16 (pc' := 34) e16 (host := "") (Or.inl (tw14 hw)) Via.refl f17 d1_31 rfl (fun T18 X18 e18 => ?_)
  obtain ⟨S_NO_UNITS, E_NO_UNITS⟩ := id F16
  refine s_getS B X18 (pc' := 37) e18 (tw16 hw) Via.refl S_NO_UNITS d1_34 rfl (fun T19 X19 e19 => ?_)
  have f20 := ((Ary.other W9 A6 (Ne.symm ne_lk_o6)).keep Kq16 (ninS (Ne.symm ne_o2_o6) nin0))
  refine c_static B X19 (y := mn10) (pc' := 40) (argsL := [(.ref o6), (.ref w_NO_UNITS)]) (under := []) (W := 0) e19 (tw18 hw) (tw19 hw) (tw21 hw) (tw20 hw) (by decide) (rm_fill l Z a0 hw o6 w_NO_UNITS _ _ _ h16 f20 V6 E_NO_UNITS ge_o6 (by decide)) (lenOf pd_3 rfl) rfl rfl (by decide) (by decide) (by decide) (by decide) rfl d1_37 rfl (fun v21 T21 L21 X21 hQ21 => ?_)
  obtain ⟨rfl, Nq21, Kq21, Aq21⟩ := hQ21
  obtain ⟨h21, e21⟩ : ∃ z, T21.heap = z := ⟨_, rfl⟩
  rw [e21] at Kq21 Aq21
  have N21 := Fr.app N16 Nq21
  have O21 := (O16).keep Kq21 (allS ge_o6 all0)
  have F21 := OwnF.ext O21.2 FZ
  show Go p e below _ (T21.setTop (mkF m 40 #[.val (.ref lk), .val (.int (4 : Int32))] []))
  refine s_aloadN B X21 (pc' := 41) d1_40 rfl rfl rfl ?_
  refine s_iloadN B X21 (pc' := 42) d1_41 rfl rfl ?_
  refine s_newP B X21 (pc' := 44) (aty := .int) (N := 4) (cap := 4) e21 (tw23 hw) (by decide) (by decide) (by decide) (by decide) (by decide) (by decide) d1_42 rfl (fun T22 h22 o22 k22 g22 X22 e22 E22 A22 => ?_)
  have f23 := (((f11.wr W9).keep Kq16).keep Kq21)
  have ne_lk_o22 : lk ≠ o22 := Nat.ne_of_lt (g22 ▸ f23.lt)
  have f24 := (Aq16.keep Kq21 (ninS ne_o2_o6 nin0))
  have ne_o2_o22 : o2 ≠ o22 := Nat.ne_of_lt (g22 ▸ f24.lt)
  have ne_o6_o22 : o6 ≠ o22 := Nat.ne_of_lt (g22 ▸ Aq21.lt)
  have ge_o22 : Z.heap.size ≤ o22 := g22 ▸ old_le O21
  replace A22 : Ary Z h22 o22 k22 .int 4 (lst [(.int (0 : Int32)), (.int (0 : Int32)), (.int (0 : Int32)), (.int (0 : Int32))] (.int (0 : Int32))) := A22.congr (own_rep 4)
  have O22 := (O21).ext E22
  have F22 := OwnF.ext O22.2 FZ
  show Go p e below _ (T22.setTop (mkF m 44 #[.val (.ref lk), .val (.int (4 : Int32))] [(.ref o22), (.ref lk)]))
  have f26 := (((((((D3.ext E2).other W3 (Or.inr (slot_ne (Or.inr (tw25 hw)) (Or.inr (tw13 hw)) (by decide) (t := (.array .int)) (t' := (.array (.array .int))) (by decide) (by decide)))).ext E6).other W9 (Or.inr (slot_ne (Or.inr (tw25 hw)) (Or.inr (tw15 hw)) (by decide) (t := (.array .int)) (t' := (.array (.array .int))) (by decide) (by decide)))).keep Kq16 (ninS ne_lk_o2 nin0)).keep Kq21 (ninS ne_lk_o6 nin0)).ext E22)
  have f27 := (f23.ext E22)
  refine s_putF B X22 (pc' := 47) (ty := (.array .int)) e22 (host := "") (Or.inl (tw24 hw)) Via.refl f26 f27 (Or.inr ⟨(tw25 hw), rfl, rfl⟩) (tw2 hw) (by decide) rfl rfl d1_44 rfl (fun T25 h25 X25 e25 W25 => ?_)
  have G25 := f26.same W25
  have N25 := Fr.snoc X25 N21 ge_lk
  have O25 := (O22).wr W25 ge_lk
  have F25 := OwnF.ext O25.2 FZ
  show Go p e below _ (T25.setTop (mkF m 47 #[.val (.ref lk), .val (.int (4 : Int32))] []))
  have f28 := (f27.wr W25)
  have f29 := ((((f12.keep Kq16 (ninS ne_lk_o2 nin0)).keep Kq21 (ninS ne_lk_o6 nin0)).ext E22).other W25 (Or.inr (slot_ne (Or.inr (tw13 hw)) (Or.inr (tw25 hw)) (by decide) (t := (.array (.array .int))) (t' := (.array .int)) (by decide) (by decide))))
  have f30 := (((f17.keep Kq21 (ninS ne_lk_o6 nin0)).ext E22).other W25 (Or.inr (slot_ne (Or.inr (tw15 hw)) (Or.inr (tw25 hw)) (by decide) (t := (.array (.array .int))) (t' := (.array .int)) (by decide) (by decide))))
  have f31 := (Ary.other W25 (f24.ext E22) (Ne.symm ne_lk_o2))
  have f32 := (Ary.other W25 (Aq21.ext E22) (Ne.symm ne_lk_o6))
  have f33 := (Ary.other W25 A22 (Ne.symm ne_lk_o22))
  exact r_void B X25 rfl d1_47 (by rw [e25]; exact ⟨rfl, N25, LA.start f28 f29 f30 G25 f31 V2 f32 V6 (f33.congr fun i hi => (own_rep 4 i hi).symm) (I0.keep ((Keep.refl _ []).ext O25.2) nin0) I0.lt ge_lk ge_o2 ge_o6 ge_o22 ne_lk_o2 ne_lk_o6 ne_lk_o22 ne_o2_o6 ne_o2_o22 ne_o6_o22 (by decide)⟩) (by decide) (by decide)
theorem own_a4 (x : Int32) : ∃ a : Fin 4, x &&& 3 = Int32.ofNat a.1 := by
  rcases own_and3 x with h | h | h | h
  · exact ⟨0, h⟩
  · exact ⟨1, h⟩
  · exact ⟨2, h⟩
  · exact ⟨3, h⟩
theorem own_a3 (x : Int32) : ∃ a : Fin 3, (x &&& 2147483647) % 3 = Int32.ofNat a.1 := by
  rcases own_rem3 x with h | h | h
  · exact ⟨0, h⟩
  · exact ⟨1, h⟩
  · exact ⟨2, h⟩
theorem own_m3 (x : Int32) : ∃ a : Nat, (((x.toUInt32 >>> ((7 : Int32) &&& 31).toUInt32).toInt32) % (3 : Int32)) + (1 : Int32) = Int32.ofNat a ∧ (a = 1 ∨ a = 2 ∨ a = 3) := by
  have e := c_iushr x 7 7 (by decide) (by decide)
  have e2 := (c_irem ((x.toUInt32 >>> ((7 : Int32) &&& 31).toUInt32).toInt32) 3 3 (by decide)).1 (by rw [e]; omega)
  rcases own_rng3 (v := ((x.toUInt32 >>> ((7 : Int32) &&& 31).toUInt32).toInt32) % (3 : Int32)) (by rw [e2]; omega) (by rw [e2]; omega) with h | h | h
  · exact ⟨1, by rw [h]; rfl, Or.inl rfl⟩
  · exact ⟨2, by rw [h]; rfl, Or.inr (Or.inl rfl)⟩
  · exact ⟨3, by rw [h]; rfl, Or.inr (Or.inr rfl)⟩
theorem own_f4 : ∀ a : Fin 4, ∀ k : Fin 3, ∃ v w1 w2 : Fin 4, (((Int32.ofNat a.1 + (1 : Int32)) + Int32.ofNat k.1) &&& (3 : Int32)) = Int32.ofNat v.1 ∧ (((Int32.ofNat a.1 + (1 : Int32)) + ((Int32.ofNat k.1 + (1 : Int32)) % (3 : Int32))) &&& (3 : Int32)) = Int32.ofNat w1.1 ∧ (((Int32.ofNat a.1 + (1 : Int32)) + ((Int32.ofNat k.1 + (2 : Int32)) % (3 : Int32))) &&& (3 : Int32)) = Int32.ofNat w2.1 ∧ a.1 ≠ v.1 ∧ w1.1 ≠ a.1 ∧ w1.1 ≠ v.1 ∧ w2.1 ≠ a.1 ∧ w2.1 ≠ v.1 := by decide +kernel
theorem own_four (x y : Int32) : ∃ u k v w1 w2 : Nat, x &&& 3 = Int32.ofNat u ∧ (y &&& 2147483647) % 3 = Int32.ofNat k ∧ (((Int32.ofNat u + (1 : Int32)) + Int32.ofNat k) &&& (3 : Int32)) = Int32.ofNat v ∧ (((Int32.ofNat u + (1 : Int32)) + ((Int32.ofNat k + (1 : Int32)) % (3 : Int32))) &&& (3 : Int32)) = Int32.ofNat w1 ∧ (((Int32.ofNat u + (1 : Int32)) + ((Int32.ofNat k + (2 : Int32)) % (3 : Int32))) &&& (3 : Int32)) = Int32.ofNat w2 ∧ (u < 4 ∧ v < 4 ∧ w1 < 4 ∧ w2 < 4) ∧ u ≠ v ∧ w1 ≠ u ∧ w1 ≠ v ∧ w2 ≠ u ∧ w2 ≠ v := by
  obtain ⟨a, ha⟩ := own_a4 x
  obtain ⟨b, hb⟩ := own_a3 y
  obtain ⟨v, w1, w2, h1, h2, h3, h4⟩ := own_f4 a b
  exact ⟨a.1, b.1, v.1, w1.1, w2.1, ha, hb, h1, h2, h3, ⟨a.2, v.2, w1.2, w2.2⟩, h4⟩
def Hid (p : Prop) : Prop := p

theorem pn_rm_law : plainFor x = true := plainFor_of_name (show plainName "unitloom/engine/LinksRemoveEdgePinLaw" = true by first | (simp [plainName, overriddenIn]; done) | decide +kernel)
theorem rep19 : Array.replicate 19 Slot.unset = #[.unset, .unset, .unset, .unset, .unset, .unset, .unset, .unset, .unset, .unset, .unset, .unset, .unset, .unset, .unset, .unset, .unset, .unset, .unset] := by
  apply Array.ext'
  rw [Array.toList_replicate]
  rfl
theorem ent22 (m : MethodId) (i0 i1 i2 : Int32) : entryFrame m #[.int i0, .int i1, .int i2] 22 = mkF m 0 #[.val (.int i0), .val (.int i1), .val (.int i2), .unset, .unset, .unset, .unset, .unset, .unset, .unset, .unset, .unset, .unset, .unset, .unset, .unset, .unset, .unset, .unset, .unset, .unset, .unset] [] := by
  have h : argsToLocals #[.int i0, .int i1, .int i2] 22 = #[.val (.int i0), .val (.int i1), .val (.int i2)] ++ Array.replicate 19 Slot.unset := rfl
  have h2 : (#[.val (.int i0), .val (.int i1), .val (.int i2)] : Array Slot) ++ Array.replicate 19 Slot.unset = #[.val (.int i0), .val (.int i1), .val (.int i2), .unset, .unset, .unset, .unset, .unset, .unset, .unset, .unset, .unset, .unset, .unset, .unset, .unset, .unset, .unset, .unset, .unset, .unset, .unset] := by
    rw [rep19, List.append_toArray]
    simp only [List.cons_append, List.nil_append]
  have h0 : entryFrame m #[.int i0, .int i1, .int i2] 22 = mkF m 0 (argsToLocals #[.int i0, .int i1, .int i2] 22) [] := rfl
  rw [h0, h, h2]
set_option maxRecDepth 65536 in
set_option maxHeartbeats 40000000 in
theorem rm_law (l : Launch) (Z : State) (a0 : Array Value) (hw : ∀ d ∈ tables_1, d.before a0 Z = true) (i0 i1 i2 : Int32) (w_NO_UNITS : Addr) (FZ : OwnF Z Z.heap w_NO_UNITS) (I0 : IN Z Z.heap w_NO_UNITS 0 (fun _ => 0)) :
    OMeets l Z x code maxLocals ret tables_1 room_1 #[(.int i0), (.int i1), (.int i2)] Z.heap (fun v h L => v = some (.int 1) ∧ Fr Z.heap.size L) := by
  refine OMeets.of pn_rm_law #[.val (.int i0), .val (.int i1), .val (.int i2), .unset, .unset, .unset, .unset, .unset, .unset, .unset, .unset, .unset, .unset, .unset, .unset, .unset, .unset, .unset, .unset, .unset, .unset, .unset] (fun m => ent22 m i0 i1 i2) ?_
  intro p e s m below meth c s₁ B X0 e0
  have F0 := FZ
  obtain ⟨S_NO_UNITS, E_NO_UNITS⟩ := id F0
  obtain ⟨u, kq, v, w1, w2, hx0, hx1, hx2, hx3, hx4, ⟨hu4, hv4, hw1, hw2⟩, huv, w1u, w1v, w2u, w2v⟩ := own_four i0 i1
  obtain ⟨mm, hmm, hm3⟩ := own_m3 i2
  replace hm3 : 1 ≤ mm ∧ mm ≤ 3 := by omega
  refine s_iloadN B X0 (pc' := 1) at_0 rfl rfl ?_
  refine s_iconst B X0 (pc' := 2) (v := (3 : Int32)) at_1 rfl rfl ?_
  refine s_iand B X0 (pc' := 3) (v := (Int32.ofNat u)) at_2 (hx0) rfl ?_
  refine s_istoreN B X0 (pc' := 4) (Ls' := #[.val (.int i0), .val (.int i1), .val (.int i2), .val (.int (Int32.ofNat u)), .unset, .unset, .unset, .unset, .unset, .unset, .unset, .unset, .unset, .unset, .unset, .unset, .unset, .unset, .unset, .unset, .unset, .unset]) at_3 rfl rfl ?_
  refine s_iloadN B X0 (pc' := 5) at_4 rfl rfl ?_
  refine s_ldc B X0 (pc' := 7) (v := (2147483647 : Int32)) (tw0 hw) at_5 rfl ?_
  refine s_iand B X0 (pc' := 8) (v := (i1 &&& (2147483647 : Int32))) at_7 rfl rfl ?_
  refine s_iconst B X0 (pc' := 9) (v := (3 : Int32)) at_8 rfl rfl ?_
  refine s_irem B X0 (pc' := 10) (v := (Int32.ofNat kq)) at_9 (hx1) (by decide) rfl ?_
  refine s_istore B X0 (pc' := 12) (Ls' := #[.val (.int i0), .val (.int i1), .val (.int i2), .val (.int (Int32.ofNat u)), .val (.int (Int32.ofNat kq)), .unset, .unset, .unset, .unset, .unset, .unset, .unset, .unset, .unset, .unset, .unset, .unset, .unset, .unset, .unset, .unset, .unset]) at_10 rfl rfl ?_
  refine s_iloadN B X0 (pc' := 13) at_12 rfl rfl ?_
  refine s_iconst B X0 (pc' := 14) (v := (1 : Int32)) at_13 rfl rfl ?_
  refine s_iadd B X0 (pc' := 15) (v := ((Int32.ofNat u) + (1 : Int32))) at_14 rfl rfl ?_
  refine s_iload B X0 (pc' := 17) at_15 rfl rfl ?_
  refine s_iadd B X0 (pc' := 18) (v := (((Int32.ofNat u) + (1 : Int32)) + (Int32.ofNat kq))) at_17 rfl rfl ?_
  refine s_iconst B X0 (pc' := 19) (v := (3 : Int32)) at_18 rfl rfl ?_
  refine s_iand B X0 (pc' := 20) (v := (Int32.ofNat v)) at_19 (hx2) rfl ?_
  refine s_istore B X0 (pc' := 22) (Ls' := #[.val (.int i0), .val (.int i1), .val (.int i2), .val (.int (Int32.ofNat u)), .val (.int (Int32.ofNat kq)), .val (.int (Int32.ofNat v)), .unset, .unset, .unset, .unset, .unset, .unset, .unset, .unset, .unset, .unset, .unset, .unset, .unset, .unset, .unset, .unset]) at_20 rfl rfl ?_
  refine s_iloadN B X0 (pc' := 23) at_22 rfl rfl ?_
  refine s_iconst B X0 (pc' := 24) (v := (1 : Int32)) at_23 rfl rfl ?_
  refine s_iadd B X0 (pc' := 25) (v := ((Int32.ofNat u) + (1 : Int32))) at_24 rfl rfl ?_
  refine s_iload B X0 (pc' := 27) at_25 rfl rfl ?_
  refine s_iconst B X0 (pc' := 28) (v := (1 : Int32)) at_27 rfl rfl ?_
  refine s_iadd B X0 (pc' := 29) (v := ((Int32.ofNat kq) + (1 : Int32))) at_28 rfl rfl ?_
  refine s_iconst B X0 (pc' := 30) (v := (3 : Int32)) at_29 rfl rfl ?_
  refine s_irem B X0 (pc' := 31) (v := (((Int32.ofNat kq) + (1 : Int32)) % (3 : Int32))) at_30 rfl (by decide) rfl ?_
  refine s_iadd B X0 (pc' := 32) (v := (((Int32.ofNat u) + (1 : Int32)) + (((Int32.ofNat kq) + (1 : Int32)) % (3 : Int32)))) at_31 rfl rfl ?_
  refine s_iconst B X0 (pc' := 33) (v := (3 : Int32)) at_32 rfl rfl ?_
  refine s_iand B X0 (pc' := 34) (v := (Int32.ofNat w1)) at_33 (hx3) rfl ?_
  refine s_istore B X0 (pc' := 36) (Ls' := #[.val (.int i0), .val (.int i1), .val (.int i2), .val (.int (Int32.ofNat u)), .val (.int (Int32.ofNat kq)), .val (.int (Int32.ofNat v)), .val (.int (Int32.ofNat w1)), .unset, .unset, .unset, .unset, .unset, .unset, .unset, .unset, .unset, .unset, .unset, .unset, .unset, .unset, .unset]) at_34 rfl rfl ?_
  refine s_iloadN B X0 (pc' := 37) at_36 rfl rfl ?_
  refine s_iconst B X0 (pc' := 38) (v := (1 : Int32)) at_37 rfl rfl ?_
  refine s_iadd B X0 (pc' := 39) (v := ((Int32.ofNat u) + (1 : Int32))) at_38 rfl rfl ?_
  refine s_iload B X0 (pc' := 41) at_39 rfl rfl ?_
  refine s_iconst B X0 (pc' := 42) (v := (2 : Int32)) at_41 rfl rfl ?_
  refine s_iadd B X0 (pc' := 43) (v := ((Int32.ofNat kq) + (2 : Int32))) at_42 rfl rfl ?_
  refine s_iconst B X0 (pc' := 44) (v := (3 : Int32)) at_43 rfl rfl ?_
  refine s_irem B X0 (pc' := 45) (v := (((Int32.ofNat kq) + (2 : Int32)) % (3 : Int32))) at_44 rfl (by decide) rfl ?_
  refine s_iadd B X0 (pc' := 46) (v := (((Int32.ofNat u) + (1 : Int32)) + (((Int32.ofNat kq) + (2 : Int32)) % (3 : Int32)))) at_45 rfl rfl ?_
  refine s_iconst B X0 (pc' := 47) (v := (3 : Int32)) at_46 rfl rfl ?_
  refine s_iand B X0 (pc' := 48) (v := (Int32.ofNat w2)) at_47 (hx4) rfl ?_
  refine s_istore B X0 (pc' := 50) (Ls' := #[.val (.int i0), .val (.int i1), .val (.int i2), .val (.int (Int32.ofNat u)), .val (.int (Int32.ofNat kq)), .val (.int (Int32.ofNat v)), .val (.int (Int32.ofNat w1)), .val (.int (Int32.ofNat w2)), .unset, .unset, .unset, .unset, .unset, .unset, .unset, .unset, .unset, .unset, .unset, .unset, .unset, .unset]) at_48 rfl rfl ?_
  refine s_iloadN B X0 (pc' := 51) at_50 rfl rfl ?_
  refine s_iconst B X0 (pc' := 52) (v := (1 : Int32)) at_51 rfl rfl ?_
  refine s_iand B X0 (pc' := 53) (v := (i2 &&& (1 : Int32))) at_52 rfl rfl ?_
  refine b_selN B X0 (na := 1) (nb := 0) (J := 61) (py := 60) (pn := 56) at_53 (by decide) (by decide) rfl (fun G => s_iconst B X0 (pc' := 61) (v := (Int32.ofNat 0)) at_60 rfl rfl (G)) (fun G => s_iconst B X0 (pc' := 57) (v := (Int32.ofNat 1)) at_56 rfl rfl (s_goto B X0 (pc' := 61) at_57 (by decide) (by decide) G)) (fun f8 hf8 => ?_)
  show Go p e below _ (s₁.setTop (mkF m 61 #[.val (.int i0), .val (.int i1), .val (.int i2), .val (.int (Int32.ofNat u)), .val (.int (Int32.ofNat kq)), .val (.int (Int32.ofNat v)), .val (.int (Int32.ofNat w1)), .val (.int (Int32.ofNat w2)), .unset, .unset, .unset, .unset, .unset, .unset, .unset, .unset, .unset, .unset, .unset, .unset, .unset, .unset] [(.int (Int32.ofNat f8))]))
  replace hf8 : f8 ≤ 1 := by omega
  refine s_istore B X0 (pc' := 63) (Ls' := #[.val (.int i0), .val (.int i1), .val (.int i2), .val (.int (Int32.ofNat u)), .val (.int (Int32.ofNat kq)), .val (.int (Int32.ofNat v)), .val (.int (Int32.ofNat w1)), .val (.int (Int32.ofNat w2)), .val (.int (Int32.ofNat f8)), .unset, .unset, .unset, .unset, .unset, .unset, .unset, .unset, .unset, .unset, .unset, .unset, .unset]) at_61 rfl rfl ?_
  refine s_iloadN B X0 (pc' := 64) at_63 rfl rfl ?_
  refine s_iconst B X0 (pc' := 65) (v := (2 : Int32)) at_64 rfl rfl ?_
  refine s_iand B X0 (pc' := 66) (v := (i2 &&& (2 : Int32))) at_65 rfl rfl ?_
  refine b_selN B X0 (na := 1) (nb := 0) (J := 74) (py := 73) (pn := 69) at_66 (by decide) (by decide) rfl (fun G => s_iconst B X0 (pc' := 74) (v := (Int32.ofNat 0)) at_73 rfl rfl (G)) (fun G => s_iconst B X0 (pc' := 70) (v := (Int32.ofNat 1)) at_69 rfl rfl (s_goto B X0 (pc' := 74) at_70 (by decide) (by decide) G)) (fun f9 hf9 => ?_)
  show Go p e below _ (s₁.setTop (mkF m 74 #[.val (.int i0), .val (.int i1), .val (.int i2), .val (.int (Int32.ofNat u)), .val (.int (Int32.ofNat kq)), .val (.int (Int32.ofNat v)), .val (.int (Int32.ofNat w1)), .val (.int (Int32.ofNat w2)), .val (.int (Int32.ofNat f8)), .unset, .unset, .unset, .unset, .unset, .unset, .unset, .unset, .unset, .unset, .unset, .unset, .unset] [(.int (Int32.ofNat f9))]))
  replace hf9 : f9 ≤ 1 := by omega
  refine s_istore B X0 (pc' := 76) (Ls' := #[.val (.int i0), .val (.int i1), .val (.int i2), .val (.int (Int32.ofNat u)), .val (.int (Int32.ofNat kq)), .val (.int (Int32.ofNat v)), .val (.int (Int32.ofNat w1)), .val (.int (Int32.ofNat w2)), .val (.int (Int32.ofNat f8)), .val (.int (Int32.ofNat f9)), .unset, .unset, .unset, .unset, .unset, .unset, .unset, .unset, .unset, .unset, .unset, .unset]) at_74 rfl rfl ?_
  refine s_iloadN B X0 (pc' := 77) at_76 rfl rfl ?_
  refine s_iconst B X0 (pc' := 78) (v := (4 : Int32)) at_77 rfl rfl ?_
  refine s_iand B X0 (pc' := 79) (v := (i2 &&& (4 : Int32))) at_78 rfl rfl ?_
  refine b_selN B X0 (na := w1) (nb := w2) (J := 89) (py := 87) (pn := 82) at_79 (by decide) (by decide) rfl (fun G => s_iload B X0 (Ls := #[.val (.int i0), .val (.int i1), .val (.int i2), .val (.int (Int32.ofNat u)), .val (.int (Int32.ofNat kq)), .val (.int (Int32.ofNat v)), .val (.int (Int32.ofNat w1)), .val (.int (Int32.ofNat w2)), .val (.int (Int32.ofNat f8)), .val (.int (Int32.ofNat f9)), .unset, .unset, .unset, .unset, .unset, .unset, .unset, .unset, .unset, .unset, .unset, .unset]) (rest := []) (v := (Int32.ofNat w2)) (pc' := 89) at_87 rfl rfl (G)) (fun G => s_iload B X0 (Ls := #[.val (.int i0), .val (.int i1), .val (.int i2), .val (.int (Int32.ofNat u)), .val (.int (Int32.ofNat kq)), .val (.int (Int32.ofNat v)), .val (.int (Int32.ofNat w1)), .val (.int (Int32.ofNat w2)), .val (.int (Int32.ofNat f8)), .val (.int (Int32.ofNat f9)), .unset, .unset, .unset, .unset, .unset, .unset, .unset, .unset, .unset, .unset, .unset, .unset]) (rest := []) (v := (Int32.ofNat w1)) (pc' := 84) at_82 rfl rfl (s_goto B X0 (pc' := 89) at_84 (by decide) (by decide) G)) (fun t1 ht1 => ?_)
  show Go p e below _ (s₁.setTop (mkF m 89 #[.val (.int i0), .val (.int i1), .val (.int i2), .val (.int (Int32.ofNat u)), .val (.int (Int32.ofNat kq)), .val (.int (Int32.ofNat v)), .val (.int (Int32.ofNat w1)), .val (.int (Int32.ofNat w2)), .val (.int (Int32.ofNat f8)), .val (.int (Int32.ofNat f9)), .unset, .unset, .unset, .unset, .unset, .unset, .unset, .unset, .unset, .unset, .unset, .unset] [(.int (Int32.ofNat t1))]))
  have t1u : t1 ≠ u := by omega
  have t1v : t1 ≠ v := by omega
  have t14 : t1 < 4 := by omega
  clear ht1
  refine s_istore B X0 (pc' := 91) (Ls' := #[.val (.int i0), .val (.int i1), .val (.int i2), .val (.int (Int32.ofNat u)), .val (.int (Int32.ofNat kq)), .val (.int (Int32.ofNat v)), .val (.int (Int32.ofNat w1)), .val (.int (Int32.ofNat w2)), .val (.int (Int32.ofNat f8)), .val (.int (Int32.ofNat f9)), .val (.int (Int32.ofNat t1)), .unset, .unset, .unset, .unset, .unset, .unset, .unset, .unset, .unset, .unset, .unset]) at_89 rfl rfl ?_
  refine s_iloadN B X0 (pc' := 92) at_91 rfl rfl ?_
  refine s_bipush B X0 (pc' := 94) (v := (8 : Int32)) at_92 rfl rfl ?_
  refine s_iand B X0 (pc' := 95) (v := (i2 &&& (8 : Int32))) at_94 rfl rfl ?_
  refine b_selN B X0 (na := 1) (nb := 0) (J := 103) (py := 102) (pn := 98) at_95 (by decide) (by decide) rfl (fun G => s_iconst B X0 (pc' := 103) (v := (Int32.ofNat 0)) at_102 rfl rfl (G)) (fun G => s_iconst B X0 (pc' := 99) (v := (Int32.ofNat 1)) at_98 rfl rfl (s_goto B X0 (pc' := 103) at_99 (by decide) (by decide) G)) (fun f11 hf11 => ?_)
  show Go p e below _ (s₁.setTop (mkF m 103 #[.val (.int i0), .val (.int i1), .val (.int i2), .val (.int (Int32.ofNat u)), .val (.int (Int32.ofNat kq)), .val (.int (Int32.ofNat v)), .val (.int (Int32.ofNat w1)), .val (.int (Int32.ofNat w2)), .val (.int (Int32.ofNat f8)), .val (.int (Int32.ofNat f9)), .val (.int (Int32.ofNat t1)), .unset, .unset, .unset, .unset, .unset, .unset, .unset, .unset, .unset, .unset, .unset] [(.int (Int32.ofNat f11))]))
  replace hf11 : f11 ≤ 1 := by omega
  refine s_istore B X0 (pc' := 105) (Ls' := #[.val (.int i0), .val (.int i1), .val (.int i2), .val (.int (Int32.ofNat u)), .val (.int (Int32.ofNat kq)), .val (.int (Int32.ofNat v)), .val (.int (Int32.ofNat w1)), .val (.int (Int32.ofNat w2)), .val (.int (Int32.ofNat f8)), .val (.int (Int32.ofNat f9)), .val (.int (Int32.ofNat t1)), .val (.int (Int32.ofNat f11)), .unset, .unset, .unset, .unset, .unset, .unset, .unset, .unset, .unset, .unset]) at_103 rfl rfl ?_
  refine s_iloadN B X0 (pc' := 106) at_105 rfl rfl ?_
  refine s_bipush B X0 (pc' := 108) (v := (16 : Int32)) at_106 rfl rfl ?_
  refine s_iand B X0 (pc' := 109) (v := (i2 &&& (16 : Int32))) at_108 rfl rfl ?_
  refine b_selN B X0 (na := 1) (nb := 0) (J := 117) (py := 116) (pn := 112) at_109 (by decide) (by decide) rfl (fun G => s_iconst B X0 (pc' := 117) (v := (Int32.ofNat 0)) at_116 rfl rfl (G)) (fun G => s_iconst B X0 (pc' := 113) (v := (Int32.ofNat 1)) at_112 rfl rfl (s_goto B X0 (pc' := 117) at_113 (by decide) (by decide) G)) (fun f12 hf12 => ?_)
  show Go p e below _ (s₁.setTop (mkF m 117 #[.val (.int i0), .val (.int i1), .val (.int i2), .val (.int (Int32.ofNat u)), .val (.int (Int32.ofNat kq)), .val (.int (Int32.ofNat v)), .val (.int (Int32.ofNat w1)), .val (.int (Int32.ofNat w2)), .val (.int (Int32.ofNat f8)), .val (.int (Int32.ofNat f9)), .val (.int (Int32.ofNat t1)), .val (.int (Int32.ofNat f11)), .unset, .unset, .unset, .unset, .unset, .unset, .unset, .unset, .unset, .unset] [(.int (Int32.ofNat f12))]))
  replace hf12 : f12 ≤ 1 := by omega
  refine s_istore B X0 (pc' := 119) (Ls' := #[.val (.int i0), .val (.int i1), .val (.int i2), .val (.int (Int32.ofNat u)), .val (.int (Int32.ofNat kq)), .val (.int (Int32.ofNat v)), .val (.int (Int32.ofNat w1)), .val (.int (Int32.ofNat w2)), .val (.int (Int32.ofNat f8)), .val (.int (Int32.ofNat f9)), .val (.int (Int32.ofNat t1)), .val (.int (Int32.ofNat f11)), .val (.int (Int32.ofNat f12)), .unset, .unset, .unset, .unset, .unset, .unset, .unset, .unset, .unset]) at_117 rfl rfl ?_
  refine s_iloadN B X0 (pc' := 120) at_119 rfl rfl ?_
  refine s_bipush B X0 (pc' := 122) (v := (32 : Int32)) at_120 rfl rfl ?_
  refine s_iand B X0 (pc' := 123) (v := (i2 &&& (32 : Int32))) at_122 rfl rfl ?_
  refine b_selN B X0 (na := w1) (nb := w2) (J := 133) (py := 131) (pn := 126) at_123 (by decide) (by decide) rfl (fun G => s_iload B X0 (Ls := #[.val (.int i0), .val (.int i1), .val (.int i2), .val (.int (Int32.ofNat u)), .val (.int (Int32.ofNat kq)), .val (.int (Int32.ofNat v)), .val (.int (Int32.ofNat w1)), .val (.int (Int32.ofNat w2)), .val (.int (Int32.ofNat f8)), .val (.int (Int32.ofNat f9)), .val (.int (Int32.ofNat t1)), .val (.int (Int32.ofNat f11)), .val (.int (Int32.ofNat f12)), .unset, .unset, .unset, .unset, .unset, .unset, .unset, .unset, .unset]) (rest := []) (v := (Int32.ofNat w2)) (pc' := 133) at_131 rfl rfl (G)) (fun G => s_iload B X0 (Ls := #[.val (.int i0), .val (.int i1), .val (.int i2), .val (.int (Int32.ofNat u)), .val (.int (Int32.ofNat kq)), .val (.int (Int32.ofNat v)), .val (.int (Int32.ofNat w1)), .val (.int (Int32.ofNat w2)), .val (.int (Int32.ofNat f8)), .val (.int (Int32.ofNat f9)), .val (.int (Int32.ofNat t1)), .val (.int (Int32.ofNat f11)), .val (.int (Int32.ofNat f12)), .unset, .unset, .unset, .unset, .unset, .unset, .unset, .unset, .unset]) (rest := []) (v := (Int32.ofNat w1)) (pc' := 128) at_126 rfl rfl (s_goto B X0 (pc' := 133) at_128 (by decide) (by decide) G)) (fun t2 ht2 => ?_)
  show Go p e below _ (s₁.setTop (mkF m 133 #[.val (.int i0), .val (.int i1), .val (.int i2), .val (.int (Int32.ofNat u)), .val (.int (Int32.ofNat kq)), .val (.int (Int32.ofNat v)), .val (.int (Int32.ofNat w1)), .val (.int (Int32.ofNat w2)), .val (.int (Int32.ofNat f8)), .val (.int (Int32.ofNat f9)), .val (.int (Int32.ofNat t1)), .val (.int (Int32.ofNat f11)), .val (.int (Int32.ofNat f12)), .unset, .unset, .unset, .unset, .unset, .unset, .unset, .unset, .unset] [(.int (Int32.ofNat t2))]))
  have t2u : t2 ≠ u := by omega
  have t2v : t2 ≠ v := by omega
  have t24 : t2 < 4 := by omega
  clear ht2
  have hvu : Hid (v ≠ u) := huv.symm
  have ut1 : Hid (u ≠ t1) := t1u.symm
  have vt2 : Hid (v ≠ t2) := t2v.symm
  replace huv : Hid (u ≠ v) := huv
  replace t1u : Hid (t1 ≠ u) := t1u
  replace t1v : Hid (t1 ≠ v) := t1v
  replace t2u : Hid (t2 ≠ u) := t2u
  replace t2v : Hid (t2 ≠ v) := t2v
  clear w1u w1v w2u w2v
  refine s_istore B X0 (pc' := 135) (Ls' := #[.val (.int i0), .val (.int i1), .val (.int i2), .val (.int (Int32.ofNat u)), .val (.int (Int32.ofNat kq)), .val (.int (Int32.ofNat v)), .val (.int (Int32.ofNat w1)), .val (.int (Int32.ofNat w2)), .val (.int (Int32.ofNat f8)), .val (.int (Int32.ofNat f9)), .val (.int (Int32.ofNat t1)), .val (.int (Int32.ofNat f11)), .val (.int (Int32.ofNat f12)), .val (.int (Int32.ofNat t2)), .unset, .unset, .unset, .unset, .unset, .unset, .unset, .unset]) at_133 rfl rfl ?_
  refine s_iloadN B X0 (pc' := 136) at_135 rfl rfl ?_
  refine s_bipush B X0 (pc' := 138) (v := (64 : Int32)) at_136 rfl rfl ?_
  refine s_iand B X0 (pc' := 139) (v := (i2 &&& (64 : Int32))) at_138 rfl rfl ?_
  refine b_selN B X0 (na := 1) (nb := 0) (J := 147) (py := 146) (pn := 142) at_139 (by decide) (by decide) rfl (fun G => s_iconst B X0 (pc' := 147) (v := (Int32.ofNat 0)) at_146 rfl rfl (G)) (fun G => s_iconst B X0 (pc' := 143) (v := (Int32.ofNat 1)) at_142 rfl rfl (s_goto B X0 (pc' := 147) at_143 (by decide) (by decide) G)) (fun f14 hf14 => ?_)
  show Go p e below _ (s₁.setTop (mkF m 147 #[.val (.int i0), .val (.int i1), .val (.int i2), .val (.int (Int32.ofNat u)), .val (.int (Int32.ofNat kq)), .val (.int (Int32.ofNat v)), .val (.int (Int32.ofNat w1)), .val (.int (Int32.ofNat w2)), .val (.int (Int32.ofNat f8)), .val (.int (Int32.ofNat f9)), .val (.int (Int32.ofNat t1)), .val (.int (Int32.ofNat f11)), .val (.int (Int32.ofNat f12)), .val (.int (Int32.ofNat t2)), .unset, .unset, .unset, .unset, .unset, .unset, .unset, .unset] [(.int (Int32.ofNat f14))]))
  replace hf14 : f14 ≤ 1 := by omega
  refine s_istore B X0 (pc' := 149) (Ls' := #[.val (.int i0), .val (.int i1), .val (.int i2), .val (.int (Int32.ofNat u)), .val (.int (Int32.ofNat kq)), .val (.int (Int32.ofNat v)), .val (.int (Int32.ofNat w1)), .val (.int (Int32.ofNat w2)), .val (.int (Int32.ofNat f8)), .val (.int (Int32.ofNat f9)), .val (.int (Int32.ofNat t1)), .val (.int (Int32.ofNat f11)), .val (.int (Int32.ofNat f12)), .val (.int (Int32.ofNat t2)), .val (.int (Int32.ofNat f14)), .unset, .unset, .unset, .unset, .unset, .unset, .unset]) at_147 rfl rfl ?_
  refine s_iloadN B X0 (pc' := 150) at_149 rfl rfl ?_
  refine s_bipush B X0 (pc' := 152) (v := (7 : Int32)) at_150 rfl rfl ?_
  refine s_iushr B X0 (pc' := 153) (v := ((i2.toUInt32 >>> ((7 : Int32) &&& 31).toUInt32).toInt32)) at_152 rfl rfl ?_
  refine s_iconst B X0 (pc' := 154) (v := (3 : Int32)) at_153 rfl rfl ?_
  refine s_irem B X0 (pc' := 155) (v := (((i2.toUInt32 >>> ((7 : Int32) &&& 31).toUInt32).toInt32) % (3 : Int32))) at_154 rfl (by decide) rfl ?_
  refine s_iconst B X0 (pc' := 156) (v := (1 : Int32)) at_155 rfl rfl ?_
  refine s_iadd B X0 (pc' := 157) (v := (Int32.ofNat mm)) at_156 (hmm) rfl ?_
  refine s_istore B X0 (pc' := 159) (Ls' := #[.val (.int i0), .val (.int i1), .val (.int i2), .val (.int (Int32.ofNat u)), .val (.int (Int32.ofNat kq)), .val (.int (Int32.ofNat v)), .val (.int (Int32.ofNat w1)), .val (.int (Int32.ofNat w2)), .val (.int (Int32.ofNat f8)), .val (.int (Int32.ofNat f9)), .val (.int (Int32.ofNat t1)), .val (.int (Int32.ofNat f11)), .val (.int (Int32.ofNat f12)), .val (.int (Int32.ofNat t2)), .val (.int (Int32.ofNat f14)), .val (.int (Int32.ofNat mm)), .unset, .unset, .unset, .unset, .unset, .unset]) at_157 rfl rfl ?_
  refine s_new B X0 (pc' := 162) (n0 := 3) e0 (tw1 hw) (tw2 hw) (tw3 hw) (by decide) (by decide) at_159 rfl (fun T1 h1 o1 g1 X1 e1 E1 A1 D1 => ?_)
  have ge_o1 : Z.heap.size ≤ o1 := g1 ▸ old_le (Old.start Z)
  have O1 := ((Old.start Z)).ext E1
  have F1 := OwnF.ext O1.2 FZ
  have D1_partners : Fld Z h1 o1 "unitloom/engine/Links" "partners" "[[I" .null := D1 (Or.inr (tw13 hw)) (ty := (.array (.array .int))) (by decide)
  have D1_edges : Fld Z h1 o1 "unitloom/engine/Links" "edges" "[[I" .null := D1 (Or.inr (tw15 hw)) (ty := (.array (.array .int))) (by decide)
  have D1_partnerCount : Fld Z h1 o1 "unitloom/engine/Links" "partnerCount" "[I" .null := D1 (Or.inr (tw25 hw)) (ty := (.array .int)) (by decide)
  show Go p e below _ (T1.setTop (mkF m 162 #[.val (.int i0), .val (.int i1), .val (.int i2), .val (.int (Int32.ofNat u)), .val (.int (Int32.ofNat kq)), .val (.int (Int32.ofNat v)), .val (.int (Int32.ofNat w1)), .val (.int (Int32.ofNat w2)), .val (.int (Int32.ofNat f8)), .val (.int (Int32.ofNat f9)), .val (.int (Int32.ofNat t1)), .val (.int (Int32.ofNat f11)), .val (.int (Int32.ofNat f12)), .val (.int (Int32.ofNat t2)), .val (.int (Int32.ofNat f14)), .val (.int (Int32.ofNat mm)), .unset, .unset, .unset, .unset, .unset, .unset] [(.ref o1)]))
  refine s_dup B X1 (pc' := 163) at_162 rfl rfl ?_
  refine s_iconst B X1 (pc' := 164) (v := (4 : Int32)) at_163 rfl rfl ?_
  refine c_init B X1 (y := mn11) (pc' := 167) (argsL := [(.int (4 : Int32))]) (under := [(.ref o1)]) (W := 1) e1 rfl (tw4 hw) (tw5 hw) (tw6 hw) (tw3 hw) (by decide) (rm_init l Z a0 hw o1 w_NO_UNITS h1 FZ I0 O1 ge_o1 A1 D1_partners D1_edges D1_partnerCount) (lenOf pd_4 rfl) rfl rfl (by decide) (by decide) (by decide) (by decide) rfl at_164 rfl (fun v2 T2 L2 X2 hQ2 => ?_)
  obtain ⟨rfl, Nq2, A2⟩ := hQ2
  have N2 := Fr.app (Fr.nil _) Nq2
  show Go p e below _ (T2.setTop (mkF m 167 #[.val (.int i0), .val (.int i1), .val (.int i2), .val (.int (Int32.ofNat u)), .val (.int (Int32.ofNat kq)), .val (.int (Int32.ofNat v)), .val (.int (Int32.ofNat w1)), .val (.int (Int32.ofNat w2)), .val (.int (Int32.ofNat f8)), .val (.int (Int32.ofNat f9)), .val (.int (Int32.ofNat t1)), .val (.int (Int32.ofNat f11)), .val (.int (Int32.ofNat f12)), .val (.int (Int32.ofNat t2)), .val (.int (Int32.ofNat f14)), .val (.int (Int32.ofNat mm)), .unset, .unset, .unset, .unset, .unset, .unset] [(.ref o1)]))
  refine s_astore B X2 (pc' := 169) (Ls' := #[.val (.int i0), .val (.int i1), .val (.int i2), .val (.int (Int32.ofNat u)), .val (.int (Int32.ofNat kq)), .val (.int (Int32.ofNat v)), .val (.int (Int32.ofNat w1)), .val (.int (Int32.ofNat w2)), .val (.int (Int32.ofNat f8)), .val (.int (Int32.ofNat f9)), .val (.int (Int32.ofNat t1)), .val (.int (Int32.ofNat f11)), .val (.int (Int32.ofNat f12)), .val (.int (Int32.ofNat t2)), .val (.int (Int32.ofNat f14)), .val (.int (Int32.ofNat mm)), .val (.ref o1), .unset, .unset, .unset, .unset, .unset]) at_167 rfl rfl rfl ?_
  have HC : CH u v t1 t2 0 0 0 (fun _ _ => 0) := fun x y => by show 0 = 0 * _ + 0 * _ + 0 * _; omega
  have jn188 : ∀ (T : State) (Lc : List Loc) (ce sl Bn a1 a2 k : Nat) (C : Nat → Nat → Nat), Stand p l e room_1 s m #[(.int i0), (.int i1), (.int i2)] below meth c T Lc ce sl → Fr Z.heap.size Lc → ce ≤ 4 + 4 * Bn → sl ≤ 15 + 32 * Bn → Bn = a1 + a2 + k → LA Z T.heap o1 w_NO_UNITS 0 (fun _ => 0) 4 (fun _ => Bn) C → CH u v t1 t2 a1 a2 k C → a2 = 0 ∧ k = 0 ∧ (a1 ≤ f8 ∧ a1 ≤ f9 ∧ f8 + f9 ≤ a1 + 1) → Go p e below (OEnds s (fun v h L => v = some (.int 1) ∧ Fr Z.heap.size L) room_1.cells room_1.slots) (T.setTop (mkF m 188 #[.val (.int i0), .val (.int i1), .val (.int i2), .val (.int (Int32.ofNat u)), .val (.int (Int32.ofNat kq)), .val (.int (Int32.ofNat v)), .val (.int (Int32.ofNat w1)), .val (.int (Int32.ofNat w2)), .val (.int (Int32.ofNat f8)), .val (.int (Int32.ofNat f9)), .val (.int (Int32.ofNat t1)), .val (.int (Int32.ofNat f11)), .val (.int (Int32.ofNat f12)), .val (.int (Int32.ofNat t2)), .val (.int (Int32.ofNat f14)), .val (.int (Int32.ofNat mm)), .val (.ref o1), .unset, .unset, .unset, .unset, .unset] [])) := by
    intro Tj188 Lj188 ce sl Bn a1 a2 k C Xj188 Nj188 hce hsl hBn Aj188 HC hF
    have jn208 : ∀ (T : State) (Lc : List Loc) (ce sl Bn a1 a2 k : Nat) (C : Nat → Nat → Nat), Stand p l e room_1 s m #[(.int i0), (.int i1), (.int i2)] below meth c T Lc ce sl → Fr Z.heap.size Lc → ce ≤ 4 + 4 * Bn → sl ≤ 15 + 32 * Bn → Bn = a1 + a2 + k → LA Z T.heap o1 w_NO_UNITS 0 (fun _ => 0) 4 (fun _ => Bn) C → CH u v t1 t2 a1 a2 k C → k = 0 ∧ (a1 ≤ f8 ∧ a1 ≤ f9 ∧ f8 + f9 ≤ a1 + 1) ∧ (a2 ≤ f11 ∧ a2 ≤ f12 ∧ f11 + f12 ≤ a2 + 1) → Go p e below (OEnds s (fun v h L => v = some (.int 1) ∧ Fr Z.heap.size L) room_1.cells room_1.slots) (T.setTop (mkF m 208 #[.val (.int i0), .val (.int i1), .val (.int i2), .val (.int (Int32.ofNat u)), .val (.int (Int32.ofNat kq)), .val (.int (Int32.ofNat v)), .val (.int (Int32.ofNat w1)), .val (.int (Int32.ofNat w2)), .val (.int (Int32.ofNat f8)), .val (.int (Int32.ofNat f9)), .val (.int (Int32.ofNat t1)), .val (.int (Int32.ofNat f11)), .val (.int (Int32.ofNat f12)), .val (.int (Int32.ofNat t2)), .val (.int (Int32.ofNat f14)), .val (.int (Int32.ofNat mm)), .val (.ref o1), .unset, .unset, .unset, .unset, .unset] [])) := by
      clear hF hce hsl hBn
      intro Tj208 Lj208 ce sl Bn a1 a2 k C Xj208 Nj208 hce hsl hBn Aj208 HC hF
      refine s_aload B Xj208 (pc' := 210) at_208 rfl rfl rfl ?_
      refine s_iloadN B Xj208 (pc' := 211) at_210 rfl rfl ?_
      refine s_iload B Xj208 (pc' := 213) at_211 rfl rfl ?_
      refine c_virtual B Xj208 (y := mn6) (pc' := 216) (argsL := [(.int (Int32.ofNat u)), (.int (Int32.ofNat v))]) (under := []) (W := 0) rfl (tw26 hw) (tw27 hw) (tw29 hw) (tw28 hw) (tw30 hw) (tw3 hw) (by decide) (rm_addEdge l Z a0 hw o1 w_NO_UNITS 0 (fun _ => 0) 4 (Bn) _ u v _ Aj208 (by decide) hu4 hv4 huv (by omega)) Aj208.exa (lenOf pd_5 rfl) rfl rfl (by decide) (by decide) (show ce + 4 ≤ 32 by omega) (show sl + 32 ≤ 192 by omega) rfl at_213 rfl (fun v3 T3 L3 X3 hQ3 => ?_)
      obtain ⟨⟨x3, rfl⟩, Nq3, A3⟩ := hQ3
      have N3 := Fr.app Nj208 Nq3
      have HC3 := HC.add3 huv
      show Go p e below _ (T3.setTop (mkF m 216 #[.val (.int i0), .val (.int i1), .val (.int i2), .val (.int (Int32.ofNat u)), .val (.int (Int32.ofNat kq)), .val (.int (Int32.ofNat v)), .val (.int (Int32.ofNat w1)), .val (.int (Int32.ofNat w2)), .val (.int (Int32.ofNat f8)), .val (.int (Int32.ofNat f9)), .val (.int (Int32.ofNat t1)), .val (.int (Int32.ofNat f11)), .val (.int (Int32.ofNat f12)), .val (.int (Int32.ofNat t2)), .val (.int (Int32.ofNat f14)), .val (.int (Int32.ofNat mm)), .val (.ref o1), .unset, .unset, .unset, .unset, .unset] [(.int x3)]))
      refine s_pop B X3 (pc' := 217) at_216 rfl rfl ?_
      have jn232 : ∀ (T : State) (Lc : List Loc) (ce sl Bn a1 a2 k : Nat) (C : Nat → Nat → Nat), Stand p l e room_1 s m #[(.int i0), (.int i1), (.int i2)] below meth c T Lc ce sl → Fr Z.heap.size Lc → ce ≤ 4 + 4 * Bn → sl ≤ 15 + 32 * Bn → Bn = a1 + a2 + k → LA Z T.heap o1 w_NO_UNITS 0 (fun _ => 0) 4 (fun _ => Bn) C → CH u v t1 t2 a1 a2 k C → (k ≤ mm ∧ k ≤ 2 ∧ mm + 1 ≤ 2 * k) ∧ (a1 ≤ f8 ∧ a1 ≤ f9 ∧ f8 + f9 ≤ a1 + 1) ∧ (a2 ≤ f11 ∧ a2 ≤ f12 ∧ f11 + f12 ≤ a2 + 1) → Go p e below (OEnds s (fun v h L => v = some (.int 1) ∧ Fr Z.heap.size L) room_1.cells room_1.slots) (T.setTop (mkF m 232 #[.val (.int i0), .val (.int i1), .val (.int i2), .val (.int (Int32.ofNat u)), .val (.int (Int32.ofNat kq)), .val (.int (Int32.ofNat v)), .val (.int (Int32.ofNat w1)), .val (.int (Int32.ofNat w2)), .val (.int (Int32.ofNat f8)), .val (.int (Int32.ofNat f9)), .val (.int (Int32.ofNat t1)), .val (.int (Int32.ofNat f11)), .val (.int (Int32.ofNat f12)), .val (.int (Int32.ofNat t2)), .val (.int (Int32.ofNat f14)), .val (.int (Int32.ofNat mm)), .val (.ref o1), .unset, .unset, .unset, .unset, .unset] [])) := by
        clear hF hce hsl hBn
        intro Tj232 Lj232 ce sl Bn a1 a2 k C Xj232 Nj232 hce hsl hBn Aj232 HC hF
        have jn247 : ∀ (T : State) (Lc : List Loc) (ce sl Bn a1 a2 k : Nat) (C : Nat → Nat → Nat), Stand p l e room_1 s m #[(.int i0), (.int i1), (.int i2)] below meth c T Lc ce sl → Fr Z.heap.size Lc → ce ≤ 4 + 4 * Bn → sl ≤ 15 + 32 * Bn → Bn = a1 + a2 + k → LA Z T.heap o1 w_NO_UNITS 0 (fun _ => 0) 4 (fun _ => Bn) C → CH u v t1 t2 a1 a2 k C → k = mm ∧ (a1 ≤ f8 ∧ a1 ≤ f9 ∧ f8 + f9 ≤ a1 + 1) ∧ (a2 ≤ f11 ∧ a2 ≤ f12 ∧ f11 + f12 ≤ a2 + 1) → Go p e below (OEnds s (fun v h L => v = some (.int 1) ∧ Fr Z.heap.size L) room_1.cells room_1.slots) (T.setTop (mkF m 247 #[.val (.int i0), .val (.int i1), .val (.int i2), .val (.int (Int32.ofNat u)), .val (.int (Int32.ofNat kq)), .val (.int (Int32.ofNat v)), .val (.int (Int32.ofNat w1)), .val (.int (Int32.ofNat w2)), .val (.int (Int32.ofNat f8)), .val (.int (Int32.ofNat f9)), .val (.int (Int32.ofNat t1)), .val (.int (Int32.ofNat f11)), .val (.int (Int32.ofNat f12)), .val (.int (Int32.ofNat t2)), .val (.int (Int32.ofNat f14)), .val (.int (Int32.ofNat mm)), .val (.ref o1), .unset, .unset, .unset, .unset, .unset] [])) := by
          clear hF hce hsl hBn
          intro Tj247 Lj247 ce sl Bn a1 a2 k C Xj247 Nj247 hce hsl hBn Aj247 HC hF
          have jn266 : ∀ (T : State) (Lc : List Loc) (ce sl Bn a1 a2 k : Nat) (C : Nat → Nat → Nat), Stand p l e room_1 s m #[(.int i0), (.int i1), (.int i2)] below meth c T Lc ce sl → Fr Z.heap.size Lc → ce ≤ 4 + 4 * Bn → sl ≤ 15 + 32 * Bn → Bn = a1 + a2 + k → LA Z T.heap o1 w_NO_UNITS 0 (fun _ => 0) 4 (fun _ => Bn) C → CH u v t1 t2 a1 a2 k C → k = mm ∧ a1 = f8 ∧ (a2 ≤ f11 ∧ a2 ≤ f12 ∧ f11 + f12 ≤ a2 + 1) → Go p e below (OEnds s (fun v h L => v = some (.int 1) ∧ Fr Z.heap.size L) room_1.cells room_1.slots) (T.setTop (mkF m 266 #[.val (.int i0), .val (.int i1), .val (.int i2), .val (.int (Int32.ofNat u)), .val (.int (Int32.ofNat kq)), .val (.int (Int32.ofNat v)), .val (.int (Int32.ofNat w1)), .val (.int (Int32.ofNat w2)), .val (.int (Int32.ofNat f8)), .val (.int (Int32.ofNat f9)), .val (.int (Int32.ofNat t1)), .val (.int (Int32.ofNat f11)), .val (.int (Int32.ofNat f12)), .val (.int (Int32.ofNat t2)), .val (.int (Int32.ofNat f14)), .val (.int (Int32.ofNat mm)), .val (.ref o1), .unset, .unset, .unset, .unset, .unset] [])) := by
            clear hF hce hsl hBn
            intro Tj266 Lj266 ce sl Bn a1 a2 k C Xj266 Nj266 hce hsl hBn Aj266 HC hF
            have jn286 : ∀ (T : State) (Lc : List Loc) (ce sl Bn a1 a2 k : Nat) (C : Nat → Nat → Nat), Stand p l e room_1 s m #[(.int i0), (.int i1), (.int i2)] below meth c T Lc ce sl → Fr Z.heap.size Lc → ce ≤ 4 + 4 * Bn → sl ≤ 15 + 32 * Bn → Bn = a1 + a2 + k → LA Z T.heap o1 w_NO_UNITS 0 (fun _ => 0) 4 (fun _ => Bn) C → CH u v t1 t2 a1 a2 k C → k = mm ∧ a1 = f8 ∧ a2 = f11 → Go p e below (OEnds s (fun v h L => v = some (.int 1) ∧ Fr Z.heap.size L) room_1.cells room_1.slots) (T.setTop (mkF m 286 #[.val (.int i0), .val (.int i1), .val (.int i2), .val (.int (Int32.ofNat u)), .val (.int (Int32.ofNat kq)), .val (.int (Int32.ofNat v)), .val (.int (Int32.ofNat w1)), .val (.int (Int32.ofNat w2)), .val (.int (Int32.ofNat f8)), .val (.int (Int32.ofNat f9)), .val (.int (Int32.ofNat t1)), .val (.int (Int32.ofNat f11)), .val (.int (Int32.ofNat f12)), .val (.int (Int32.ofNat t2)), .val (.int (Int32.ofNat f14)), .val (.int (Int32.ofNat mm)), .val (.ref o1), .unset, .unset, .unset, .unset, .unset] [])) := by
              clear hF hce hsl hBn
              intro Tj286 Lj286 ce sl Bn a1 a2 k C Xj286 Nj286 hce hsl hBn Aj286 HC hF
              have jn310 : ∀ (T : State) (Lc : List Loc) (ce sl Bn : Nat) (C : Nat → Nat → Nat) (rv : Int32), Stand p l e room_1 s m #[(.int i0), (.int i1), (.int i2)] below meth c T Lc ce sl → Fr Z.heap.size Lc → ce ≤ 32 → sl ≤ 192 → Bn ≤ 5 → LA Z T.heap o1 w_NO_UNITS 0 (fun _ => 0) 4 (fun _ => Bn) C → CH u v t1 t2 f8 f11 (mm - 1) C → (mm = 1 → rv = 1) → (mm ≠ 1 → rv = 0) → Go p e below (OEnds s (fun v h L => v = some (.int 1) ∧ Fr Z.heap.size L) room_1.cells room_1.slots) (T.setTop (mkF m 310 #[.val (.int i0), .val (.int i1), .val (.int i2), .val (.int (Int32.ofNat u)), .val (.int (Int32.ofNat kq)), .val (.int (Int32.ofNat v)), .val (.int (Int32.ofNat w1)), .val (.int (Int32.ofNat w2)), .val (.int (Int32.ofNat f8)), .val (.int (Int32.ofNat f9)), .val (.int (Int32.ofNat t1)), .val (.int (Int32.ofNat f11)), .val (.int (Int32.ofNat f12)), .val (.int (Int32.ofNat t2)), .val (.int (Int32.ofNat f14)), .val (.int (Int32.ofNat mm)), .val (.ref o1), .unset, .unset, .unset, .unset, .unset] [.int rv])) := by
                clear hF hce hsl hBn
                intro Tj310 Lj310 ce sl Bn C rv Xj310 Nj310 hce hsl hBn Aj310 HC hr1 hr0
                have k3 : mm - 1 < 3 := by omega
                have hE1 : C u v = mm - 1 := by rw [HC u v, mt_no (u := u) (v := t1) (x := u) (y := v) (fun z => z.elim (fun z => t1v z.2) (fun z => huv z.1)), mt_no (u := v) (v := t2) (x := u) (y := v) (fun z => z.elim (fun z => hvu z.1) (fun z => t2u z.2)), mt_self]; omega
                have hE2 : C v u = mm - 1 := by rw [HC v u, mt_no (u := u) (v := t1) (x := v) (y := u) (fun z => z.elim (fun z => huv z.1) (fun z => t1v z.2)), mt_no (u := v) (v := t2) (x := v) (y := u) (fun z => z.elim (fun z => t2u z.2) (fun z => hvu z.1)), mt_flip]; omega
                have hE3 : C u t1 = f8 := by rw [HC u t1, mt_self, mt_no (u := v) (v := t2) (x := u) (y := t1) (fun z => z.elim (fun z => hvu z.1) (fun z => t2u z.2)), mt_no (u := u) (v := v) (x := u) (y := t1) (fun z => z.elim (fun z => t1v z.2.symm) (fun z => t1u z.1.symm))]; omega
                have hE4 : C v t2 = f11 := by rw [HC v t2, mt_no (u := u) (v := t1) (x := v) (y := t2) (fun z => z.elim (fun z => huv z.1) (fun z => t1v z.2)), mt_self, mt_no (u := u) (v := v) (x := v) (y := t2) (fun z => z.elim (fun z => huv z.1) (fun z => t2u z.1.symm))]; omega
                have hE5 := HC.cntU hu4 hv4 t14 huv t1u t1v t2u (by omega) k3
                have hE6 := HC.cntV hu4 hv4 t24 huv t2u t2v t1v (by omega) k3
                rcases (by omega : f8 = 0 ∨ f8 = 1) with rfl | rfl
                · rcases (by omega : f11 = 0 ∨ f11 = 1) with rfl | rfl
                  · rcases (by omega : mm = 1 ∨ mm = 2 ∨ mm = 3) with rfl | rfl | rfl
                    · obtain rfl := hr1 rfl
                      show Go p e below _ (Tj310.setTop (mkF m 310 #[.val (.int i0), .val (.int i1), .val (.int i2), .val (.int (Int32.ofNat u)), .val (.int (Int32.ofNat kq)), .val (.int (Int32.ofNat v)), .val (.int (Int32.ofNat w1)), .val (.int (Int32.ofNat w2)), .val (.int (0 : Int32)), .val (.int (Int32.ofNat f9)), .val (.int (Int32.ofNat t1)), .val (.int (0 : Int32)), .val (.int (Int32.ofNat f12)), .val (.int (Int32.ofNat t2)), .val (.int (Int32.ofNat f14)), .val (.int (1 : Int32)), .val (.ref o1), .unset, .unset, .unset, .unset, .unset] [(.int (1 : Int32))]))
                      refine s_istore B Xj310 (pc' := 312) (Ls' := #[.val (.int i0), .val (.int i1), .val (.int i2), .val (.int (Int32.ofNat u)), .val (.int (Int32.ofNat kq)), .val (.int (Int32.ofNat v)), .val (.int (Int32.ofNat w1)), .val (.int (Int32.ofNat w2)), .val (.int (0 : Int32)), .val (.int (Int32.ofNat f9)), .val (.int (Int32.ofNat t1)), .val (.int (0 : Int32)), .val (.int (Int32.ofNat f12)), .val (.int (Int32.ofNat t2)), .val (.int (Int32.ofNat f14)), .val (.int (1 : Int32)), .val (.ref o1), .val (.int (1 : Int32)), .unset, .unset, .unset, .unset]) at_310 rfl rfl ?_
                      refine s_iload B Xj310 (pc' := 314) at_312 rfl rfl ?_
                      refine s_iconst B Xj310 (pc' := 315) (v := (1 : Int32)) at_314 rfl rfl ?_
                      refine s_isub B Xj310 (pc' := 316) (v := (0 : Int32)) at_315 rfl rfl ?_
                      refine s_istore B Xj310 (pc' := 318) (Ls' := #[.val (.int i0), .val (.int i1), .val (.int i2), .val (.int (Int32.ofNat u)), .val (.int (Int32.ofNat kq)), .val (.int (Int32.ofNat v)), .val (.int (Int32.ofNat w1)), .val (.int (Int32.ofNat w2)), .val (.int (0 : Int32)), .val (.int (Int32.ofNat f9)), .val (.int (Int32.ofNat t1)), .val (.int (0 : Int32)), .val (.int (Int32.ofNat f12)), .val (.int (Int32.ofNat t2)), .val (.int (Int32.ofNat f14)), .val (.int (1 : Int32)), .val (.ref o1), .val (.int (1 : Int32)), .val (.int (0 : Int32)), .unset, .unset, .unset]) at_316 rfl rfl ?_
                      refine s_iload B Xj310 (pc' := 320) at_318 rfl rfl ?_
                      refine s_iconst B Xj310 (pc' := 321) (v := (1 : Int32)) at_320 rfl rfl ?_
                      refine s_icmpN B Xj310 (pc' := 324) at_321 (by decide) rfl ?_
                      refine s_iconst B Xj310 (pc' := 325) (v := (1 : Int32)) at_324 rfl rfl ?_
                      refine s_goto B Xj310 (pc' := 329) at_325 (by decide) (by decide) ?_
                      refine s_istore B Xj310 (pc' := 331) (Ls' := #[.val (.int i0), .val (.int i1), .val (.int i2), .val (.int (Int32.ofNat u)), .val (.int (Int32.ofNat kq)), .val (.int (Int32.ofNat v)), .val (.int (Int32.ofNat w1)), .val (.int (Int32.ofNat w2)), .val (.int (0 : Int32)), .val (.int (Int32.ofNat f9)), .val (.int (Int32.ofNat t1)), .val (.int (0 : Int32)), .val (.int (Int32.ofNat f12)), .val (.int (Int32.ofNat t2)), .val (.int (Int32.ofNat f14)), .val (.int (1 : Int32)), .val (.ref o1), .val (.int (1 : Int32)), .val (.int (0 : Int32)), .val (.int (1 : Int32)), .unset, .unset]) at_329 rfl rfl ?_
                      refine s_iconst B Xj310 (pc' := 332) (v := (1 : Int32)) at_331 rfl rfl ?_
                      refine s_iload B Xj310 (pc' := 334) at_332 rfl rfl ?_
                      refine s_ifY B Xj310 (pc' := 341) at_334 (by decide) (by decide) (by decide) ?_
                      refine s_iconst B Xj310 (pc' := 342) (v := (0 : Int32)) at_341 rfl rfl ?_
                      refine s_iadd B Xj310 (pc' := 343) (v := (1 : Int32)) at_342 rfl rfl ?_
                      refine s_iload B Xj310 (pc' := 345) at_343 rfl rfl ?_
                      refine s_isub B Xj310 (pc' := 346) (v := (0 : Int32)) at_345 rfl rfl ?_
                      refine s_istore B Xj310 (pc' := 348) (Ls' := #[.val (.int i0), .val (.int i1), .val (.int i2), .val (.int (Int32.ofNat u)), .val (.int (Int32.ofNat kq)), .val (.int (Int32.ofNat v)), .val (.int (Int32.ofNat w1)), .val (.int (Int32.ofNat w2)), .val (.int (0 : Int32)), .val (.int (Int32.ofNat f9)), .val (.int (Int32.ofNat t1)), .val (.int (0 : Int32)), .val (.int (Int32.ofNat f12)), .val (.int (Int32.ofNat t2)), .val (.int (Int32.ofNat f14)), .val (.int (1 : Int32)), .val (.ref o1), .val (.int (1 : Int32)), .val (.int (0 : Int32)), .val (.int (1 : Int32)), .val (.int (0 : Int32)), .unset]) at_346 rfl rfl ?_
                      refine s_iconst B Xj310 (pc' := 349) (v := (1 : Int32)) at_348 rfl rfl ?_
                      refine s_iload B Xj310 (pc' := 351) at_349 rfl rfl ?_
                      refine s_ifY B Xj310 (pc' := 358) at_351 (by decide) (by decide) (by decide) ?_
                      refine s_iconst B Xj310 (pc' := 359) (v := (0 : Int32)) at_358 rfl rfl ?_
                      refine s_iadd B Xj310 (pc' := 360) (v := (1 : Int32)) at_359 rfl rfl ?_
                      refine s_iload B Xj310 (pc' := 362) at_360 rfl rfl ?_
                      refine s_isub B Xj310 (pc' := 363) (v := (0 : Int32)) at_362 rfl rfl ?_
                      refine s_istore B Xj310 (pc' := 365) (Ls' := #[.val (.int i0), .val (.int i1), .val (.int i2), .val (.int (Int32.ofNat u)), .val (.int (Int32.ofNat kq)), .val (.int (Int32.ofNat v)), .val (.int (Int32.ofNat w1)), .val (.int (Int32.ofNat w2)), .val (.int (0 : Int32)), .val (.int (Int32.ofNat f9)), .val (.int (Int32.ofNat t1)), .val (.int (0 : Int32)), .val (.int (Int32.ofNat f12)), .val (.int (Int32.ofNat t2)), .val (.int (Int32.ofNat f14)), .val (.int (1 : Int32)), .val (.ref o1), .val (.int (1 : Int32)), .val (.int (0 : Int32)), .val (.int (1 : Int32)), .val (.int (0 : Int32)), .val (.int (0 : Int32))]) at_363 rfl rfl ?_
                      refine s_iload B Xj310 (pc' := 367) at_365 rfl rfl ?_
                      refine s_iload B Xj310 (pc' := 369) at_367 rfl rfl ?_
                      refine s_iconst B Xj310 (pc' := 370) (v := (1 : Int32)) at_369 rfl rfl ?_
                      refine s_icmpN B Xj310 (pc' := 373) at_370 (by decide) rfl ?_
                      refine s_iconst B Xj310 (pc' := 374) (v := (1 : Int32)) at_373 rfl rfl ?_
                      refine s_goto B Xj310 (pc' := 378) at_374 (by decide) (by decide) ?_
                      refine s_icmpN B Xj310 (pc' := 381) at_378 (by decide) rfl ?_
                      refine s_aload B Xj310 (pc' := 383) at_381 rfl rfl rfl ?_
                      refine s_iloadN B Xj310 (pc' := 384) at_383 rfl rfl ?_
                      refine s_iload B Xj310 (pc' := 386) at_384 rfl rfl ?_
                      refine p_virtual B Xj310 (y := mn8) (pc' := 389) (argsL := [(.int (Int32.ofNat u)), (.int (Int32.ofNat v))]) (under := []) (W := 0) rfl (tw62 hw) (tw63 hw) (tw65 hw) (tw64 hw) (tw66 hw) (tw3 hw) (by decide) (rm_edges l Z a0 hw o1 w_NO_UNITS 0 (fun _ => 0) 4 (fun _ => Bn) C u v Tj310.heap Aj310 hu4 (Nat.lt_trans hv4 (by decide)) hBn 0 (hE1.trans (by decide))) Aj310.exa (lenOf pd_0 rfl) rfl rfl (by decide) (by decide) rfl rfl (show ce ≤ 32 by omega) (show sl ≤ 192 by omega) rfl at_386 rfl (fun T4 X4 e4 => ?_)
                      show Go p e below _ (T4.setTop (mkF m 389 #[.val (.int i0), .val (.int i1), .val (.int i2), .val (.int (Int32.ofNat u)), .val (.int (Int32.ofNat kq)), .val (.int (Int32.ofNat v)), .val (.int (Int32.ofNat w1)), .val (.int (Int32.ofNat w2)), .val (.int (0 : Int32)), .val (.int (Int32.ofNat f9)), .val (.int (Int32.ofNat t1)), .val (.int (0 : Int32)), .val (.int (Int32.ofNat f12)), .val (.int (Int32.ofNat t2)), .val (.int (Int32.ofNat f14)), .val (.int (1 : Int32)), .val (.ref o1), .val (.int (1 : Int32)), .val (.int (0 : Int32)), .val (.int (1 : Int32)), .val (.int (0 : Int32)), .val (.int (0 : Int32))] [(.int (0 : Int32))]))
                      refine s_iload B X4 (pc' := 391) at_389 rfl rfl ?_
                      refine s_icmpN B X4 (pc' := 394) at_391 (by decide) rfl ?_
                      refine s_aload B X4 (pc' := 396) at_394 rfl rfl rfl ?_
                      refine s_iload B X4 (pc' := 398) at_396 rfl rfl ?_
                      refine s_iloadN B X4 (pc' := 399) at_398 rfl rfl ?_
                      refine p_virtual B X4 (y := mn8) (pc' := 402) (argsL := [(.int (Int32.ofNat v)), (.int (Int32.ofNat u))]) (under := []) (W := 0) e4 (tw62 hw) (tw63 hw) (tw65 hw) (tw64 hw) (tw66 hw) (tw3 hw) (by decide) (rm_edges l Z a0 hw o1 w_NO_UNITS 0 (fun _ => 0) 4 (fun _ => Bn) C v u Tj310.heap Aj310 hv4 (Nat.lt_trans hu4 (by decide)) hBn 0 (hE2.trans (by decide))) Aj310.exa (lenOf pd_0 rfl) rfl rfl (by decide) (by decide) rfl rfl (show ce ≤ 32 by omega) (show sl ≤ 192 by omega) rfl at_399 rfl (fun T5 X5 e5 => ?_)
                      show Go p e below _ (T5.setTop (mkF m 402 #[.val (.int i0), .val (.int i1), .val (.int i2), .val (.int (Int32.ofNat u)), .val (.int (Int32.ofNat kq)), .val (.int (Int32.ofNat v)), .val (.int (Int32.ofNat w1)), .val (.int (Int32.ofNat w2)), .val (.int (0 : Int32)), .val (.int (Int32.ofNat f9)), .val (.int (Int32.ofNat t1)), .val (.int (0 : Int32)), .val (.int (Int32.ofNat f12)), .val (.int (Int32.ofNat t2)), .val (.int (Int32.ofNat f14)), .val (.int (1 : Int32)), .val (.ref o1), .val (.int (1 : Int32)), .val (.int (0 : Int32)), .val (.int (1 : Int32)), .val (.int (0 : Int32)), .val (.int (0 : Int32))] [(.int (0 : Int32))]))
                      refine s_iload B X5 (pc' := 404) at_402 rfl rfl ?_
                      refine s_icmpN B X5 (pc' := 407) at_404 (by decide) rfl ?_
                      refine s_aload B X5 (pc' := 409) at_407 rfl rfl rfl ?_
                      refine s_iloadN B X5 (pc' := 410) at_409 rfl rfl ?_
                      refine p_virtual B X5 (y := mn9) (pc' := 413) (argsL := [(.int (Int32.ofNat u))]) (under := []) (W := 0) e5 (tw67 hw) (tw68 hw) (tw70 hw) (tw69 hw) (tw71 hw) (tw3 hw) (by decide) (rm_count l Z a0 hw o1 w_NO_UNITS 0 (fun _ => 0) 4 (fun _ => Bn) C u Tj310.heap Aj310 hu4 0 (hE5.trans (by decide))) Aj310.exa (lenOf pd_6 rfl) rfl rfl (by decide) (by decide) rfl rfl (show ce ≤ 32 by omega) (show sl ≤ 192 by omega) rfl at_410 rfl (fun T6 X6 e6 => ?_)
                      show Go p e below _ (T6.setTop (mkF m 413 #[.val (.int i0), .val (.int i1), .val (.int i2), .val (.int (Int32.ofNat u)), .val (.int (Int32.ofNat kq)), .val (.int (Int32.ofNat v)), .val (.int (Int32.ofNat w1)), .val (.int (Int32.ofNat w2)), .val (.int (0 : Int32)), .val (.int (Int32.ofNat f9)), .val (.int (Int32.ofNat t1)), .val (.int (0 : Int32)), .val (.int (Int32.ofNat f12)), .val (.int (Int32.ofNat t2)), .val (.int (Int32.ofNat f14)), .val (.int (1 : Int32)), .val (.ref o1), .val (.int (1 : Int32)), .val (.int (0 : Int32)), .val (.int (1 : Int32)), .val (.int (0 : Int32)), .val (.int (0 : Int32))] [(.int (0 : Int32))]))
                      refine s_iload B X6 (pc' := 415) at_413 rfl rfl ?_
                      refine s_icmpN B X6 (pc' := 418) at_415 (by decide) rfl ?_
                      refine s_aload B X6 (pc' := 420) at_418 rfl rfl rfl ?_
                      refine s_iload B X6 (pc' := 422) at_420 rfl rfl ?_
                      refine p_virtual B X6 (y := mn9) (pc' := 425) (argsL := [(.int (Int32.ofNat v))]) (under := []) (W := 0) e6 (tw67 hw) (tw68 hw) (tw70 hw) (tw69 hw) (tw71 hw) (tw3 hw) (by decide) (rm_count l Z a0 hw o1 w_NO_UNITS 0 (fun _ => 0) 4 (fun _ => Bn) C v Tj310.heap Aj310 hv4 0 (hE6.trans (by decide))) Aj310.exa (lenOf pd_6 rfl) rfl rfl (by decide) (by decide) rfl rfl (show ce ≤ 32 by omega) (show sl ≤ 192 by omega) rfl at_422 rfl (fun T7 X7 e7 => ?_)
                      show Go p e below _ (T7.setTop (mkF m 425 #[.val (.int i0), .val (.int i1), .val (.int i2), .val (.int (Int32.ofNat u)), .val (.int (Int32.ofNat kq)), .val (.int (Int32.ofNat v)), .val (.int (Int32.ofNat w1)), .val (.int (Int32.ofNat w2)), .val (.int (0 : Int32)), .val (.int (Int32.ofNat f9)), .val (.int (Int32.ofNat t1)), .val (.int (0 : Int32)), .val (.int (Int32.ofNat f12)), .val (.int (Int32.ofNat t2)), .val (.int (Int32.ofNat f14)), .val (.int (1 : Int32)), .val (.ref o1), .val (.int (1 : Int32)), .val (.int (0 : Int32)), .val (.int (1 : Int32)), .val (.int (0 : Int32)), .val (.int (0 : Int32))] [(.int (0 : Int32))]))
                      refine s_iload B X7 (pc' := 427) at_425 rfl rfl ?_
                      refine s_icmpN B X7 (pc' := 430) at_427 (by decide) rfl ?_
                      refine s_aload B X7 (pc' := 432) at_430 rfl rfl rfl ?_
                      refine s_iloadN B X7 (pc' := 433) at_432 rfl rfl ?_
                      refine s_iload B X7 (pc' := 435) at_433 rfl rfl ?_
                      refine p_virtual B X7 (y := mn8) (pc' := 438) (argsL := [(.int (Int32.ofNat u)), (.int (Int32.ofNat t1))]) (under := []) (W := 0) e7 (tw62 hw) (tw63 hw) (tw65 hw) (tw64 hw) (tw66 hw) (tw3 hw) (by decide) (rm_edges l Z a0 hw o1 w_NO_UNITS 0 (fun _ => 0) 4 (fun _ => Bn) C u t1 Tj310.heap Aj310 hu4 (Nat.lt_trans t14 (by decide)) hBn 0 hE3) Aj310.exa (lenOf pd_0 rfl) rfl rfl (by decide) (by decide) rfl rfl (show ce ≤ 32 by omega) (show sl ≤ 192 by omega) rfl at_435 rfl (fun T8 X8 e8 => ?_)
                      show Go p e below _ (T8.setTop (mkF m 438 #[.val (.int i0), .val (.int i1), .val (.int i2), .val (.int (Int32.ofNat u)), .val (.int (Int32.ofNat kq)), .val (.int (Int32.ofNat v)), .val (.int (Int32.ofNat w1)), .val (.int (Int32.ofNat w2)), .val (.int (0 : Int32)), .val (.int (Int32.ofNat f9)), .val (.int (Int32.ofNat t1)), .val (.int (0 : Int32)), .val (.int (Int32.ofNat f12)), .val (.int (Int32.ofNat t2)), .val (.int (Int32.ofNat f14)), .val (.int (1 : Int32)), .val (.ref o1), .val (.int (1 : Int32)), .val (.int (0 : Int32)), .val (.int (1 : Int32)), .val (.int (0 : Int32)), .val (.int (0 : Int32))] [(.int (0 : Int32))]))
                      refine s_iload B X8 (pc' := 440) at_438 rfl rfl ?_
                      refine s_ifY B X8 (pc' := 447) at_440 (by decide) (by decide) (by decide) ?_
                      refine s_iconst B X8 (pc' := 448) (v := (0 : Int32)) at_447 rfl rfl ?_
                      refine s_icmpN B X8 (pc' := 451) at_448 (by decide) rfl ?_
                      refine s_aload B X8 (pc' := 453) at_451 rfl rfl rfl ?_
                      refine s_iload B X8 (pc' := 455) at_453 rfl rfl ?_
                      refine s_iload B X8 (pc' := 457) at_455 rfl rfl ?_
                      refine p_virtual B X8 (y := mn8) (pc' := 460) (argsL := [(.int (Int32.ofNat v)), (.int (Int32.ofNat t2))]) (under := []) (W := 0) e8 (tw62 hw) (tw63 hw) (tw65 hw) (tw64 hw) (tw66 hw) (tw3 hw) (by decide) (rm_edges l Z a0 hw o1 w_NO_UNITS 0 (fun _ => 0) 4 (fun _ => Bn) C v t2 Tj310.heap Aj310 hv4 (Nat.lt_trans t24 (by decide)) hBn 0 hE4) Aj310.exa (lenOf pd_0 rfl) rfl rfl (by decide) (by decide) rfl rfl (show ce ≤ 32 by omega) (show sl ≤ 192 by omega) rfl at_457 rfl (fun T9 X9 e9 => ?_)
                      show Go p e below _ (T9.setTop (mkF m 460 #[.val (.int i0), .val (.int i1), .val (.int i2), .val (.int (Int32.ofNat u)), .val (.int (Int32.ofNat kq)), .val (.int (Int32.ofNat v)), .val (.int (Int32.ofNat w1)), .val (.int (Int32.ofNat w2)), .val (.int (0 : Int32)), .val (.int (Int32.ofNat f9)), .val (.int (Int32.ofNat t1)), .val (.int (0 : Int32)), .val (.int (Int32.ofNat f12)), .val (.int (Int32.ofNat t2)), .val (.int (Int32.ofNat f14)), .val (.int (1 : Int32)), .val (.ref o1), .val (.int (1 : Int32)), .val (.int (0 : Int32)), .val (.int (1 : Int32)), .val (.int (0 : Int32)), .val (.int (0 : Int32))] [(.int (0 : Int32))]))
                      refine s_iload B X9 (pc' := 462) at_460 rfl rfl ?_
                      refine s_ifY B X9 (pc' := 469) at_462 (by decide) (by decide) (by decide) ?_
                      refine s_iconst B X9 (pc' := 470) (v := (0 : Int32)) at_469 rfl rfl ?_
                      refine s_icmpN B X9 (pc' := 473) at_470 (by decide) rfl ?_
                      refine s_iconst B X9 (pc' := 474) (v := (1 : Int32)) at_473 rfl rfl ?_
                      refine s_goto B X9 (pc' := 478) at_474 (by decide) (by decide) ?_
                      exact r_nar B X9 (t := .boolean) (by simp) rfl at_478 ⟨rfl, Nj310⟩ (show ce ≤ 32 by omega) (show sl ≤ 192 by omega)
                    · obtain rfl := hr0 (by decide)
                      show Go p e below _ (Tj310.setTop (mkF m 310 #[.val (.int i0), .val (.int i1), .val (.int i2), .val (.int (Int32.ofNat u)), .val (.int (Int32.ofNat kq)), .val (.int (Int32.ofNat v)), .val (.int (Int32.ofNat w1)), .val (.int (Int32.ofNat w2)), .val (.int (0 : Int32)), .val (.int (Int32.ofNat f9)), .val (.int (Int32.ofNat t1)), .val (.int (0 : Int32)), .val (.int (Int32.ofNat f12)), .val (.int (Int32.ofNat t2)), .val (.int (Int32.ofNat f14)), .val (.int (2 : Int32)), .val (.ref o1), .unset, .unset, .unset, .unset, .unset] [(.int (0 : Int32))]))
                      refine s_istore B Xj310 (pc' := 312) (Ls' := #[.val (.int i0), .val (.int i1), .val (.int i2), .val (.int (Int32.ofNat u)), .val (.int (Int32.ofNat kq)), .val (.int (Int32.ofNat v)), .val (.int (Int32.ofNat w1)), .val (.int (Int32.ofNat w2)), .val (.int (0 : Int32)), .val (.int (Int32.ofNat f9)), .val (.int (Int32.ofNat t1)), .val (.int (0 : Int32)), .val (.int (Int32.ofNat f12)), .val (.int (Int32.ofNat t2)), .val (.int (Int32.ofNat f14)), .val (.int (2 : Int32)), .val (.ref o1), .val (.int (0 : Int32)), .unset, .unset, .unset, .unset]) at_310 rfl rfl ?_
                      refine s_iload B Xj310 (pc' := 314) at_312 rfl rfl ?_
                      refine s_iconst B Xj310 (pc' := 315) (v := (1 : Int32)) at_314 rfl rfl ?_
                      refine s_isub B Xj310 (pc' := 316) (v := (1 : Int32)) at_315 rfl rfl ?_
                      refine s_istore B Xj310 (pc' := 318) (Ls' := #[.val (.int i0), .val (.int i1), .val (.int i2), .val (.int (Int32.ofNat u)), .val (.int (Int32.ofNat kq)), .val (.int (Int32.ofNat v)), .val (.int (Int32.ofNat w1)), .val (.int (Int32.ofNat w2)), .val (.int (0 : Int32)), .val (.int (Int32.ofNat f9)), .val (.int (Int32.ofNat t1)), .val (.int (0 : Int32)), .val (.int (Int32.ofNat f12)), .val (.int (Int32.ofNat t2)), .val (.int (Int32.ofNat f14)), .val (.int (2 : Int32)), .val (.ref o1), .val (.int (0 : Int32)), .val (.int (1 : Int32)), .unset, .unset, .unset]) at_316 rfl rfl ?_
                      refine s_iload B Xj310 (pc' := 320) at_318 rfl rfl ?_
                      refine s_iconst B Xj310 (pc' := 321) (v := (1 : Int32)) at_320 rfl rfl ?_
                      refine s_icmpY B Xj310 (pc' := 328) at_321 (by decide) (by decide) (by decide) ?_
                      refine s_iconst B Xj310 (pc' := 329) (v := (0 : Int32)) at_328 rfl rfl ?_
                      refine s_istore B Xj310 (pc' := 331) (Ls' := #[.val (.int i0), .val (.int i1), .val (.int i2), .val (.int (Int32.ofNat u)), .val (.int (Int32.ofNat kq)), .val (.int (Int32.ofNat v)), .val (.int (Int32.ofNat w1)), .val (.int (Int32.ofNat w2)), .val (.int (0 : Int32)), .val (.int (Int32.ofNat f9)), .val (.int (Int32.ofNat t1)), .val (.int (0 : Int32)), .val (.int (Int32.ofNat f12)), .val (.int (Int32.ofNat t2)), .val (.int (Int32.ofNat f14)), .val (.int (2 : Int32)), .val (.ref o1), .val (.int (0 : Int32)), .val (.int (1 : Int32)), .val (.int (0 : Int32)), .unset, .unset]) at_329 rfl rfl ?_
                      refine s_iconst B Xj310 (pc' := 332) (v := (1 : Int32)) at_331 rfl rfl ?_
                      refine s_iload B Xj310 (pc' := 334) at_332 rfl rfl ?_
                      refine s_ifY B Xj310 (pc' := 341) at_334 (by decide) (by decide) (by decide) ?_
                      refine s_iconst B Xj310 (pc' := 342) (v := (0 : Int32)) at_341 rfl rfl ?_
                      refine s_iadd B Xj310 (pc' := 343) (v := (1 : Int32)) at_342 rfl rfl ?_
                      refine s_iload B Xj310 (pc' := 345) at_343 rfl rfl ?_
                      refine s_isub B Xj310 (pc' := 346) (v := (1 : Int32)) at_345 rfl rfl ?_
                      refine s_istore B Xj310 (pc' := 348) (Ls' := #[.val (.int i0), .val (.int i1), .val (.int i2), .val (.int (Int32.ofNat u)), .val (.int (Int32.ofNat kq)), .val (.int (Int32.ofNat v)), .val (.int (Int32.ofNat w1)), .val (.int (Int32.ofNat w2)), .val (.int (0 : Int32)), .val (.int (Int32.ofNat f9)), .val (.int (Int32.ofNat t1)), .val (.int (0 : Int32)), .val (.int (Int32.ofNat f12)), .val (.int (Int32.ofNat t2)), .val (.int (Int32.ofNat f14)), .val (.int (2 : Int32)), .val (.ref o1), .val (.int (0 : Int32)), .val (.int (1 : Int32)), .val (.int (0 : Int32)), .val (.int (1 : Int32)), .unset]) at_346 rfl rfl ?_
                      refine s_iconst B Xj310 (pc' := 349) (v := (1 : Int32)) at_348 rfl rfl ?_
                      refine s_iload B Xj310 (pc' := 351) at_349 rfl rfl ?_
                      refine s_ifY B Xj310 (pc' := 358) at_351 (by decide) (by decide) (by decide) ?_
                      refine s_iconst B Xj310 (pc' := 359) (v := (0 : Int32)) at_358 rfl rfl ?_
                      refine s_iadd B Xj310 (pc' := 360) (v := (1 : Int32)) at_359 rfl rfl ?_
                      refine s_iload B Xj310 (pc' := 362) at_360 rfl rfl ?_
                      refine s_isub B Xj310 (pc' := 363) (v := (1 : Int32)) at_362 rfl rfl ?_
                      refine s_istore B Xj310 (pc' := 365) (Ls' := #[.val (.int i0), .val (.int i1), .val (.int i2), .val (.int (Int32.ofNat u)), .val (.int (Int32.ofNat kq)), .val (.int (Int32.ofNat v)), .val (.int (Int32.ofNat w1)), .val (.int (Int32.ofNat w2)), .val (.int (0 : Int32)), .val (.int (Int32.ofNat f9)), .val (.int (Int32.ofNat t1)), .val (.int (0 : Int32)), .val (.int (Int32.ofNat f12)), .val (.int (Int32.ofNat t2)), .val (.int (Int32.ofNat f14)), .val (.int (2 : Int32)), .val (.ref o1), .val (.int (0 : Int32)), .val (.int (1 : Int32)), .val (.int (0 : Int32)), .val (.int (1 : Int32)), .val (.int (1 : Int32))]) at_363 rfl rfl ?_
                      refine s_iload B Xj310 (pc' := 367) at_365 rfl rfl ?_
                      refine s_iload B Xj310 (pc' := 369) at_367 rfl rfl ?_
                      refine s_iconst B Xj310 (pc' := 370) (v := (1 : Int32)) at_369 rfl rfl ?_
                      refine s_icmpY B Xj310 (pc' := 377) at_370 (by decide) (by decide) (by decide) ?_
                      refine s_iconst B Xj310 (pc' := 378) (v := (0 : Int32)) at_377 rfl rfl ?_
                      refine s_icmpN B Xj310 (pc' := 381) at_378 (by decide) rfl ?_
                      refine s_aload B Xj310 (pc' := 383) at_381 rfl rfl rfl ?_
                      refine s_iloadN B Xj310 (pc' := 384) at_383 rfl rfl ?_
                      refine s_iload B Xj310 (pc' := 386) at_384 rfl rfl ?_
                      refine p_virtual B Xj310 (y := mn8) (pc' := 389) (argsL := [(.int (Int32.ofNat u)), (.int (Int32.ofNat v))]) (under := []) (W := 0) rfl (tw62 hw) (tw63 hw) (tw65 hw) (tw64 hw) (tw66 hw) (tw3 hw) (by decide) (rm_edges l Z a0 hw o1 w_NO_UNITS 0 (fun _ => 0) 4 (fun _ => Bn) C u v Tj310.heap Aj310 hu4 (Nat.lt_trans hv4 (by decide)) hBn 1 (hE1.trans (by decide))) Aj310.exa (lenOf pd_0 rfl) rfl rfl (by decide) (by decide) rfl rfl (show ce ≤ 32 by omega) (show sl ≤ 192 by omega) rfl at_386 rfl (fun T10 X10 e10 => ?_)
                      show Go p e below _ (T10.setTop (mkF m 389 #[.val (.int i0), .val (.int i1), .val (.int i2), .val (.int (Int32.ofNat u)), .val (.int (Int32.ofNat kq)), .val (.int (Int32.ofNat v)), .val (.int (Int32.ofNat w1)), .val (.int (Int32.ofNat w2)), .val (.int (0 : Int32)), .val (.int (Int32.ofNat f9)), .val (.int (Int32.ofNat t1)), .val (.int (0 : Int32)), .val (.int (Int32.ofNat f12)), .val (.int (Int32.ofNat t2)), .val (.int (Int32.ofNat f14)), .val (.int (2 : Int32)), .val (.ref o1), .val (.int (0 : Int32)), .val (.int (1 : Int32)), .val (.int (0 : Int32)), .val (.int (1 : Int32)), .val (.int (1 : Int32))] [(.int (1 : Int32))]))
                      refine s_iload B X10 (pc' := 391) at_389 rfl rfl ?_
                      refine s_icmpN B X10 (pc' := 394) at_391 (by decide) rfl ?_
                      refine s_aload B X10 (pc' := 396) at_394 rfl rfl rfl ?_
                      refine s_iload B X10 (pc' := 398) at_396 rfl rfl ?_
                      refine s_iloadN B X10 (pc' := 399) at_398 rfl rfl ?_
                      refine p_virtual B X10 (y := mn8) (pc' := 402) (argsL := [(.int (Int32.ofNat v)), (.int (Int32.ofNat u))]) (under := []) (W := 0) e10 (tw62 hw) (tw63 hw) (tw65 hw) (tw64 hw) (tw66 hw) (tw3 hw) (by decide) (rm_edges l Z a0 hw o1 w_NO_UNITS 0 (fun _ => 0) 4 (fun _ => Bn) C v u Tj310.heap Aj310 hv4 (Nat.lt_trans hu4 (by decide)) hBn 1 (hE2.trans (by decide))) Aj310.exa (lenOf pd_0 rfl) rfl rfl (by decide) (by decide) rfl rfl (show ce ≤ 32 by omega) (show sl ≤ 192 by omega) rfl at_399 rfl (fun T11 X11 e11 => ?_)
                      show Go p e below _ (T11.setTop (mkF m 402 #[.val (.int i0), .val (.int i1), .val (.int i2), .val (.int (Int32.ofNat u)), .val (.int (Int32.ofNat kq)), .val (.int (Int32.ofNat v)), .val (.int (Int32.ofNat w1)), .val (.int (Int32.ofNat w2)), .val (.int (0 : Int32)), .val (.int (Int32.ofNat f9)), .val (.int (Int32.ofNat t1)), .val (.int (0 : Int32)), .val (.int (Int32.ofNat f12)), .val (.int (Int32.ofNat t2)), .val (.int (Int32.ofNat f14)), .val (.int (2 : Int32)), .val (.ref o1), .val (.int (0 : Int32)), .val (.int (1 : Int32)), .val (.int (0 : Int32)), .val (.int (1 : Int32)), .val (.int (1 : Int32))] [(.int (1 : Int32))]))
                      refine s_iload B X11 (pc' := 404) at_402 rfl rfl ?_
                      refine s_icmpN B X11 (pc' := 407) at_404 (by decide) rfl ?_
                      refine s_aload B X11 (pc' := 409) at_407 rfl rfl rfl ?_
                      refine s_iloadN B X11 (pc' := 410) at_409 rfl rfl ?_
                      refine p_virtual B X11 (y := mn9) (pc' := 413) (argsL := [(.int (Int32.ofNat u))]) (under := []) (W := 0) e11 (tw67 hw) (tw68 hw) (tw70 hw) (tw69 hw) (tw71 hw) (tw3 hw) (by decide) (rm_count l Z a0 hw o1 w_NO_UNITS 0 (fun _ => 0) 4 (fun _ => Bn) C u Tj310.heap Aj310 hu4 1 (hE5.trans (by decide))) Aj310.exa (lenOf pd_6 rfl) rfl rfl (by decide) (by decide) rfl rfl (show ce ≤ 32 by omega) (show sl ≤ 192 by omega) rfl at_410 rfl (fun T12 X12 e12 => ?_)
                      show Go p e below _ (T12.setTop (mkF m 413 #[.val (.int i0), .val (.int i1), .val (.int i2), .val (.int (Int32.ofNat u)), .val (.int (Int32.ofNat kq)), .val (.int (Int32.ofNat v)), .val (.int (Int32.ofNat w1)), .val (.int (Int32.ofNat w2)), .val (.int (0 : Int32)), .val (.int (Int32.ofNat f9)), .val (.int (Int32.ofNat t1)), .val (.int (0 : Int32)), .val (.int (Int32.ofNat f12)), .val (.int (Int32.ofNat t2)), .val (.int (Int32.ofNat f14)), .val (.int (2 : Int32)), .val (.ref o1), .val (.int (0 : Int32)), .val (.int (1 : Int32)), .val (.int (0 : Int32)), .val (.int (1 : Int32)), .val (.int (1 : Int32))] [(.int (1 : Int32))]))
                      refine s_iload B X12 (pc' := 415) at_413 rfl rfl ?_
                      refine s_icmpN B X12 (pc' := 418) at_415 (by decide) rfl ?_
                      refine s_aload B X12 (pc' := 420) at_418 rfl rfl rfl ?_
                      refine s_iload B X12 (pc' := 422) at_420 rfl rfl ?_
                      refine p_virtual B X12 (y := mn9) (pc' := 425) (argsL := [(.int (Int32.ofNat v))]) (under := []) (W := 0) e12 (tw67 hw) (tw68 hw) (tw70 hw) (tw69 hw) (tw71 hw) (tw3 hw) (by decide) (rm_count l Z a0 hw o1 w_NO_UNITS 0 (fun _ => 0) 4 (fun _ => Bn) C v Tj310.heap Aj310 hv4 1 (hE6.trans (by decide))) Aj310.exa (lenOf pd_6 rfl) rfl rfl (by decide) (by decide) rfl rfl (show ce ≤ 32 by omega) (show sl ≤ 192 by omega) rfl at_422 rfl (fun T13 X13 e13 => ?_)
                      show Go p e below _ (T13.setTop (mkF m 425 #[.val (.int i0), .val (.int i1), .val (.int i2), .val (.int (Int32.ofNat u)), .val (.int (Int32.ofNat kq)), .val (.int (Int32.ofNat v)), .val (.int (Int32.ofNat w1)), .val (.int (Int32.ofNat w2)), .val (.int (0 : Int32)), .val (.int (Int32.ofNat f9)), .val (.int (Int32.ofNat t1)), .val (.int (0 : Int32)), .val (.int (Int32.ofNat f12)), .val (.int (Int32.ofNat t2)), .val (.int (Int32.ofNat f14)), .val (.int (2 : Int32)), .val (.ref o1), .val (.int (0 : Int32)), .val (.int (1 : Int32)), .val (.int (0 : Int32)), .val (.int (1 : Int32)), .val (.int (1 : Int32))] [(.int (1 : Int32))]))
                      refine s_iload B X13 (pc' := 427) at_425 rfl rfl ?_
                      refine s_icmpN B X13 (pc' := 430) at_427 (by decide) rfl ?_
                      refine s_aload B X13 (pc' := 432) at_430 rfl rfl rfl ?_
                      refine s_iloadN B X13 (pc' := 433) at_432 rfl rfl ?_
                      refine s_iload B X13 (pc' := 435) at_433 rfl rfl ?_
                      refine p_virtual B X13 (y := mn8) (pc' := 438) (argsL := [(.int (Int32.ofNat u)), (.int (Int32.ofNat t1))]) (under := []) (W := 0) e13 (tw62 hw) (tw63 hw) (tw65 hw) (tw64 hw) (tw66 hw) (tw3 hw) (by decide) (rm_edges l Z a0 hw o1 w_NO_UNITS 0 (fun _ => 0) 4 (fun _ => Bn) C u t1 Tj310.heap Aj310 hu4 (Nat.lt_trans t14 (by decide)) hBn 0 hE3) Aj310.exa (lenOf pd_0 rfl) rfl rfl (by decide) (by decide) rfl rfl (show ce ≤ 32 by omega) (show sl ≤ 192 by omega) rfl at_435 rfl (fun T14 X14 e14 => ?_)
                      show Go p e below _ (T14.setTop (mkF m 438 #[.val (.int i0), .val (.int i1), .val (.int i2), .val (.int (Int32.ofNat u)), .val (.int (Int32.ofNat kq)), .val (.int (Int32.ofNat v)), .val (.int (Int32.ofNat w1)), .val (.int (Int32.ofNat w2)), .val (.int (0 : Int32)), .val (.int (Int32.ofNat f9)), .val (.int (Int32.ofNat t1)), .val (.int (0 : Int32)), .val (.int (Int32.ofNat f12)), .val (.int (Int32.ofNat t2)), .val (.int (Int32.ofNat f14)), .val (.int (2 : Int32)), .val (.ref o1), .val (.int (0 : Int32)), .val (.int (1 : Int32)), .val (.int (0 : Int32)), .val (.int (1 : Int32)), .val (.int (1 : Int32))] [(.int (0 : Int32))]))
                      refine s_iload B X14 (pc' := 440) at_438 rfl rfl ?_
                      refine s_ifY B X14 (pc' := 447) at_440 (by decide) (by decide) (by decide) ?_
                      refine s_iconst B X14 (pc' := 448) (v := (0 : Int32)) at_447 rfl rfl ?_
                      refine s_icmpN B X14 (pc' := 451) at_448 (by decide) rfl ?_
                      refine s_aload B X14 (pc' := 453) at_451 rfl rfl rfl ?_
                      refine s_iload B X14 (pc' := 455) at_453 rfl rfl ?_
                      refine s_iload B X14 (pc' := 457) at_455 rfl rfl ?_
                      refine p_virtual B X14 (y := mn8) (pc' := 460) (argsL := [(.int (Int32.ofNat v)), (.int (Int32.ofNat t2))]) (under := []) (W := 0) e14 (tw62 hw) (tw63 hw) (tw65 hw) (tw64 hw) (tw66 hw) (tw3 hw) (by decide) (rm_edges l Z a0 hw o1 w_NO_UNITS 0 (fun _ => 0) 4 (fun _ => Bn) C v t2 Tj310.heap Aj310 hv4 (Nat.lt_trans t24 (by decide)) hBn 0 hE4) Aj310.exa (lenOf pd_0 rfl) rfl rfl (by decide) (by decide) rfl rfl (show ce ≤ 32 by omega) (show sl ≤ 192 by omega) rfl at_457 rfl (fun T15 X15 e15 => ?_)
                      show Go p e below _ (T15.setTop (mkF m 460 #[.val (.int i0), .val (.int i1), .val (.int i2), .val (.int (Int32.ofNat u)), .val (.int (Int32.ofNat kq)), .val (.int (Int32.ofNat v)), .val (.int (Int32.ofNat w1)), .val (.int (Int32.ofNat w2)), .val (.int (0 : Int32)), .val (.int (Int32.ofNat f9)), .val (.int (Int32.ofNat t1)), .val (.int (0 : Int32)), .val (.int (Int32.ofNat f12)), .val (.int (Int32.ofNat t2)), .val (.int (Int32.ofNat f14)), .val (.int (2 : Int32)), .val (.ref o1), .val (.int (0 : Int32)), .val (.int (1 : Int32)), .val (.int (0 : Int32)), .val (.int (1 : Int32)), .val (.int (1 : Int32))] [(.int (0 : Int32))]))
                      refine s_iload B X15 (pc' := 462) at_460 rfl rfl ?_
                      refine s_ifY B X15 (pc' := 469) at_462 (by decide) (by decide) (by decide) ?_
                      refine s_iconst B X15 (pc' := 470) (v := (0 : Int32)) at_469 rfl rfl ?_
                      refine s_icmpN B X15 (pc' := 473) at_470 (by decide) rfl ?_
                      refine s_iconst B X15 (pc' := 474) (v := (1 : Int32)) at_473 rfl rfl ?_
                      refine s_goto B X15 (pc' := 478) at_474 (by decide) (by decide) ?_
                      exact r_nar B X15 (t := .boolean) (by simp) rfl at_478 ⟨rfl, Nj310⟩ (show ce ≤ 32 by omega) (show sl ≤ 192 by omega)
                    · obtain rfl := hr0 (by decide)
                      show Go p e below _ (Tj310.setTop (mkF m 310 #[.val (.int i0), .val (.int i1), .val (.int i2), .val (.int (Int32.ofNat u)), .val (.int (Int32.ofNat kq)), .val (.int (Int32.ofNat v)), .val (.int (Int32.ofNat w1)), .val (.int (Int32.ofNat w2)), .val (.int (0 : Int32)), .val (.int (Int32.ofNat f9)), .val (.int (Int32.ofNat t1)), .val (.int (0 : Int32)), .val (.int (Int32.ofNat f12)), .val (.int (Int32.ofNat t2)), .val (.int (Int32.ofNat f14)), .val (.int (3 : Int32)), .val (.ref o1), .unset, .unset, .unset, .unset, .unset] [(.int (0 : Int32))]))
                      refine s_istore B Xj310 (pc' := 312) (Ls' := #[.val (.int i0), .val (.int i1), .val (.int i2), .val (.int (Int32.ofNat u)), .val (.int (Int32.ofNat kq)), .val (.int (Int32.ofNat v)), .val (.int (Int32.ofNat w1)), .val (.int (Int32.ofNat w2)), .val (.int (0 : Int32)), .val (.int (Int32.ofNat f9)), .val (.int (Int32.ofNat t1)), .val (.int (0 : Int32)), .val (.int (Int32.ofNat f12)), .val (.int (Int32.ofNat t2)), .val (.int (Int32.ofNat f14)), .val (.int (3 : Int32)), .val (.ref o1), .val (.int (0 : Int32)), .unset, .unset, .unset, .unset]) at_310 rfl rfl ?_
                      refine s_iload B Xj310 (pc' := 314) at_312 rfl rfl ?_
                      refine s_iconst B Xj310 (pc' := 315) (v := (1 : Int32)) at_314 rfl rfl ?_
                      refine s_isub B Xj310 (pc' := 316) (v := (2 : Int32)) at_315 rfl rfl ?_
                      refine s_istore B Xj310 (pc' := 318) (Ls' := #[.val (.int i0), .val (.int i1), .val (.int i2), .val (.int (Int32.ofNat u)), .val (.int (Int32.ofNat kq)), .val (.int (Int32.ofNat v)), .val (.int (Int32.ofNat w1)), .val (.int (Int32.ofNat w2)), .val (.int (0 : Int32)), .val (.int (Int32.ofNat f9)), .val (.int (Int32.ofNat t1)), .val (.int (0 : Int32)), .val (.int (Int32.ofNat f12)), .val (.int (Int32.ofNat t2)), .val (.int (Int32.ofNat f14)), .val (.int (3 : Int32)), .val (.ref o1), .val (.int (0 : Int32)), .val (.int (2 : Int32)), .unset, .unset, .unset]) at_316 rfl rfl ?_
                      refine s_iload B Xj310 (pc' := 320) at_318 rfl rfl ?_
                      refine s_iconst B Xj310 (pc' := 321) (v := (1 : Int32)) at_320 rfl rfl ?_
                      refine s_icmpY B Xj310 (pc' := 328) at_321 (by decide) (by decide) (by decide) ?_
                      refine s_iconst B Xj310 (pc' := 329) (v := (0 : Int32)) at_328 rfl rfl ?_
                      refine s_istore B Xj310 (pc' := 331) (Ls' := #[.val (.int i0), .val (.int i1), .val (.int i2), .val (.int (Int32.ofNat u)), .val (.int (Int32.ofNat kq)), .val (.int (Int32.ofNat v)), .val (.int (Int32.ofNat w1)), .val (.int (Int32.ofNat w2)), .val (.int (0 : Int32)), .val (.int (Int32.ofNat f9)), .val (.int (Int32.ofNat t1)), .val (.int (0 : Int32)), .val (.int (Int32.ofNat f12)), .val (.int (Int32.ofNat t2)), .val (.int (Int32.ofNat f14)), .val (.int (3 : Int32)), .val (.ref o1), .val (.int (0 : Int32)), .val (.int (2 : Int32)), .val (.int (0 : Int32)), .unset, .unset]) at_329 rfl rfl ?_
                      refine s_iconst B Xj310 (pc' := 332) (v := (1 : Int32)) at_331 rfl rfl ?_
                      refine s_iload B Xj310 (pc' := 334) at_332 rfl rfl ?_
                      refine s_ifY B Xj310 (pc' := 341) at_334 (by decide) (by decide) (by decide) ?_
                      refine s_iconst B Xj310 (pc' := 342) (v := (0 : Int32)) at_341 rfl rfl ?_
                      refine s_iadd B Xj310 (pc' := 343) (v := (1 : Int32)) at_342 rfl rfl ?_
                      refine s_iload B Xj310 (pc' := 345) at_343 rfl rfl ?_
                      refine s_isub B Xj310 (pc' := 346) (v := (1 : Int32)) at_345 rfl rfl ?_
                      refine s_istore B Xj310 (pc' := 348) (Ls' := #[.val (.int i0), .val (.int i1), .val (.int i2), .val (.int (Int32.ofNat u)), .val (.int (Int32.ofNat kq)), .val (.int (Int32.ofNat v)), .val (.int (Int32.ofNat w1)), .val (.int (Int32.ofNat w2)), .val (.int (0 : Int32)), .val (.int (Int32.ofNat f9)), .val (.int (Int32.ofNat t1)), .val (.int (0 : Int32)), .val (.int (Int32.ofNat f12)), .val (.int (Int32.ofNat t2)), .val (.int (Int32.ofNat f14)), .val (.int (3 : Int32)), .val (.ref o1), .val (.int (0 : Int32)), .val (.int (2 : Int32)), .val (.int (0 : Int32)), .val (.int (1 : Int32)), .unset]) at_346 rfl rfl ?_
                      refine s_iconst B Xj310 (pc' := 349) (v := (1 : Int32)) at_348 rfl rfl ?_
                      refine s_iload B Xj310 (pc' := 351) at_349 rfl rfl ?_
                      refine s_ifY B Xj310 (pc' := 358) at_351 (by decide) (by decide) (by decide) ?_
                      refine s_iconst B Xj310 (pc' := 359) (v := (0 : Int32)) at_358 rfl rfl ?_
                      refine s_iadd B Xj310 (pc' := 360) (v := (1 : Int32)) at_359 rfl rfl ?_
                      refine s_iload B Xj310 (pc' := 362) at_360 rfl rfl ?_
                      refine s_isub B Xj310 (pc' := 363) (v := (1 : Int32)) at_362 rfl rfl ?_
                      refine s_istore B Xj310 (pc' := 365) (Ls' := #[.val (.int i0), .val (.int i1), .val (.int i2), .val (.int (Int32.ofNat u)), .val (.int (Int32.ofNat kq)), .val (.int (Int32.ofNat v)), .val (.int (Int32.ofNat w1)), .val (.int (Int32.ofNat w2)), .val (.int (0 : Int32)), .val (.int (Int32.ofNat f9)), .val (.int (Int32.ofNat t1)), .val (.int (0 : Int32)), .val (.int (Int32.ofNat f12)), .val (.int (Int32.ofNat t2)), .val (.int (Int32.ofNat f14)), .val (.int (3 : Int32)), .val (.ref o1), .val (.int (0 : Int32)), .val (.int (2 : Int32)), .val (.int (0 : Int32)), .val (.int (1 : Int32)), .val (.int (1 : Int32))]) at_363 rfl rfl ?_
                      refine s_iload B Xj310 (pc' := 367) at_365 rfl rfl ?_
                      refine s_iload B Xj310 (pc' := 369) at_367 rfl rfl ?_
                      refine s_iconst B Xj310 (pc' := 370) (v := (1 : Int32)) at_369 rfl rfl ?_
                      refine s_icmpY B Xj310 (pc' := 377) at_370 (by decide) (by decide) (by decide) ?_
                      refine s_iconst B Xj310 (pc' := 378) (v := (0 : Int32)) at_377 rfl rfl ?_
                      refine s_icmpN B Xj310 (pc' := 381) at_378 (by decide) rfl ?_
                      refine s_aload B Xj310 (pc' := 383) at_381 rfl rfl rfl ?_
                      refine s_iloadN B Xj310 (pc' := 384) at_383 rfl rfl ?_
                      refine s_iload B Xj310 (pc' := 386) at_384 rfl rfl ?_
                      refine p_virtual B Xj310 (y := mn8) (pc' := 389) (argsL := [(.int (Int32.ofNat u)), (.int (Int32.ofNat v))]) (under := []) (W := 0) rfl (tw62 hw) (tw63 hw) (tw65 hw) (tw64 hw) (tw66 hw) (tw3 hw) (by decide) (rm_edges l Z a0 hw o1 w_NO_UNITS 0 (fun _ => 0) 4 (fun _ => Bn) C u v Tj310.heap Aj310 hu4 (Nat.lt_trans hv4 (by decide)) hBn 2 (hE1.trans (by decide))) Aj310.exa (lenOf pd_0 rfl) rfl rfl (by decide) (by decide) rfl rfl (show ce ≤ 32 by omega) (show sl ≤ 192 by omega) rfl at_386 rfl (fun T16 X16 e16 => ?_)
                      show Go p e below _ (T16.setTop (mkF m 389 #[.val (.int i0), .val (.int i1), .val (.int i2), .val (.int (Int32.ofNat u)), .val (.int (Int32.ofNat kq)), .val (.int (Int32.ofNat v)), .val (.int (Int32.ofNat w1)), .val (.int (Int32.ofNat w2)), .val (.int (0 : Int32)), .val (.int (Int32.ofNat f9)), .val (.int (Int32.ofNat t1)), .val (.int (0 : Int32)), .val (.int (Int32.ofNat f12)), .val (.int (Int32.ofNat t2)), .val (.int (Int32.ofNat f14)), .val (.int (3 : Int32)), .val (.ref o1), .val (.int (0 : Int32)), .val (.int (2 : Int32)), .val (.int (0 : Int32)), .val (.int (1 : Int32)), .val (.int (1 : Int32))] [(.int (2 : Int32))]))
                      refine s_iload B X16 (pc' := 391) at_389 rfl rfl ?_
                      refine s_icmpN B X16 (pc' := 394) at_391 (by decide) rfl ?_
                      refine s_aload B X16 (pc' := 396) at_394 rfl rfl rfl ?_
                      refine s_iload B X16 (pc' := 398) at_396 rfl rfl ?_
                      refine s_iloadN B X16 (pc' := 399) at_398 rfl rfl ?_
                      refine p_virtual B X16 (y := mn8) (pc' := 402) (argsL := [(.int (Int32.ofNat v)), (.int (Int32.ofNat u))]) (under := []) (W := 0) e16 (tw62 hw) (tw63 hw) (tw65 hw) (tw64 hw) (tw66 hw) (tw3 hw) (by decide) (rm_edges l Z a0 hw o1 w_NO_UNITS 0 (fun _ => 0) 4 (fun _ => Bn) C v u Tj310.heap Aj310 hv4 (Nat.lt_trans hu4 (by decide)) hBn 2 (hE2.trans (by decide))) Aj310.exa (lenOf pd_0 rfl) rfl rfl (by decide) (by decide) rfl rfl (show ce ≤ 32 by omega) (show sl ≤ 192 by omega) rfl at_399 rfl (fun T17 X17 e17 => ?_)
                      show Go p e below _ (T17.setTop (mkF m 402 #[.val (.int i0), .val (.int i1), .val (.int i2), .val (.int (Int32.ofNat u)), .val (.int (Int32.ofNat kq)), .val (.int (Int32.ofNat v)), .val (.int (Int32.ofNat w1)), .val (.int (Int32.ofNat w2)), .val (.int (0 : Int32)), .val (.int (Int32.ofNat f9)), .val (.int (Int32.ofNat t1)), .val (.int (0 : Int32)), .val (.int (Int32.ofNat f12)), .val (.int (Int32.ofNat t2)), .val (.int (Int32.ofNat f14)), .val (.int (3 : Int32)), .val (.ref o1), .val (.int (0 : Int32)), .val (.int (2 : Int32)), .val (.int (0 : Int32)), .val (.int (1 : Int32)), .val (.int (1 : Int32))] [(.int (2 : Int32))]))
                      refine s_iload B X17 (pc' := 404) at_402 rfl rfl ?_
                      refine s_icmpN B X17 (pc' := 407) at_404 (by decide) rfl ?_
                      refine s_aload B X17 (pc' := 409) at_407 rfl rfl rfl ?_
                      refine s_iloadN B X17 (pc' := 410) at_409 rfl rfl ?_
                      refine p_virtual B X17 (y := mn9) (pc' := 413) (argsL := [(.int (Int32.ofNat u))]) (under := []) (W := 0) e17 (tw67 hw) (tw68 hw) (tw70 hw) (tw69 hw) (tw71 hw) (tw3 hw) (by decide) (rm_count l Z a0 hw o1 w_NO_UNITS 0 (fun _ => 0) 4 (fun _ => Bn) C u Tj310.heap Aj310 hu4 1 (hE5.trans (by decide))) Aj310.exa (lenOf pd_6 rfl) rfl rfl (by decide) (by decide) rfl rfl (show ce ≤ 32 by omega) (show sl ≤ 192 by omega) rfl at_410 rfl (fun T18 X18 e18 => ?_)
                      show Go p e below _ (T18.setTop (mkF m 413 #[.val (.int i0), .val (.int i1), .val (.int i2), .val (.int (Int32.ofNat u)), .val (.int (Int32.ofNat kq)), .val (.int (Int32.ofNat v)), .val (.int (Int32.ofNat w1)), .val (.int (Int32.ofNat w2)), .val (.int (0 : Int32)), .val (.int (Int32.ofNat f9)), .val (.int (Int32.ofNat t1)), .val (.int (0 : Int32)), .val (.int (Int32.ofNat f12)), .val (.int (Int32.ofNat t2)), .val (.int (Int32.ofNat f14)), .val (.int (3 : Int32)), .val (.ref o1), .val (.int (0 : Int32)), .val (.int (2 : Int32)), .val (.int (0 : Int32)), .val (.int (1 : Int32)), .val (.int (1 : Int32))] [(.int (1 : Int32))]))
                      refine s_iload B X18 (pc' := 415) at_413 rfl rfl ?_
                      refine s_icmpN B X18 (pc' := 418) at_415 (by decide) rfl ?_
                      refine s_aload B X18 (pc' := 420) at_418 rfl rfl rfl ?_
                      refine s_iload B X18 (pc' := 422) at_420 rfl rfl ?_
                      refine p_virtual B X18 (y := mn9) (pc' := 425) (argsL := [(.int (Int32.ofNat v))]) (under := []) (W := 0) e18 (tw67 hw) (tw68 hw) (tw70 hw) (tw69 hw) (tw71 hw) (tw3 hw) (by decide) (rm_count l Z a0 hw o1 w_NO_UNITS 0 (fun _ => 0) 4 (fun _ => Bn) C v Tj310.heap Aj310 hv4 1 (hE6.trans (by decide))) Aj310.exa (lenOf pd_6 rfl) rfl rfl (by decide) (by decide) rfl rfl (show ce ≤ 32 by omega) (show sl ≤ 192 by omega) rfl at_422 rfl (fun T19 X19 e19 => ?_)
                      show Go p e below _ (T19.setTop (mkF m 425 #[.val (.int i0), .val (.int i1), .val (.int i2), .val (.int (Int32.ofNat u)), .val (.int (Int32.ofNat kq)), .val (.int (Int32.ofNat v)), .val (.int (Int32.ofNat w1)), .val (.int (Int32.ofNat w2)), .val (.int (0 : Int32)), .val (.int (Int32.ofNat f9)), .val (.int (Int32.ofNat t1)), .val (.int (0 : Int32)), .val (.int (Int32.ofNat f12)), .val (.int (Int32.ofNat t2)), .val (.int (Int32.ofNat f14)), .val (.int (3 : Int32)), .val (.ref o1), .val (.int (0 : Int32)), .val (.int (2 : Int32)), .val (.int (0 : Int32)), .val (.int (1 : Int32)), .val (.int (1 : Int32))] [(.int (1 : Int32))]))
                      refine s_iload B X19 (pc' := 427) at_425 rfl rfl ?_
                      refine s_icmpN B X19 (pc' := 430) at_427 (by decide) rfl ?_
                      refine s_aload B X19 (pc' := 432) at_430 rfl rfl rfl ?_
                      refine s_iloadN B X19 (pc' := 433) at_432 rfl rfl ?_
                      refine s_iload B X19 (pc' := 435) at_433 rfl rfl ?_
                      refine p_virtual B X19 (y := mn8) (pc' := 438) (argsL := [(.int (Int32.ofNat u)), (.int (Int32.ofNat t1))]) (under := []) (W := 0) e19 (tw62 hw) (tw63 hw) (tw65 hw) (tw64 hw) (tw66 hw) (tw3 hw) (by decide) (rm_edges l Z a0 hw o1 w_NO_UNITS 0 (fun _ => 0) 4 (fun _ => Bn) C u t1 Tj310.heap Aj310 hu4 (Nat.lt_trans t14 (by decide)) hBn 0 hE3) Aj310.exa (lenOf pd_0 rfl) rfl rfl (by decide) (by decide) rfl rfl (show ce ≤ 32 by omega) (show sl ≤ 192 by omega) rfl at_435 rfl (fun T20 X20 e20 => ?_)
                      show Go p e below _ (T20.setTop (mkF m 438 #[.val (.int i0), .val (.int i1), .val (.int i2), .val (.int (Int32.ofNat u)), .val (.int (Int32.ofNat kq)), .val (.int (Int32.ofNat v)), .val (.int (Int32.ofNat w1)), .val (.int (Int32.ofNat w2)), .val (.int (0 : Int32)), .val (.int (Int32.ofNat f9)), .val (.int (Int32.ofNat t1)), .val (.int (0 : Int32)), .val (.int (Int32.ofNat f12)), .val (.int (Int32.ofNat t2)), .val (.int (Int32.ofNat f14)), .val (.int (3 : Int32)), .val (.ref o1), .val (.int (0 : Int32)), .val (.int (2 : Int32)), .val (.int (0 : Int32)), .val (.int (1 : Int32)), .val (.int (1 : Int32))] [(.int (0 : Int32))]))
                      refine s_iload B X20 (pc' := 440) at_438 rfl rfl ?_
                      refine s_ifY B X20 (pc' := 447) at_440 (by decide) (by decide) (by decide) ?_
                      refine s_iconst B X20 (pc' := 448) (v := (0 : Int32)) at_447 rfl rfl ?_
                      refine s_icmpN B X20 (pc' := 451) at_448 (by decide) rfl ?_
                      refine s_aload B X20 (pc' := 453) at_451 rfl rfl rfl ?_
                      refine s_iload B X20 (pc' := 455) at_453 rfl rfl ?_
                      refine s_iload B X20 (pc' := 457) at_455 rfl rfl ?_
                      refine p_virtual B X20 (y := mn8) (pc' := 460) (argsL := [(.int (Int32.ofNat v)), (.int (Int32.ofNat t2))]) (under := []) (W := 0) e20 (tw62 hw) (tw63 hw) (tw65 hw) (tw64 hw) (tw66 hw) (tw3 hw) (by decide) (rm_edges l Z a0 hw o1 w_NO_UNITS 0 (fun _ => 0) 4 (fun _ => Bn) C v t2 Tj310.heap Aj310 hv4 (Nat.lt_trans t24 (by decide)) hBn 0 hE4) Aj310.exa (lenOf pd_0 rfl) rfl rfl (by decide) (by decide) rfl rfl (show ce ≤ 32 by omega) (show sl ≤ 192 by omega) rfl at_457 rfl (fun T21 X21 e21 => ?_)
                      show Go p e below _ (T21.setTop (mkF m 460 #[.val (.int i0), .val (.int i1), .val (.int i2), .val (.int (Int32.ofNat u)), .val (.int (Int32.ofNat kq)), .val (.int (Int32.ofNat v)), .val (.int (Int32.ofNat w1)), .val (.int (Int32.ofNat w2)), .val (.int (0 : Int32)), .val (.int (Int32.ofNat f9)), .val (.int (Int32.ofNat t1)), .val (.int (0 : Int32)), .val (.int (Int32.ofNat f12)), .val (.int (Int32.ofNat t2)), .val (.int (Int32.ofNat f14)), .val (.int (3 : Int32)), .val (.ref o1), .val (.int (0 : Int32)), .val (.int (2 : Int32)), .val (.int (0 : Int32)), .val (.int (1 : Int32)), .val (.int (1 : Int32))] [(.int (0 : Int32))]))
                      refine s_iload B X21 (pc' := 462) at_460 rfl rfl ?_
                      refine s_ifY B X21 (pc' := 469) at_462 (by decide) (by decide) (by decide) ?_
                      refine s_iconst B X21 (pc' := 470) (v := (0 : Int32)) at_469 rfl rfl ?_
                      refine s_icmpN B X21 (pc' := 473) at_470 (by decide) rfl ?_
                      refine s_iconst B X21 (pc' := 474) (v := (1 : Int32)) at_473 rfl rfl ?_
                      refine s_goto B X21 (pc' := 478) at_474 (by decide) (by decide) ?_
                      exact r_nar B X21 (t := .boolean) (by simp) rfl at_478 ⟨rfl, Nj310⟩ (show ce ≤ 32 by omega) (show sl ≤ 192 by omega)
                  · rcases (by omega : mm = 1 ∨ mm = 2 ∨ mm = 3) with rfl | rfl | rfl
                    · obtain rfl := hr1 rfl
                      show Go p e below _ (Tj310.setTop (mkF m 310 #[.val (.int i0), .val (.int i1), .val (.int i2), .val (.int (Int32.ofNat u)), .val (.int (Int32.ofNat kq)), .val (.int (Int32.ofNat v)), .val (.int (Int32.ofNat w1)), .val (.int (Int32.ofNat w2)), .val (.int (0 : Int32)), .val (.int (Int32.ofNat f9)), .val (.int (Int32.ofNat t1)), .val (.int (1 : Int32)), .val (.int (Int32.ofNat f12)), .val (.int (Int32.ofNat t2)), .val (.int (Int32.ofNat f14)), .val (.int (1 : Int32)), .val (.ref o1), .unset, .unset, .unset, .unset, .unset] [(.int (1 : Int32))]))
                      refine s_istore B Xj310 (pc' := 312) (Ls' := #[.val (.int i0), .val (.int i1), .val (.int i2), .val (.int (Int32.ofNat u)), .val (.int (Int32.ofNat kq)), .val (.int (Int32.ofNat v)), .val (.int (Int32.ofNat w1)), .val (.int (Int32.ofNat w2)), .val (.int (0 : Int32)), .val (.int (Int32.ofNat f9)), .val (.int (Int32.ofNat t1)), .val (.int (1 : Int32)), .val (.int (Int32.ofNat f12)), .val (.int (Int32.ofNat t2)), .val (.int (Int32.ofNat f14)), .val (.int (1 : Int32)), .val (.ref o1), .val (.int (1 : Int32)), .unset, .unset, .unset, .unset]) at_310 rfl rfl ?_
                      refine s_iload B Xj310 (pc' := 314) at_312 rfl rfl ?_
                      refine s_iconst B Xj310 (pc' := 315) (v := (1 : Int32)) at_314 rfl rfl ?_
                      refine s_isub B Xj310 (pc' := 316) (v := (0 : Int32)) at_315 rfl rfl ?_
                      refine s_istore B Xj310 (pc' := 318) (Ls' := #[.val (.int i0), .val (.int i1), .val (.int i2), .val (.int (Int32.ofNat u)), .val (.int (Int32.ofNat kq)), .val (.int (Int32.ofNat v)), .val (.int (Int32.ofNat w1)), .val (.int (Int32.ofNat w2)), .val (.int (0 : Int32)), .val (.int (Int32.ofNat f9)), .val (.int (Int32.ofNat t1)), .val (.int (1 : Int32)), .val (.int (Int32.ofNat f12)), .val (.int (Int32.ofNat t2)), .val (.int (Int32.ofNat f14)), .val (.int (1 : Int32)), .val (.ref o1), .val (.int (1 : Int32)), .val (.int (0 : Int32)), .unset, .unset, .unset]) at_316 rfl rfl ?_
                      refine s_iload B Xj310 (pc' := 320) at_318 rfl rfl ?_
                      refine s_iconst B Xj310 (pc' := 321) (v := (1 : Int32)) at_320 rfl rfl ?_
                      refine s_icmpN B Xj310 (pc' := 324) at_321 (by decide) rfl ?_
                      refine s_iconst B Xj310 (pc' := 325) (v := (1 : Int32)) at_324 rfl rfl ?_
                      refine s_goto B Xj310 (pc' := 329) at_325 (by decide) (by decide) ?_
                      refine s_istore B Xj310 (pc' := 331) (Ls' := #[.val (.int i0), .val (.int i1), .val (.int i2), .val (.int (Int32.ofNat u)), .val (.int (Int32.ofNat kq)), .val (.int (Int32.ofNat v)), .val (.int (Int32.ofNat w1)), .val (.int (Int32.ofNat w2)), .val (.int (0 : Int32)), .val (.int (Int32.ofNat f9)), .val (.int (Int32.ofNat t1)), .val (.int (1 : Int32)), .val (.int (Int32.ofNat f12)), .val (.int (Int32.ofNat t2)), .val (.int (Int32.ofNat f14)), .val (.int (1 : Int32)), .val (.ref o1), .val (.int (1 : Int32)), .val (.int (0 : Int32)), .val (.int (1 : Int32)), .unset, .unset]) at_329 rfl rfl ?_
                      refine s_iconst B Xj310 (pc' := 332) (v := (1 : Int32)) at_331 rfl rfl ?_
                      refine s_iload B Xj310 (pc' := 334) at_332 rfl rfl ?_
                      refine s_ifY B Xj310 (pc' := 341) at_334 (by decide) (by decide) (by decide) ?_
                      refine s_iconst B Xj310 (pc' := 342) (v := (0 : Int32)) at_341 rfl rfl ?_
                      refine s_iadd B Xj310 (pc' := 343) (v := (1 : Int32)) at_342 rfl rfl ?_
                      refine s_iload B Xj310 (pc' := 345) at_343 rfl rfl ?_
                      refine s_isub B Xj310 (pc' := 346) (v := (0 : Int32)) at_345 rfl rfl ?_
                      refine s_istore B Xj310 (pc' := 348) (Ls' := #[.val (.int i0), .val (.int i1), .val (.int i2), .val (.int (Int32.ofNat u)), .val (.int (Int32.ofNat kq)), .val (.int (Int32.ofNat v)), .val (.int (Int32.ofNat w1)), .val (.int (Int32.ofNat w2)), .val (.int (0 : Int32)), .val (.int (Int32.ofNat f9)), .val (.int (Int32.ofNat t1)), .val (.int (1 : Int32)), .val (.int (Int32.ofNat f12)), .val (.int (Int32.ofNat t2)), .val (.int (Int32.ofNat f14)), .val (.int (1 : Int32)), .val (.ref o1), .val (.int (1 : Int32)), .val (.int (0 : Int32)), .val (.int (1 : Int32)), .val (.int (0 : Int32)), .unset]) at_346 rfl rfl ?_
                      refine s_iconst B Xj310 (pc' := 349) (v := (1 : Int32)) at_348 rfl rfl ?_
                      refine s_iload B Xj310 (pc' := 351) at_349 rfl rfl ?_
                      refine s_ifN B Xj310 (pc' := 354) at_351 (by decide) rfl ?_
                      refine s_iconst B Xj310 (pc' := 355) (v := (1 : Int32)) at_354 rfl rfl ?_
                      refine s_goto B Xj310 (pc' := 359) at_355 (by decide) (by decide) ?_
                      refine s_iadd B Xj310 (pc' := 360) (v := (2 : Int32)) at_359 rfl rfl ?_
                      refine s_iload B Xj310 (pc' := 362) at_360 rfl rfl ?_
                      refine s_isub B Xj310 (pc' := 363) (v := (1 : Int32)) at_362 rfl rfl ?_
                      refine s_istore B Xj310 (pc' := 365) (Ls' := #[.val (.int i0), .val (.int i1), .val (.int i2), .val (.int (Int32.ofNat u)), .val (.int (Int32.ofNat kq)), .val (.int (Int32.ofNat v)), .val (.int (Int32.ofNat w1)), .val (.int (Int32.ofNat w2)), .val (.int (0 : Int32)), .val (.int (Int32.ofNat f9)), .val (.int (Int32.ofNat t1)), .val (.int (1 : Int32)), .val (.int (Int32.ofNat f12)), .val (.int (Int32.ofNat t2)), .val (.int (Int32.ofNat f14)), .val (.int (1 : Int32)), .val (.ref o1), .val (.int (1 : Int32)), .val (.int (0 : Int32)), .val (.int (1 : Int32)), .val (.int (0 : Int32)), .val (.int (1 : Int32))]) at_363 rfl rfl ?_
                      refine s_iload B Xj310 (pc' := 367) at_365 rfl rfl ?_
                      refine s_iload B Xj310 (pc' := 369) at_367 rfl rfl ?_
                      refine s_iconst B Xj310 (pc' := 370) (v := (1 : Int32)) at_369 rfl rfl ?_
                      refine s_icmpN B Xj310 (pc' := 373) at_370 (by decide) rfl ?_
                      refine s_iconst B Xj310 (pc' := 374) (v := (1 : Int32)) at_373 rfl rfl ?_
                      refine s_goto B Xj310 (pc' := 378) at_374 (by decide) (by decide) ?_
                      refine s_icmpN B Xj310 (pc' := 381) at_378 (by decide) rfl ?_
                      refine s_aload B Xj310 (pc' := 383) at_381 rfl rfl rfl ?_
                      refine s_iloadN B Xj310 (pc' := 384) at_383 rfl rfl ?_
                      refine s_iload B Xj310 (pc' := 386) at_384 rfl rfl ?_
                      refine p_virtual B Xj310 (y := mn8) (pc' := 389) (argsL := [(.int (Int32.ofNat u)), (.int (Int32.ofNat v))]) (under := []) (W := 0) rfl (tw62 hw) (tw63 hw) (tw65 hw) (tw64 hw) (tw66 hw) (tw3 hw) (by decide) (rm_edges l Z a0 hw o1 w_NO_UNITS 0 (fun _ => 0) 4 (fun _ => Bn) C u v Tj310.heap Aj310 hu4 (Nat.lt_trans hv4 (by decide)) hBn 0 (hE1.trans (by decide))) Aj310.exa (lenOf pd_0 rfl) rfl rfl (by decide) (by decide) rfl rfl (show ce ≤ 32 by omega) (show sl ≤ 192 by omega) rfl at_386 rfl (fun T22 X22 e22 => ?_)
                      show Go p e below _ (T22.setTop (mkF m 389 #[.val (.int i0), .val (.int i1), .val (.int i2), .val (.int (Int32.ofNat u)), .val (.int (Int32.ofNat kq)), .val (.int (Int32.ofNat v)), .val (.int (Int32.ofNat w1)), .val (.int (Int32.ofNat w2)), .val (.int (0 : Int32)), .val (.int (Int32.ofNat f9)), .val (.int (Int32.ofNat t1)), .val (.int (1 : Int32)), .val (.int (Int32.ofNat f12)), .val (.int (Int32.ofNat t2)), .val (.int (Int32.ofNat f14)), .val (.int (1 : Int32)), .val (.ref o1), .val (.int (1 : Int32)), .val (.int (0 : Int32)), .val (.int (1 : Int32)), .val (.int (0 : Int32)), .val (.int (1 : Int32))] [(.int (0 : Int32))]))
                      refine s_iload B X22 (pc' := 391) at_389 rfl rfl ?_
                      refine s_icmpN B X22 (pc' := 394) at_391 (by decide) rfl ?_
                      refine s_aload B X22 (pc' := 396) at_394 rfl rfl rfl ?_
                      refine s_iload B X22 (pc' := 398) at_396 rfl rfl ?_
                      refine s_iloadN B X22 (pc' := 399) at_398 rfl rfl ?_
                      refine p_virtual B X22 (y := mn8) (pc' := 402) (argsL := [(.int (Int32.ofNat v)), (.int (Int32.ofNat u))]) (under := []) (W := 0) e22 (tw62 hw) (tw63 hw) (tw65 hw) (tw64 hw) (tw66 hw) (tw3 hw) (by decide) (rm_edges l Z a0 hw o1 w_NO_UNITS 0 (fun _ => 0) 4 (fun _ => Bn) C v u Tj310.heap Aj310 hv4 (Nat.lt_trans hu4 (by decide)) hBn 0 (hE2.trans (by decide))) Aj310.exa (lenOf pd_0 rfl) rfl rfl (by decide) (by decide) rfl rfl (show ce ≤ 32 by omega) (show sl ≤ 192 by omega) rfl at_399 rfl (fun T23 X23 e23 => ?_)
                      show Go p e below _ (T23.setTop (mkF m 402 #[.val (.int i0), .val (.int i1), .val (.int i2), .val (.int (Int32.ofNat u)), .val (.int (Int32.ofNat kq)), .val (.int (Int32.ofNat v)), .val (.int (Int32.ofNat w1)), .val (.int (Int32.ofNat w2)), .val (.int (0 : Int32)), .val (.int (Int32.ofNat f9)), .val (.int (Int32.ofNat t1)), .val (.int (1 : Int32)), .val (.int (Int32.ofNat f12)), .val (.int (Int32.ofNat t2)), .val (.int (Int32.ofNat f14)), .val (.int (1 : Int32)), .val (.ref o1), .val (.int (1 : Int32)), .val (.int (0 : Int32)), .val (.int (1 : Int32)), .val (.int (0 : Int32)), .val (.int (1 : Int32))] [(.int (0 : Int32))]))
                      refine s_iload B X23 (pc' := 404) at_402 rfl rfl ?_
                      refine s_icmpN B X23 (pc' := 407) at_404 (by decide) rfl ?_
                      refine s_aload B X23 (pc' := 409) at_407 rfl rfl rfl ?_
                      refine s_iloadN B X23 (pc' := 410) at_409 rfl rfl ?_
                      refine p_virtual B X23 (y := mn9) (pc' := 413) (argsL := [(.int (Int32.ofNat u))]) (under := []) (W := 0) e23 (tw67 hw) (tw68 hw) (tw70 hw) (tw69 hw) (tw71 hw) (tw3 hw) (by decide) (rm_count l Z a0 hw o1 w_NO_UNITS 0 (fun _ => 0) 4 (fun _ => Bn) C u Tj310.heap Aj310 hu4 0 (hE5.trans (by decide))) Aj310.exa (lenOf pd_6 rfl) rfl rfl (by decide) (by decide) rfl rfl (show ce ≤ 32 by omega) (show sl ≤ 192 by omega) rfl at_410 rfl (fun T24 X24 e24 => ?_)
                      show Go p e below _ (T24.setTop (mkF m 413 #[.val (.int i0), .val (.int i1), .val (.int i2), .val (.int (Int32.ofNat u)), .val (.int (Int32.ofNat kq)), .val (.int (Int32.ofNat v)), .val (.int (Int32.ofNat w1)), .val (.int (Int32.ofNat w2)), .val (.int (0 : Int32)), .val (.int (Int32.ofNat f9)), .val (.int (Int32.ofNat t1)), .val (.int (1 : Int32)), .val (.int (Int32.ofNat f12)), .val (.int (Int32.ofNat t2)), .val (.int (Int32.ofNat f14)), .val (.int (1 : Int32)), .val (.ref o1), .val (.int (1 : Int32)), .val (.int (0 : Int32)), .val (.int (1 : Int32)), .val (.int (0 : Int32)), .val (.int (1 : Int32))] [(.int (0 : Int32))]))
                      refine s_iload B X24 (pc' := 415) at_413 rfl rfl ?_
                      refine s_icmpN B X24 (pc' := 418) at_415 (by decide) rfl ?_
                      refine s_aload B X24 (pc' := 420) at_418 rfl rfl rfl ?_
                      refine s_iload B X24 (pc' := 422) at_420 rfl rfl ?_
                      refine p_virtual B X24 (y := mn9) (pc' := 425) (argsL := [(.int (Int32.ofNat v))]) (under := []) (W := 0) e24 (tw67 hw) (tw68 hw) (tw70 hw) (tw69 hw) (tw71 hw) (tw3 hw) (by decide) (rm_count l Z a0 hw o1 w_NO_UNITS 0 (fun _ => 0) 4 (fun _ => Bn) C v Tj310.heap Aj310 hv4 1 (hE6.trans (by decide))) Aj310.exa (lenOf pd_6 rfl) rfl rfl (by decide) (by decide) rfl rfl (show ce ≤ 32 by omega) (show sl ≤ 192 by omega) rfl at_422 rfl (fun T25 X25 e25 => ?_)
                      show Go p e below _ (T25.setTop (mkF m 425 #[.val (.int i0), .val (.int i1), .val (.int i2), .val (.int (Int32.ofNat u)), .val (.int (Int32.ofNat kq)), .val (.int (Int32.ofNat v)), .val (.int (Int32.ofNat w1)), .val (.int (Int32.ofNat w2)), .val (.int (0 : Int32)), .val (.int (Int32.ofNat f9)), .val (.int (Int32.ofNat t1)), .val (.int (1 : Int32)), .val (.int (Int32.ofNat f12)), .val (.int (Int32.ofNat t2)), .val (.int (Int32.ofNat f14)), .val (.int (1 : Int32)), .val (.ref o1), .val (.int (1 : Int32)), .val (.int (0 : Int32)), .val (.int (1 : Int32)), .val (.int (0 : Int32)), .val (.int (1 : Int32))] [(.int (1 : Int32))]))
                      refine s_iload B X25 (pc' := 427) at_425 rfl rfl ?_
                      refine s_icmpN B X25 (pc' := 430) at_427 (by decide) rfl ?_
                      refine s_aload B X25 (pc' := 432) at_430 rfl rfl rfl ?_
                      refine s_iloadN B X25 (pc' := 433) at_432 rfl rfl ?_
                      refine s_iload B X25 (pc' := 435) at_433 rfl rfl ?_
                      refine p_virtual B X25 (y := mn8) (pc' := 438) (argsL := [(.int (Int32.ofNat u)), (.int (Int32.ofNat t1))]) (under := []) (W := 0) e25 (tw62 hw) (tw63 hw) (tw65 hw) (tw64 hw) (tw66 hw) (tw3 hw) (by decide) (rm_edges l Z a0 hw o1 w_NO_UNITS 0 (fun _ => 0) 4 (fun _ => Bn) C u t1 Tj310.heap Aj310 hu4 (Nat.lt_trans t14 (by decide)) hBn 0 hE3) Aj310.exa (lenOf pd_0 rfl) rfl rfl (by decide) (by decide) rfl rfl (show ce ≤ 32 by omega) (show sl ≤ 192 by omega) rfl at_435 rfl (fun T26 X26 e26 => ?_)
                      show Go p e below _ (T26.setTop (mkF m 438 #[.val (.int i0), .val (.int i1), .val (.int i2), .val (.int (Int32.ofNat u)), .val (.int (Int32.ofNat kq)), .val (.int (Int32.ofNat v)), .val (.int (Int32.ofNat w1)), .val (.int (Int32.ofNat w2)), .val (.int (0 : Int32)), .val (.int (Int32.ofNat f9)), .val (.int (Int32.ofNat t1)), .val (.int (1 : Int32)), .val (.int (Int32.ofNat f12)), .val (.int (Int32.ofNat t2)), .val (.int (Int32.ofNat f14)), .val (.int (1 : Int32)), .val (.ref o1), .val (.int (1 : Int32)), .val (.int (0 : Int32)), .val (.int (1 : Int32)), .val (.int (0 : Int32)), .val (.int (1 : Int32))] [(.int (0 : Int32))]))
                      refine s_iload B X26 (pc' := 440) at_438 rfl rfl ?_
                      refine s_ifY B X26 (pc' := 447) at_440 (by decide) (by decide) (by decide) ?_
                      refine s_iconst B X26 (pc' := 448) (v := (0 : Int32)) at_447 rfl rfl ?_
                      refine s_icmpN B X26 (pc' := 451) at_448 (by decide) rfl ?_
                      refine s_aload B X26 (pc' := 453) at_451 rfl rfl rfl ?_
                      refine s_iload B X26 (pc' := 455) at_453 rfl rfl ?_
                      refine s_iload B X26 (pc' := 457) at_455 rfl rfl ?_
                      refine p_virtual B X26 (y := mn8) (pc' := 460) (argsL := [(.int (Int32.ofNat v)), (.int (Int32.ofNat t2))]) (under := []) (W := 0) e26 (tw62 hw) (tw63 hw) (tw65 hw) (tw64 hw) (tw66 hw) (tw3 hw) (by decide) (rm_edges l Z a0 hw o1 w_NO_UNITS 0 (fun _ => 0) 4 (fun _ => Bn) C v t2 Tj310.heap Aj310 hv4 (Nat.lt_trans t24 (by decide)) hBn 1 hE4) Aj310.exa (lenOf pd_0 rfl) rfl rfl (by decide) (by decide) rfl rfl (show ce ≤ 32 by omega) (show sl ≤ 192 by omega) rfl at_457 rfl (fun T27 X27 e27 => ?_)
                      show Go p e below _ (T27.setTop (mkF m 460 #[.val (.int i0), .val (.int i1), .val (.int i2), .val (.int (Int32.ofNat u)), .val (.int (Int32.ofNat kq)), .val (.int (Int32.ofNat v)), .val (.int (Int32.ofNat w1)), .val (.int (Int32.ofNat w2)), .val (.int (0 : Int32)), .val (.int (Int32.ofNat f9)), .val (.int (Int32.ofNat t1)), .val (.int (1 : Int32)), .val (.int (Int32.ofNat f12)), .val (.int (Int32.ofNat t2)), .val (.int (Int32.ofNat f14)), .val (.int (1 : Int32)), .val (.ref o1), .val (.int (1 : Int32)), .val (.int (0 : Int32)), .val (.int (1 : Int32)), .val (.int (0 : Int32)), .val (.int (1 : Int32))] [(.int (1 : Int32))]))
                      refine s_iload B X27 (pc' := 462) at_460 rfl rfl ?_
                      refine s_ifN B X27 (pc' := 465) at_462 (by decide) rfl ?_
                      refine s_iconst B X27 (pc' := 466) (v := (1 : Int32)) at_465 rfl rfl ?_
                      refine s_goto B X27 (pc' := 470) at_466 (by decide) (by decide) ?_
                      refine s_icmpN B X27 (pc' := 473) at_470 (by decide) rfl ?_
                      refine s_iconst B X27 (pc' := 474) (v := (1 : Int32)) at_473 rfl rfl ?_
                      refine s_goto B X27 (pc' := 478) at_474 (by decide) (by decide) ?_
                      exact r_nar B X27 (t := .boolean) (by simp) rfl at_478 ⟨rfl, Nj310⟩ (show ce ≤ 32 by omega) (show sl ≤ 192 by omega)
                    · obtain rfl := hr0 (by decide)
                      show Go p e below _ (Tj310.setTop (mkF m 310 #[.val (.int i0), .val (.int i1), .val (.int i2), .val (.int (Int32.ofNat u)), .val (.int (Int32.ofNat kq)), .val (.int (Int32.ofNat v)), .val (.int (Int32.ofNat w1)), .val (.int (Int32.ofNat w2)), .val (.int (0 : Int32)), .val (.int (Int32.ofNat f9)), .val (.int (Int32.ofNat t1)), .val (.int (1 : Int32)), .val (.int (Int32.ofNat f12)), .val (.int (Int32.ofNat t2)), .val (.int (Int32.ofNat f14)), .val (.int (2 : Int32)), .val (.ref o1), .unset, .unset, .unset, .unset, .unset] [(.int (0 : Int32))]))
                      refine s_istore B Xj310 (pc' := 312) (Ls' := #[.val (.int i0), .val (.int i1), .val (.int i2), .val (.int (Int32.ofNat u)), .val (.int (Int32.ofNat kq)), .val (.int (Int32.ofNat v)), .val (.int (Int32.ofNat w1)), .val (.int (Int32.ofNat w2)), .val (.int (0 : Int32)), .val (.int (Int32.ofNat f9)), .val (.int (Int32.ofNat t1)), .val (.int (1 : Int32)), .val (.int (Int32.ofNat f12)), .val (.int (Int32.ofNat t2)), .val (.int (Int32.ofNat f14)), .val (.int (2 : Int32)), .val (.ref o1), .val (.int (0 : Int32)), .unset, .unset, .unset, .unset]) at_310 rfl rfl ?_
                      refine s_iload B Xj310 (pc' := 314) at_312 rfl rfl ?_
                      refine s_iconst B Xj310 (pc' := 315) (v := (1 : Int32)) at_314 rfl rfl ?_
                      refine s_isub B Xj310 (pc' := 316) (v := (1 : Int32)) at_315 rfl rfl ?_
                      refine s_istore B Xj310 (pc' := 318) (Ls' := #[.val (.int i0), .val (.int i1), .val (.int i2), .val (.int (Int32.ofNat u)), .val (.int (Int32.ofNat kq)), .val (.int (Int32.ofNat v)), .val (.int (Int32.ofNat w1)), .val (.int (Int32.ofNat w2)), .val (.int (0 : Int32)), .val (.int (Int32.ofNat f9)), .val (.int (Int32.ofNat t1)), .val (.int (1 : Int32)), .val (.int (Int32.ofNat f12)), .val (.int (Int32.ofNat t2)), .val (.int (Int32.ofNat f14)), .val (.int (2 : Int32)), .val (.ref o1), .val (.int (0 : Int32)), .val (.int (1 : Int32)), .unset, .unset, .unset]) at_316 rfl rfl ?_
                      refine s_iload B Xj310 (pc' := 320) at_318 rfl rfl ?_
                      refine s_iconst B Xj310 (pc' := 321) (v := (1 : Int32)) at_320 rfl rfl ?_
                      refine s_icmpY B Xj310 (pc' := 328) at_321 (by decide) (by decide) (by decide) ?_
                      refine s_iconst B Xj310 (pc' := 329) (v := (0 : Int32)) at_328 rfl rfl ?_
                      refine s_istore B Xj310 (pc' := 331) (Ls' := #[.val (.int i0), .val (.int i1), .val (.int i2), .val (.int (Int32.ofNat u)), .val (.int (Int32.ofNat kq)), .val (.int (Int32.ofNat v)), .val (.int (Int32.ofNat w1)), .val (.int (Int32.ofNat w2)), .val (.int (0 : Int32)), .val (.int (Int32.ofNat f9)), .val (.int (Int32.ofNat t1)), .val (.int (1 : Int32)), .val (.int (Int32.ofNat f12)), .val (.int (Int32.ofNat t2)), .val (.int (Int32.ofNat f14)), .val (.int (2 : Int32)), .val (.ref o1), .val (.int (0 : Int32)), .val (.int (1 : Int32)), .val (.int (0 : Int32)), .unset, .unset]) at_329 rfl rfl ?_
                      refine s_iconst B Xj310 (pc' := 332) (v := (1 : Int32)) at_331 rfl rfl ?_
                      refine s_iload B Xj310 (pc' := 334) at_332 rfl rfl ?_
                      refine s_ifY B Xj310 (pc' := 341) at_334 (by decide) (by decide) (by decide) ?_
                      refine s_iconst B Xj310 (pc' := 342) (v := (0 : Int32)) at_341 rfl rfl ?_
                      refine s_iadd B Xj310 (pc' := 343) (v := (1 : Int32)) at_342 rfl rfl ?_
                      refine s_iload B Xj310 (pc' := 345) at_343 rfl rfl ?_
                      refine s_isub B Xj310 (pc' := 346) (v := (1 : Int32)) at_345 rfl rfl ?_
                      refine s_istore B Xj310 (pc' := 348) (Ls' := #[.val (.int i0), .val (.int i1), .val (.int i2), .val (.int (Int32.ofNat u)), .val (.int (Int32.ofNat kq)), .val (.int (Int32.ofNat v)), .val (.int (Int32.ofNat w1)), .val (.int (Int32.ofNat w2)), .val (.int (0 : Int32)), .val (.int (Int32.ofNat f9)), .val (.int (Int32.ofNat t1)), .val (.int (1 : Int32)), .val (.int (Int32.ofNat f12)), .val (.int (Int32.ofNat t2)), .val (.int (Int32.ofNat f14)), .val (.int (2 : Int32)), .val (.ref o1), .val (.int (0 : Int32)), .val (.int (1 : Int32)), .val (.int (0 : Int32)), .val (.int (1 : Int32)), .unset]) at_346 rfl rfl ?_
                      refine s_iconst B Xj310 (pc' := 349) (v := (1 : Int32)) at_348 rfl rfl ?_
                      refine s_iload B Xj310 (pc' := 351) at_349 rfl rfl ?_
                      refine s_ifN B Xj310 (pc' := 354) at_351 (by decide) rfl ?_
                      refine s_iconst B Xj310 (pc' := 355) (v := (1 : Int32)) at_354 rfl rfl ?_
                      refine s_goto B Xj310 (pc' := 359) at_355 (by decide) (by decide) ?_
                      refine s_iadd B Xj310 (pc' := 360) (v := (2 : Int32)) at_359 rfl rfl ?_
                      refine s_iload B Xj310 (pc' := 362) at_360 rfl rfl ?_
                      refine s_isub B Xj310 (pc' := 363) (v := (2 : Int32)) at_362 rfl rfl ?_
                      refine s_istore B Xj310 (pc' := 365) (Ls' := #[.val (.int i0), .val (.int i1), .val (.int i2), .val (.int (Int32.ofNat u)), .val (.int (Int32.ofNat kq)), .val (.int (Int32.ofNat v)), .val (.int (Int32.ofNat w1)), .val (.int (Int32.ofNat w2)), .val (.int (0 : Int32)), .val (.int (Int32.ofNat f9)), .val (.int (Int32.ofNat t1)), .val (.int (1 : Int32)), .val (.int (Int32.ofNat f12)), .val (.int (Int32.ofNat t2)), .val (.int (Int32.ofNat f14)), .val (.int (2 : Int32)), .val (.ref o1), .val (.int (0 : Int32)), .val (.int (1 : Int32)), .val (.int (0 : Int32)), .val (.int (1 : Int32)), .val (.int (2 : Int32))]) at_363 rfl rfl ?_
                      refine s_iload B Xj310 (pc' := 367) at_365 rfl rfl ?_
                      refine s_iload B Xj310 (pc' := 369) at_367 rfl rfl ?_
                      refine s_iconst B Xj310 (pc' := 370) (v := (1 : Int32)) at_369 rfl rfl ?_
                      refine s_icmpY B Xj310 (pc' := 377) at_370 (by decide) (by decide) (by decide) ?_
                      refine s_iconst B Xj310 (pc' := 378) (v := (0 : Int32)) at_377 rfl rfl ?_
                      refine s_icmpN B Xj310 (pc' := 381) at_378 (by decide) rfl ?_
                      refine s_aload B Xj310 (pc' := 383) at_381 rfl rfl rfl ?_
                      refine s_iloadN B Xj310 (pc' := 384) at_383 rfl rfl ?_
                      refine s_iload B Xj310 (pc' := 386) at_384 rfl rfl ?_
                      refine p_virtual B Xj310 (y := mn8) (pc' := 389) (argsL := [(.int (Int32.ofNat u)), (.int (Int32.ofNat v))]) (under := []) (W := 0) rfl (tw62 hw) (tw63 hw) (tw65 hw) (tw64 hw) (tw66 hw) (tw3 hw) (by decide) (rm_edges l Z a0 hw o1 w_NO_UNITS 0 (fun _ => 0) 4 (fun _ => Bn) C u v Tj310.heap Aj310 hu4 (Nat.lt_trans hv4 (by decide)) hBn 1 (hE1.trans (by decide))) Aj310.exa (lenOf pd_0 rfl) rfl rfl (by decide) (by decide) rfl rfl (show ce ≤ 32 by omega) (show sl ≤ 192 by omega) rfl at_386 rfl (fun T28 X28 e28 => ?_)
                      show Go p e below _ (T28.setTop (mkF m 389 #[.val (.int i0), .val (.int i1), .val (.int i2), .val (.int (Int32.ofNat u)), .val (.int (Int32.ofNat kq)), .val (.int (Int32.ofNat v)), .val (.int (Int32.ofNat w1)), .val (.int (Int32.ofNat w2)), .val (.int (0 : Int32)), .val (.int (Int32.ofNat f9)), .val (.int (Int32.ofNat t1)), .val (.int (1 : Int32)), .val (.int (Int32.ofNat f12)), .val (.int (Int32.ofNat t2)), .val (.int (Int32.ofNat f14)), .val (.int (2 : Int32)), .val (.ref o1), .val (.int (0 : Int32)), .val (.int (1 : Int32)), .val (.int (0 : Int32)), .val (.int (1 : Int32)), .val (.int (2 : Int32))] [(.int (1 : Int32))]))
                      refine s_iload B X28 (pc' := 391) at_389 rfl rfl ?_
                      refine s_icmpN B X28 (pc' := 394) at_391 (by decide) rfl ?_
                      refine s_aload B X28 (pc' := 396) at_394 rfl rfl rfl ?_
                      refine s_iload B X28 (pc' := 398) at_396 rfl rfl ?_
                      refine s_iloadN B X28 (pc' := 399) at_398 rfl rfl ?_
                      refine p_virtual B X28 (y := mn8) (pc' := 402) (argsL := [(.int (Int32.ofNat v)), (.int (Int32.ofNat u))]) (under := []) (W := 0) e28 (tw62 hw) (tw63 hw) (tw65 hw) (tw64 hw) (tw66 hw) (tw3 hw) (by decide) (rm_edges l Z a0 hw o1 w_NO_UNITS 0 (fun _ => 0) 4 (fun _ => Bn) C v u Tj310.heap Aj310 hv4 (Nat.lt_trans hu4 (by decide)) hBn 1 (hE2.trans (by decide))) Aj310.exa (lenOf pd_0 rfl) rfl rfl (by decide) (by decide) rfl rfl (show ce ≤ 32 by omega) (show sl ≤ 192 by omega) rfl at_399 rfl (fun T29 X29 e29 => ?_)
                      show Go p e below _ (T29.setTop (mkF m 402 #[.val (.int i0), .val (.int i1), .val (.int i2), .val (.int (Int32.ofNat u)), .val (.int (Int32.ofNat kq)), .val (.int (Int32.ofNat v)), .val (.int (Int32.ofNat w1)), .val (.int (Int32.ofNat w2)), .val (.int (0 : Int32)), .val (.int (Int32.ofNat f9)), .val (.int (Int32.ofNat t1)), .val (.int (1 : Int32)), .val (.int (Int32.ofNat f12)), .val (.int (Int32.ofNat t2)), .val (.int (Int32.ofNat f14)), .val (.int (2 : Int32)), .val (.ref o1), .val (.int (0 : Int32)), .val (.int (1 : Int32)), .val (.int (0 : Int32)), .val (.int (1 : Int32)), .val (.int (2 : Int32))] [(.int (1 : Int32))]))
                      refine s_iload B X29 (pc' := 404) at_402 rfl rfl ?_
                      refine s_icmpN B X29 (pc' := 407) at_404 (by decide) rfl ?_
                      refine s_aload B X29 (pc' := 409) at_407 rfl rfl rfl ?_
                      refine s_iloadN B X29 (pc' := 410) at_409 rfl rfl ?_
                      refine p_virtual B X29 (y := mn9) (pc' := 413) (argsL := [(.int (Int32.ofNat u))]) (under := []) (W := 0) e29 (tw67 hw) (tw68 hw) (tw70 hw) (tw69 hw) (tw71 hw) (tw3 hw) (by decide) (rm_count l Z a0 hw o1 w_NO_UNITS 0 (fun _ => 0) 4 (fun _ => Bn) C u Tj310.heap Aj310 hu4 1 (hE5.trans (by decide))) Aj310.exa (lenOf pd_6 rfl) rfl rfl (by decide) (by decide) rfl rfl (show ce ≤ 32 by omega) (show sl ≤ 192 by omega) rfl at_410 rfl (fun T30 X30 e30 => ?_)
                      show Go p e below _ (T30.setTop (mkF m 413 #[.val (.int i0), .val (.int i1), .val (.int i2), .val (.int (Int32.ofNat u)), .val (.int (Int32.ofNat kq)), .val (.int (Int32.ofNat v)), .val (.int (Int32.ofNat w1)), .val (.int (Int32.ofNat w2)), .val (.int (0 : Int32)), .val (.int (Int32.ofNat f9)), .val (.int (Int32.ofNat t1)), .val (.int (1 : Int32)), .val (.int (Int32.ofNat f12)), .val (.int (Int32.ofNat t2)), .val (.int (Int32.ofNat f14)), .val (.int (2 : Int32)), .val (.ref o1), .val (.int (0 : Int32)), .val (.int (1 : Int32)), .val (.int (0 : Int32)), .val (.int (1 : Int32)), .val (.int (2 : Int32))] [(.int (1 : Int32))]))
                      refine s_iload B X30 (pc' := 415) at_413 rfl rfl ?_
                      refine s_icmpN B X30 (pc' := 418) at_415 (by decide) rfl ?_
                      refine s_aload B X30 (pc' := 420) at_418 rfl rfl rfl ?_
                      refine s_iload B X30 (pc' := 422) at_420 rfl rfl ?_
                      refine p_virtual B X30 (y := mn9) (pc' := 425) (argsL := [(.int (Int32.ofNat v))]) (under := []) (W := 0) e30 (tw67 hw) (tw68 hw) (tw70 hw) (tw69 hw) (tw71 hw) (tw3 hw) (by decide) (rm_count l Z a0 hw o1 w_NO_UNITS 0 (fun _ => 0) 4 (fun _ => Bn) C v Tj310.heap Aj310 hv4 2 (hE6.trans (by decide))) Aj310.exa (lenOf pd_6 rfl) rfl rfl (by decide) (by decide) rfl rfl (show ce ≤ 32 by omega) (show sl ≤ 192 by omega) rfl at_422 rfl (fun T31 X31 e31 => ?_)
                      show Go p e below _ (T31.setTop (mkF m 425 #[.val (.int i0), .val (.int i1), .val (.int i2), .val (.int (Int32.ofNat u)), .val (.int (Int32.ofNat kq)), .val (.int (Int32.ofNat v)), .val (.int (Int32.ofNat w1)), .val (.int (Int32.ofNat w2)), .val (.int (0 : Int32)), .val (.int (Int32.ofNat f9)), .val (.int (Int32.ofNat t1)), .val (.int (1 : Int32)), .val (.int (Int32.ofNat f12)), .val (.int (Int32.ofNat t2)), .val (.int (Int32.ofNat f14)), .val (.int (2 : Int32)), .val (.ref o1), .val (.int (0 : Int32)), .val (.int (1 : Int32)), .val (.int (0 : Int32)), .val (.int (1 : Int32)), .val (.int (2 : Int32))] [(.int (2 : Int32))]))
                      refine s_iload B X31 (pc' := 427) at_425 rfl rfl ?_
                      refine s_icmpN B X31 (pc' := 430) at_427 (by decide) rfl ?_
                      refine s_aload B X31 (pc' := 432) at_430 rfl rfl rfl ?_
                      refine s_iloadN B X31 (pc' := 433) at_432 rfl rfl ?_
                      refine s_iload B X31 (pc' := 435) at_433 rfl rfl ?_
                      refine p_virtual B X31 (y := mn8) (pc' := 438) (argsL := [(.int (Int32.ofNat u)), (.int (Int32.ofNat t1))]) (under := []) (W := 0) e31 (tw62 hw) (tw63 hw) (tw65 hw) (tw64 hw) (tw66 hw) (tw3 hw) (by decide) (rm_edges l Z a0 hw o1 w_NO_UNITS 0 (fun _ => 0) 4 (fun _ => Bn) C u t1 Tj310.heap Aj310 hu4 (Nat.lt_trans t14 (by decide)) hBn 0 hE3) Aj310.exa (lenOf pd_0 rfl) rfl rfl (by decide) (by decide) rfl rfl (show ce ≤ 32 by omega) (show sl ≤ 192 by omega) rfl at_435 rfl (fun T32 X32 e32 => ?_)
                      show Go p e below _ (T32.setTop (mkF m 438 #[.val (.int i0), .val (.int i1), .val (.int i2), .val (.int (Int32.ofNat u)), .val (.int (Int32.ofNat kq)), .val (.int (Int32.ofNat v)), .val (.int (Int32.ofNat w1)), .val (.int (Int32.ofNat w2)), .val (.int (0 : Int32)), .val (.int (Int32.ofNat f9)), .val (.int (Int32.ofNat t1)), .val (.int (1 : Int32)), .val (.int (Int32.ofNat f12)), .val (.int (Int32.ofNat t2)), .val (.int (Int32.ofNat f14)), .val (.int (2 : Int32)), .val (.ref o1), .val (.int (0 : Int32)), .val (.int (1 : Int32)), .val (.int (0 : Int32)), .val (.int (1 : Int32)), .val (.int (2 : Int32))] [(.int (0 : Int32))]))
                      refine s_iload B X32 (pc' := 440) at_438 rfl rfl ?_
                      refine s_ifY B X32 (pc' := 447) at_440 (by decide) (by decide) (by decide) ?_
                      refine s_iconst B X32 (pc' := 448) (v := (0 : Int32)) at_447 rfl rfl ?_
                      refine s_icmpN B X32 (pc' := 451) at_448 (by decide) rfl ?_
                      refine s_aload B X32 (pc' := 453) at_451 rfl rfl rfl ?_
                      refine s_iload B X32 (pc' := 455) at_453 rfl rfl ?_
                      refine s_iload B X32 (pc' := 457) at_455 rfl rfl ?_
                      refine p_virtual B X32 (y := mn8) (pc' := 460) (argsL := [(.int (Int32.ofNat v)), (.int (Int32.ofNat t2))]) (under := []) (W := 0) e32 (tw62 hw) (tw63 hw) (tw65 hw) (tw64 hw) (tw66 hw) (tw3 hw) (by decide) (rm_edges l Z a0 hw o1 w_NO_UNITS 0 (fun _ => 0) 4 (fun _ => Bn) C v t2 Tj310.heap Aj310 hv4 (Nat.lt_trans t24 (by decide)) hBn 1 hE4) Aj310.exa (lenOf pd_0 rfl) rfl rfl (by decide) (by decide) rfl rfl (show ce ≤ 32 by omega) (show sl ≤ 192 by omega) rfl at_457 rfl (fun T33 X33 e33 => ?_)
                      show Go p e below _ (T33.setTop (mkF m 460 #[.val (.int i0), .val (.int i1), .val (.int i2), .val (.int (Int32.ofNat u)), .val (.int (Int32.ofNat kq)), .val (.int (Int32.ofNat v)), .val (.int (Int32.ofNat w1)), .val (.int (Int32.ofNat w2)), .val (.int (0 : Int32)), .val (.int (Int32.ofNat f9)), .val (.int (Int32.ofNat t1)), .val (.int (1 : Int32)), .val (.int (Int32.ofNat f12)), .val (.int (Int32.ofNat t2)), .val (.int (Int32.ofNat f14)), .val (.int (2 : Int32)), .val (.ref o1), .val (.int (0 : Int32)), .val (.int (1 : Int32)), .val (.int (0 : Int32)), .val (.int (1 : Int32)), .val (.int (2 : Int32))] [(.int (1 : Int32))]))
                      refine s_iload B X33 (pc' := 462) at_460 rfl rfl ?_
                      refine s_ifN B X33 (pc' := 465) at_462 (by decide) rfl ?_
                      refine s_iconst B X33 (pc' := 466) (v := (1 : Int32)) at_465 rfl rfl ?_
                      refine s_goto B X33 (pc' := 470) at_466 (by decide) (by decide) ?_
                      refine s_icmpN B X33 (pc' := 473) at_470 (by decide) rfl ?_
                      refine s_iconst B X33 (pc' := 474) (v := (1 : Int32)) at_473 rfl rfl ?_
                      refine s_goto B X33 (pc' := 478) at_474 (by decide) (by decide) ?_
                      exact r_nar B X33 (t := .boolean) (by simp) rfl at_478 ⟨rfl, Nj310⟩ (show ce ≤ 32 by omega) (show sl ≤ 192 by omega)
                    · obtain rfl := hr0 (by decide)
                      show Go p e below _ (Tj310.setTop (mkF m 310 #[.val (.int i0), .val (.int i1), .val (.int i2), .val (.int (Int32.ofNat u)), .val (.int (Int32.ofNat kq)), .val (.int (Int32.ofNat v)), .val (.int (Int32.ofNat w1)), .val (.int (Int32.ofNat w2)), .val (.int (0 : Int32)), .val (.int (Int32.ofNat f9)), .val (.int (Int32.ofNat t1)), .val (.int (1 : Int32)), .val (.int (Int32.ofNat f12)), .val (.int (Int32.ofNat t2)), .val (.int (Int32.ofNat f14)), .val (.int (3 : Int32)), .val (.ref o1), .unset, .unset, .unset, .unset, .unset] [(.int (0 : Int32))]))
                      refine s_istore B Xj310 (pc' := 312) (Ls' := #[.val (.int i0), .val (.int i1), .val (.int i2), .val (.int (Int32.ofNat u)), .val (.int (Int32.ofNat kq)), .val (.int (Int32.ofNat v)), .val (.int (Int32.ofNat w1)), .val (.int (Int32.ofNat w2)), .val (.int (0 : Int32)), .val (.int (Int32.ofNat f9)), .val (.int (Int32.ofNat t1)), .val (.int (1 : Int32)), .val (.int (Int32.ofNat f12)), .val (.int (Int32.ofNat t2)), .val (.int (Int32.ofNat f14)), .val (.int (3 : Int32)), .val (.ref o1), .val (.int (0 : Int32)), .unset, .unset, .unset, .unset]) at_310 rfl rfl ?_
                      refine s_iload B Xj310 (pc' := 314) at_312 rfl rfl ?_
                      refine s_iconst B Xj310 (pc' := 315) (v := (1 : Int32)) at_314 rfl rfl ?_
                      refine s_isub B Xj310 (pc' := 316) (v := (2 : Int32)) at_315 rfl rfl ?_
                      refine s_istore B Xj310 (pc' := 318) (Ls' := #[.val (.int i0), .val (.int i1), .val (.int i2), .val (.int (Int32.ofNat u)), .val (.int (Int32.ofNat kq)), .val (.int (Int32.ofNat v)), .val (.int (Int32.ofNat w1)), .val (.int (Int32.ofNat w2)), .val (.int (0 : Int32)), .val (.int (Int32.ofNat f9)), .val (.int (Int32.ofNat t1)), .val (.int (1 : Int32)), .val (.int (Int32.ofNat f12)), .val (.int (Int32.ofNat t2)), .val (.int (Int32.ofNat f14)), .val (.int (3 : Int32)), .val (.ref o1), .val (.int (0 : Int32)), .val (.int (2 : Int32)), .unset, .unset, .unset]) at_316 rfl rfl ?_
                      refine s_iload B Xj310 (pc' := 320) at_318 rfl rfl ?_
                      refine s_iconst B Xj310 (pc' := 321) (v := (1 : Int32)) at_320 rfl rfl ?_
                      refine s_icmpY B Xj310 (pc' := 328) at_321 (by decide) (by decide) (by decide) ?_
                      refine s_iconst B Xj310 (pc' := 329) (v := (0 : Int32)) at_328 rfl rfl ?_
                      refine s_istore B Xj310 (pc' := 331) (Ls' := #[.val (.int i0), .val (.int i1), .val (.int i2), .val (.int (Int32.ofNat u)), .val (.int (Int32.ofNat kq)), .val (.int (Int32.ofNat v)), .val (.int (Int32.ofNat w1)), .val (.int (Int32.ofNat w2)), .val (.int (0 : Int32)), .val (.int (Int32.ofNat f9)), .val (.int (Int32.ofNat t1)), .val (.int (1 : Int32)), .val (.int (Int32.ofNat f12)), .val (.int (Int32.ofNat t2)), .val (.int (Int32.ofNat f14)), .val (.int (3 : Int32)), .val (.ref o1), .val (.int (0 : Int32)), .val (.int (2 : Int32)), .val (.int (0 : Int32)), .unset, .unset]) at_329 rfl rfl ?_
                      refine s_iconst B Xj310 (pc' := 332) (v := (1 : Int32)) at_331 rfl rfl ?_
                      refine s_iload B Xj310 (pc' := 334) at_332 rfl rfl ?_
                      refine s_ifY B Xj310 (pc' := 341) at_334 (by decide) (by decide) (by decide) ?_
                      refine s_iconst B Xj310 (pc' := 342) (v := (0 : Int32)) at_341 rfl rfl ?_
                      refine s_iadd B Xj310 (pc' := 343) (v := (1 : Int32)) at_342 rfl rfl ?_
                      refine s_iload B Xj310 (pc' := 345) at_343 rfl rfl ?_
                      refine s_isub B Xj310 (pc' := 346) (v := (1 : Int32)) at_345 rfl rfl ?_
                      refine s_istore B Xj310 (pc' := 348) (Ls' := #[.val (.int i0), .val (.int i1), .val (.int i2), .val (.int (Int32.ofNat u)), .val (.int (Int32.ofNat kq)), .val (.int (Int32.ofNat v)), .val (.int (Int32.ofNat w1)), .val (.int (Int32.ofNat w2)), .val (.int (0 : Int32)), .val (.int (Int32.ofNat f9)), .val (.int (Int32.ofNat t1)), .val (.int (1 : Int32)), .val (.int (Int32.ofNat f12)), .val (.int (Int32.ofNat t2)), .val (.int (Int32.ofNat f14)), .val (.int (3 : Int32)), .val (.ref o1), .val (.int (0 : Int32)), .val (.int (2 : Int32)), .val (.int (0 : Int32)), .val (.int (1 : Int32)), .unset]) at_346 rfl rfl ?_
                      refine s_iconst B Xj310 (pc' := 349) (v := (1 : Int32)) at_348 rfl rfl ?_
                      refine s_iload B Xj310 (pc' := 351) at_349 rfl rfl ?_
                      refine s_ifN B Xj310 (pc' := 354) at_351 (by decide) rfl ?_
                      refine s_iconst B Xj310 (pc' := 355) (v := (1 : Int32)) at_354 rfl rfl ?_
                      refine s_goto B Xj310 (pc' := 359) at_355 (by decide) (by decide) ?_
                      refine s_iadd B Xj310 (pc' := 360) (v := (2 : Int32)) at_359 rfl rfl ?_
                      refine s_iload B Xj310 (pc' := 362) at_360 rfl rfl ?_
                      refine s_isub B Xj310 (pc' := 363) (v := (2 : Int32)) at_362 rfl rfl ?_
                      refine s_istore B Xj310 (pc' := 365) (Ls' := #[.val (.int i0), .val (.int i1), .val (.int i2), .val (.int (Int32.ofNat u)), .val (.int (Int32.ofNat kq)), .val (.int (Int32.ofNat v)), .val (.int (Int32.ofNat w1)), .val (.int (Int32.ofNat w2)), .val (.int (0 : Int32)), .val (.int (Int32.ofNat f9)), .val (.int (Int32.ofNat t1)), .val (.int (1 : Int32)), .val (.int (Int32.ofNat f12)), .val (.int (Int32.ofNat t2)), .val (.int (Int32.ofNat f14)), .val (.int (3 : Int32)), .val (.ref o1), .val (.int (0 : Int32)), .val (.int (2 : Int32)), .val (.int (0 : Int32)), .val (.int (1 : Int32)), .val (.int (2 : Int32))]) at_363 rfl rfl ?_
                      refine s_iload B Xj310 (pc' := 367) at_365 rfl rfl ?_
                      refine s_iload B Xj310 (pc' := 369) at_367 rfl rfl ?_
                      refine s_iconst B Xj310 (pc' := 370) (v := (1 : Int32)) at_369 rfl rfl ?_
                      refine s_icmpY B Xj310 (pc' := 377) at_370 (by decide) (by decide) (by decide) ?_
                      refine s_iconst B Xj310 (pc' := 378) (v := (0 : Int32)) at_377 rfl rfl ?_
                      refine s_icmpN B Xj310 (pc' := 381) at_378 (by decide) rfl ?_
                      refine s_aload B Xj310 (pc' := 383) at_381 rfl rfl rfl ?_
                      refine s_iloadN B Xj310 (pc' := 384) at_383 rfl rfl ?_
                      refine s_iload B Xj310 (pc' := 386) at_384 rfl rfl ?_
                      refine p_virtual B Xj310 (y := mn8) (pc' := 389) (argsL := [(.int (Int32.ofNat u)), (.int (Int32.ofNat v))]) (under := []) (W := 0) rfl (tw62 hw) (tw63 hw) (tw65 hw) (tw64 hw) (tw66 hw) (tw3 hw) (by decide) (rm_edges l Z a0 hw o1 w_NO_UNITS 0 (fun _ => 0) 4 (fun _ => Bn) C u v Tj310.heap Aj310 hu4 (Nat.lt_trans hv4 (by decide)) hBn 2 (hE1.trans (by decide))) Aj310.exa (lenOf pd_0 rfl) rfl rfl (by decide) (by decide) rfl rfl (show ce ≤ 32 by omega) (show sl ≤ 192 by omega) rfl at_386 rfl (fun T34 X34 e34 => ?_)
                      show Go p e below _ (T34.setTop (mkF m 389 #[.val (.int i0), .val (.int i1), .val (.int i2), .val (.int (Int32.ofNat u)), .val (.int (Int32.ofNat kq)), .val (.int (Int32.ofNat v)), .val (.int (Int32.ofNat w1)), .val (.int (Int32.ofNat w2)), .val (.int (0 : Int32)), .val (.int (Int32.ofNat f9)), .val (.int (Int32.ofNat t1)), .val (.int (1 : Int32)), .val (.int (Int32.ofNat f12)), .val (.int (Int32.ofNat t2)), .val (.int (Int32.ofNat f14)), .val (.int (3 : Int32)), .val (.ref o1), .val (.int (0 : Int32)), .val (.int (2 : Int32)), .val (.int (0 : Int32)), .val (.int (1 : Int32)), .val (.int (2 : Int32))] [(.int (2 : Int32))]))
                      refine s_iload B X34 (pc' := 391) at_389 rfl rfl ?_
                      refine s_icmpN B X34 (pc' := 394) at_391 (by decide) rfl ?_
                      refine s_aload B X34 (pc' := 396) at_394 rfl rfl rfl ?_
                      refine s_iload B X34 (pc' := 398) at_396 rfl rfl ?_
                      refine s_iloadN B X34 (pc' := 399) at_398 rfl rfl ?_
                      refine p_virtual B X34 (y := mn8) (pc' := 402) (argsL := [(.int (Int32.ofNat v)), (.int (Int32.ofNat u))]) (under := []) (W := 0) e34 (tw62 hw) (tw63 hw) (tw65 hw) (tw64 hw) (tw66 hw) (tw3 hw) (by decide) (rm_edges l Z a0 hw o1 w_NO_UNITS 0 (fun _ => 0) 4 (fun _ => Bn) C v u Tj310.heap Aj310 hv4 (Nat.lt_trans hu4 (by decide)) hBn 2 (hE2.trans (by decide))) Aj310.exa (lenOf pd_0 rfl) rfl rfl (by decide) (by decide) rfl rfl (show ce ≤ 32 by omega) (show sl ≤ 192 by omega) rfl at_399 rfl (fun T35 X35 e35 => ?_)
                      show Go p e below _ (T35.setTop (mkF m 402 #[.val (.int i0), .val (.int i1), .val (.int i2), .val (.int (Int32.ofNat u)), .val (.int (Int32.ofNat kq)), .val (.int (Int32.ofNat v)), .val (.int (Int32.ofNat w1)), .val (.int (Int32.ofNat w2)), .val (.int (0 : Int32)), .val (.int (Int32.ofNat f9)), .val (.int (Int32.ofNat t1)), .val (.int (1 : Int32)), .val (.int (Int32.ofNat f12)), .val (.int (Int32.ofNat t2)), .val (.int (Int32.ofNat f14)), .val (.int (3 : Int32)), .val (.ref o1), .val (.int (0 : Int32)), .val (.int (2 : Int32)), .val (.int (0 : Int32)), .val (.int (1 : Int32)), .val (.int (2 : Int32))] [(.int (2 : Int32))]))
                      refine s_iload B X35 (pc' := 404) at_402 rfl rfl ?_
                      refine s_icmpN B X35 (pc' := 407) at_404 (by decide) rfl ?_
                      refine s_aload B X35 (pc' := 409) at_407 rfl rfl rfl ?_
                      refine s_iloadN B X35 (pc' := 410) at_409 rfl rfl ?_
                      refine p_virtual B X35 (y := mn9) (pc' := 413) (argsL := [(.int (Int32.ofNat u))]) (under := []) (W := 0) e35 (tw67 hw) (tw68 hw) (tw70 hw) (tw69 hw) (tw71 hw) (tw3 hw) (by decide) (rm_count l Z a0 hw o1 w_NO_UNITS 0 (fun _ => 0) 4 (fun _ => Bn) C u Tj310.heap Aj310 hu4 1 (hE5.trans (by decide))) Aj310.exa (lenOf pd_6 rfl) rfl rfl (by decide) (by decide) rfl rfl (show ce ≤ 32 by omega) (show sl ≤ 192 by omega) rfl at_410 rfl (fun T36 X36 e36 => ?_)
                      show Go p e below _ (T36.setTop (mkF m 413 #[.val (.int i0), .val (.int i1), .val (.int i2), .val (.int (Int32.ofNat u)), .val (.int (Int32.ofNat kq)), .val (.int (Int32.ofNat v)), .val (.int (Int32.ofNat w1)), .val (.int (Int32.ofNat w2)), .val (.int (0 : Int32)), .val (.int (Int32.ofNat f9)), .val (.int (Int32.ofNat t1)), .val (.int (1 : Int32)), .val (.int (Int32.ofNat f12)), .val (.int (Int32.ofNat t2)), .val (.int (Int32.ofNat f14)), .val (.int (3 : Int32)), .val (.ref o1), .val (.int (0 : Int32)), .val (.int (2 : Int32)), .val (.int (0 : Int32)), .val (.int (1 : Int32)), .val (.int (2 : Int32))] [(.int (1 : Int32))]))
                      refine s_iload B X36 (pc' := 415) at_413 rfl rfl ?_
                      refine s_icmpN B X36 (pc' := 418) at_415 (by decide) rfl ?_
                      refine s_aload B X36 (pc' := 420) at_418 rfl rfl rfl ?_
                      refine s_iload B X36 (pc' := 422) at_420 rfl rfl ?_
                      refine p_virtual B X36 (y := mn9) (pc' := 425) (argsL := [(.int (Int32.ofNat v))]) (under := []) (W := 0) e36 (tw67 hw) (tw68 hw) (tw70 hw) (tw69 hw) (tw71 hw) (tw3 hw) (by decide) (rm_count l Z a0 hw o1 w_NO_UNITS 0 (fun _ => 0) 4 (fun _ => Bn) C v Tj310.heap Aj310 hv4 2 (hE6.trans (by decide))) Aj310.exa (lenOf pd_6 rfl) rfl rfl (by decide) (by decide) rfl rfl (show ce ≤ 32 by omega) (show sl ≤ 192 by omega) rfl at_422 rfl (fun T37 X37 e37 => ?_)
                      show Go p e below _ (T37.setTop (mkF m 425 #[.val (.int i0), .val (.int i1), .val (.int i2), .val (.int (Int32.ofNat u)), .val (.int (Int32.ofNat kq)), .val (.int (Int32.ofNat v)), .val (.int (Int32.ofNat w1)), .val (.int (Int32.ofNat w2)), .val (.int (0 : Int32)), .val (.int (Int32.ofNat f9)), .val (.int (Int32.ofNat t1)), .val (.int (1 : Int32)), .val (.int (Int32.ofNat f12)), .val (.int (Int32.ofNat t2)), .val (.int (Int32.ofNat f14)), .val (.int (3 : Int32)), .val (.ref o1), .val (.int (0 : Int32)), .val (.int (2 : Int32)), .val (.int (0 : Int32)), .val (.int (1 : Int32)), .val (.int (2 : Int32))] [(.int (2 : Int32))]))
                      refine s_iload B X37 (pc' := 427) at_425 rfl rfl ?_
                      refine s_icmpN B X37 (pc' := 430) at_427 (by decide) rfl ?_
                      refine s_aload B X37 (pc' := 432) at_430 rfl rfl rfl ?_
                      refine s_iloadN B X37 (pc' := 433) at_432 rfl rfl ?_
                      refine s_iload B X37 (pc' := 435) at_433 rfl rfl ?_
                      refine p_virtual B X37 (y := mn8) (pc' := 438) (argsL := [(.int (Int32.ofNat u)), (.int (Int32.ofNat t1))]) (under := []) (W := 0) e37 (tw62 hw) (tw63 hw) (tw65 hw) (tw64 hw) (tw66 hw) (tw3 hw) (by decide) (rm_edges l Z a0 hw o1 w_NO_UNITS 0 (fun _ => 0) 4 (fun _ => Bn) C u t1 Tj310.heap Aj310 hu4 (Nat.lt_trans t14 (by decide)) hBn 0 hE3) Aj310.exa (lenOf pd_0 rfl) rfl rfl (by decide) (by decide) rfl rfl (show ce ≤ 32 by omega) (show sl ≤ 192 by omega) rfl at_435 rfl (fun T38 X38 e38 => ?_)
                      show Go p e below _ (T38.setTop (mkF m 438 #[.val (.int i0), .val (.int i1), .val (.int i2), .val (.int (Int32.ofNat u)), .val (.int (Int32.ofNat kq)), .val (.int (Int32.ofNat v)), .val (.int (Int32.ofNat w1)), .val (.int (Int32.ofNat w2)), .val (.int (0 : Int32)), .val (.int (Int32.ofNat f9)), .val (.int (Int32.ofNat t1)), .val (.int (1 : Int32)), .val (.int (Int32.ofNat f12)), .val (.int (Int32.ofNat t2)), .val (.int (Int32.ofNat f14)), .val (.int (3 : Int32)), .val (.ref o1), .val (.int (0 : Int32)), .val (.int (2 : Int32)), .val (.int (0 : Int32)), .val (.int (1 : Int32)), .val (.int (2 : Int32))] [(.int (0 : Int32))]))
                      refine s_iload B X38 (pc' := 440) at_438 rfl rfl ?_
                      refine s_ifY B X38 (pc' := 447) at_440 (by decide) (by decide) (by decide) ?_
                      refine s_iconst B X38 (pc' := 448) (v := (0 : Int32)) at_447 rfl rfl ?_
                      refine s_icmpN B X38 (pc' := 451) at_448 (by decide) rfl ?_
                      refine s_aload B X38 (pc' := 453) at_451 rfl rfl rfl ?_
                      refine s_iload B X38 (pc' := 455) at_453 rfl rfl ?_
                      refine s_iload B X38 (pc' := 457) at_455 rfl rfl ?_
                      refine p_virtual B X38 (y := mn8) (pc' := 460) (argsL := [(.int (Int32.ofNat v)), (.int (Int32.ofNat t2))]) (under := []) (W := 0) e38 (tw62 hw) (tw63 hw) (tw65 hw) (tw64 hw) (tw66 hw) (tw3 hw) (by decide) (rm_edges l Z a0 hw o1 w_NO_UNITS 0 (fun _ => 0) 4 (fun _ => Bn) C v t2 Tj310.heap Aj310 hv4 (Nat.lt_trans t24 (by decide)) hBn 1 hE4) Aj310.exa (lenOf pd_0 rfl) rfl rfl (by decide) (by decide) rfl rfl (show ce ≤ 32 by omega) (show sl ≤ 192 by omega) rfl at_457 rfl (fun T39 X39 e39 => ?_)
                      show Go p e below _ (T39.setTop (mkF m 460 #[.val (.int i0), .val (.int i1), .val (.int i2), .val (.int (Int32.ofNat u)), .val (.int (Int32.ofNat kq)), .val (.int (Int32.ofNat v)), .val (.int (Int32.ofNat w1)), .val (.int (Int32.ofNat w2)), .val (.int (0 : Int32)), .val (.int (Int32.ofNat f9)), .val (.int (Int32.ofNat t1)), .val (.int (1 : Int32)), .val (.int (Int32.ofNat f12)), .val (.int (Int32.ofNat t2)), .val (.int (Int32.ofNat f14)), .val (.int (3 : Int32)), .val (.ref o1), .val (.int (0 : Int32)), .val (.int (2 : Int32)), .val (.int (0 : Int32)), .val (.int (1 : Int32)), .val (.int (2 : Int32))] [(.int (1 : Int32))]))
                      refine s_iload B X39 (pc' := 462) at_460 rfl rfl ?_
                      refine s_ifN B X39 (pc' := 465) at_462 (by decide) rfl ?_
                      refine s_iconst B X39 (pc' := 466) (v := (1 : Int32)) at_465 rfl rfl ?_
                      refine s_goto B X39 (pc' := 470) at_466 (by decide) (by decide) ?_
                      refine s_icmpN B X39 (pc' := 473) at_470 (by decide) rfl ?_
                      refine s_iconst B X39 (pc' := 474) (v := (1 : Int32)) at_473 rfl rfl ?_
                      refine s_goto B X39 (pc' := 478) at_474 (by decide) (by decide) ?_
                      exact r_nar B X39 (t := .boolean) (by simp) rfl at_478 ⟨rfl, Nj310⟩ (show ce ≤ 32 by omega) (show sl ≤ 192 by omega)
                · rcases (by omega : f11 = 0 ∨ f11 = 1) with rfl | rfl
                  · rcases (by omega : mm = 1 ∨ mm = 2 ∨ mm = 3) with rfl | rfl | rfl
                    · obtain rfl := hr1 rfl
                      show Go p e below _ (Tj310.setTop (mkF m 310 #[.val (.int i0), .val (.int i1), .val (.int i2), .val (.int (Int32.ofNat u)), .val (.int (Int32.ofNat kq)), .val (.int (Int32.ofNat v)), .val (.int (Int32.ofNat w1)), .val (.int (Int32.ofNat w2)), .val (.int (1 : Int32)), .val (.int (Int32.ofNat f9)), .val (.int (Int32.ofNat t1)), .val (.int (0 : Int32)), .val (.int (Int32.ofNat f12)), .val (.int (Int32.ofNat t2)), .val (.int (Int32.ofNat f14)), .val (.int (1 : Int32)), .val (.ref o1), .unset, .unset, .unset, .unset, .unset] [(.int (1 : Int32))]))
                      refine s_istore B Xj310 (pc' := 312) (Ls' := #[.val (.int i0), .val (.int i1), .val (.int i2), .val (.int (Int32.ofNat u)), .val (.int (Int32.ofNat kq)), .val (.int (Int32.ofNat v)), .val (.int (Int32.ofNat w1)), .val (.int (Int32.ofNat w2)), .val (.int (1 : Int32)), .val (.int (Int32.ofNat f9)), .val (.int (Int32.ofNat t1)), .val (.int (0 : Int32)), .val (.int (Int32.ofNat f12)), .val (.int (Int32.ofNat t2)), .val (.int (Int32.ofNat f14)), .val (.int (1 : Int32)), .val (.ref o1), .val (.int (1 : Int32)), .unset, .unset, .unset, .unset]) at_310 rfl rfl ?_
                      refine s_iload B Xj310 (pc' := 314) at_312 rfl rfl ?_
                      refine s_iconst B Xj310 (pc' := 315) (v := (1 : Int32)) at_314 rfl rfl ?_
                      refine s_isub B Xj310 (pc' := 316) (v := (0 : Int32)) at_315 rfl rfl ?_
                      refine s_istore B Xj310 (pc' := 318) (Ls' := #[.val (.int i0), .val (.int i1), .val (.int i2), .val (.int (Int32.ofNat u)), .val (.int (Int32.ofNat kq)), .val (.int (Int32.ofNat v)), .val (.int (Int32.ofNat w1)), .val (.int (Int32.ofNat w2)), .val (.int (1 : Int32)), .val (.int (Int32.ofNat f9)), .val (.int (Int32.ofNat t1)), .val (.int (0 : Int32)), .val (.int (Int32.ofNat f12)), .val (.int (Int32.ofNat t2)), .val (.int (Int32.ofNat f14)), .val (.int (1 : Int32)), .val (.ref o1), .val (.int (1 : Int32)), .val (.int (0 : Int32)), .unset, .unset, .unset]) at_316 rfl rfl ?_
                      refine s_iload B Xj310 (pc' := 320) at_318 rfl rfl ?_
                      refine s_iconst B Xj310 (pc' := 321) (v := (1 : Int32)) at_320 rfl rfl ?_
                      refine s_icmpN B Xj310 (pc' := 324) at_321 (by decide) rfl ?_
                      refine s_iconst B Xj310 (pc' := 325) (v := (1 : Int32)) at_324 rfl rfl ?_
                      refine s_goto B Xj310 (pc' := 329) at_325 (by decide) (by decide) ?_
                      refine s_istore B Xj310 (pc' := 331) (Ls' := #[.val (.int i0), .val (.int i1), .val (.int i2), .val (.int (Int32.ofNat u)), .val (.int (Int32.ofNat kq)), .val (.int (Int32.ofNat v)), .val (.int (Int32.ofNat w1)), .val (.int (Int32.ofNat w2)), .val (.int (1 : Int32)), .val (.int (Int32.ofNat f9)), .val (.int (Int32.ofNat t1)), .val (.int (0 : Int32)), .val (.int (Int32.ofNat f12)), .val (.int (Int32.ofNat t2)), .val (.int (Int32.ofNat f14)), .val (.int (1 : Int32)), .val (.ref o1), .val (.int (1 : Int32)), .val (.int (0 : Int32)), .val (.int (1 : Int32)), .unset, .unset]) at_329 rfl rfl ?_
                      refine s_iconst B Xj310 (pc' := 332) (v := (1 : Int32)) at_331 rfl rfl ?_
                      refine s_iload B Xj310 (pc' := 334) at_332 rfl rfl ?_
                      refine s_ifN B Xj310 (pc' := 337) at_334 (by decide) rfl ?_
                      refine s_iconst B Xj310 (pc' := 338) (v := (1 : Int32)) at_337 rfl rfl ?_
                      refine s_goto B Xj310 (pc' := 342) at_338 (by decide) (by decide) ?_
                      refine s_iadd B Xj310 (pc' := 343) (v := (2 : Int32)) at_342 rfl rfl ?_
                      refine s_iload B Xj310 (pc' := 345) at_343 rfl rfl ?_
                      refine s_isub B Xj310 (pc' := 346) (v := (1 : Int32)) at_345 rfl rfl ?_
                      refine s_istore B Xj310 (pc' := 348) (Ls' := #[.val (.int i0), .val (.int i1), .val (.int i2), .val (.int (Int32.ofNat u)), .val (.int (Int32.ofNat kq)), .val (.int (Int32.ofNat v)), .val (.int (Int32.ofNat w1)), .val (.int (Int32.ofNat w2)), .val (.int (1 : Int32)), .val (.int (Int32.ofNat f9)), .val (.int (Int32.ofNat t1)), .val (.int (0 : Int32)), .val (.int (Int32.ofNat f12)), .val (.int (Int32.ofNat t2)), .val (.int (Int32.ofNat f14)), .val (.int (1 : Int32)), .val (.ref o1), .val (.int (1 : Int32)), .val (.int (0 : Int32)), .val (.int (1 : Int32)), .val (.int (1 : Int32)), .unset]) at_346 rfl rfl ?_
                      refine s_iconst B Xj310 (pc' := 349) (v := (1 : Int32)) at_348 rfl rfl ?_
                      refine s_iload B Xj310 (pc' := 351) at_349 rfl rfl ?_
                      refine s_ifY B Xj310 (pc' := 358) at_351 (by decide) (by decide) (by decide) ?_
                      refine s_iconst B Xj310 (pc' := 359) (v := (0 : Int32)) at_358 rfl rfl ?_
                      refine s_iadd B Xj310 (pc' := 360) (v := (1 : Int32)) at_359 rfl rfl ?_
                      refine s_iload B Xj310 (pc' := 362) at_360 rfl rfl ?_
                      refine s_isub B Xj310 (pc' := 363) (v := (0 : Int32)) at_362 rfl rfl ?_
                      refine s_istore B Xj310 (pc' := 365) (Ls' := #[.val (.int i0), .val (.int i1), .val (.int i2), .val (.int (Int32.ofNat u)), .val (.int (Int32.ofNat kq)), .val (.int (Int32.ofNat v)), .val (.int (Int32.ofNat w1)), .val (.int (Int32.ofNat w2)), .val (.int (1 : Int32)), .val (.int (Int32.ofNat f9)), .val (.int (Int32.ofNat t1)), .val (.int (0 : Int32)), .val (.int (Int32.ofNat f12)), .val (.int (Int32.ofNat t2)), .val (.int (Int32.ofNat f14)), .val (.int (1 : Int32)), .val (.ref o1), .val (.int (1 : Int32)), .val (.int (0 : Int32)), .val (.int (1 : Int32)), .val (.int (1 : Int32)), .val (.int (0 : Int32))]) at_363 rfl rfl ?_
                      refine s_iload B Xj310 (pc' := 367) at_365 rfl rfl ?_
                      refine s_iload B Xj310 (pc' := 369) at_367 rfl rfl ?_
                      refine s_iconst B Xj310 (pc' := 370) (v := (1 : Int32)) at_369 rfl rfl ?_
                      refine s_icmpN B Xj310 (pc' := 373) at_370 (by decide) rfl ?_
                      refine s_iconst B Xj310 (pc' := 374) (v := (1 : Int32)) at_373 rfl rfl ?_
                      refine s_goto B Xj310 (pc' := 378) at_374 (by decide) (by decide) ?_
                      refine s_icmpN B Xj310 (pc' := 381) at_378 (by decide) rfl ?_
                      refine s_aload B Xj310 (pc' := 383) at_381 rfl rfl rfl ?_
                      refine s_iloadN B Xj310 (pc' := 384) at_383 rfl rfl ?_
                      refine s_iload B Xj310 (pc' := 386) at_384 rfl rfl ?_
                      refine p_virtual B Xj310 (y := mn8) (pc' := 389) (argsL := [(.int (Int32.ofNat u)), (.int (Int32.ofNat v))]) (under := []) (W := 0) rfl (tw62 hw) (tw63 hw) (tw65 hw) (tw64 hw) (tw66 hw) (tw3 hw) (by decide) (rm_edges l Z a0 hw o1 w_NO_UNITS 0 (fun _ => 0) 4 (fun _ => Bn) C u v Tj310.heap Aj310 hu4 (Nat.lt_trans hv4 (by decide)) hBn 0 (hE1.trans (by decide))) Aj310.exa (lenOf pd_0 rfl) rfl rfl (by decide) (by decide) rfl rfl (show ce ≤ 32 by omega) (show sl ≤ 192 by omega) rfl at_386 rfl (fun T40 X40 e40 => ?_)
                      show Go p e below _ (T40.setTop (mkF m 389 #[.val (.int i0), .val (.int i1), .val (.int i2), .val (.int (Int32.ofNat u)), .val (.int (Int32.ofNat kq)), .val (.int (Int32.ofNat v)), .val (.int (Int32.ofNat w1)), .val (.int (Int32.ofNat w2)), .val (.int (1 : Int32)), .val (.int (Int32.ofNat f9)), .val (.int (Int32.ofNat t1)), .val (.int (0 : Int32)), .val (.int (Int32.ofNat f12)), .val (.int (Int32.ofNat t2)), .val (.int (Int32.ofNat f14)), .val (.int (1 : Int32)), .val (.ref o1), .val (.int (1 : Int32)), .val (.int (0 : Int32)), .val (.int (1 : Int32)), .val (.int (1 : Int32)), .val (.int (0 : Int32))] [(.int (0 : Int32))]))
                      refine s_iload B X40 (pc' := 391) at_389 rfl rfl ?_
                      refine s_icmpN B X40 (pc' := 394) at_391 (by decide) rfl ?_
                      refine s_aload B X40 (pc' := 396) at_394 rfl rfl rfl ?_
                      refine s_iload B X40 (pc' := 398) at_396 rfl rfl ?_
                      refine s_iloadN B X40 (pc' := 399) at_398 rfl rfl ?_
                      refine p_virtual B X40 (y := mn8) (pc' := 402) (argsL := [(.int (Int32.ofNat v)), (.int (Int32.ofNat u))]) (under := []) (W := 0) e40 (tw62 hw) (tw63 hw) (tw65 hw) (tw64 hw) (tw66 hw) (tw3 hw) (by decide) (rm_edges l Z a0 hw o1 w_NO_UNITS 0 (fun _ => 0) 4 (fun _ => Bn) C v u Tj310.heap Aj310 hv4 (Nat.lt_trans hu4 (by decide)) hBn 0 (hE2.trans (by decide))) Aj310.exa (lenOf pd_0 rfl) rfl rfl (by decide) (by decide) rfl rfl (show ce ≤ 32 by omega) (show sl ≤ 192 by omega) rfl at_399 rfl (fun T41 X41 e41 => ?_)
                      show Go p e below _ (T41.setTop (mkF m 402 #[.val (.int i0), .val (.int i1), .val (.int i2), .val (.int (Int32.ofNat u)), .val (.int (Int32.ofNat kq)), .val (.int (Int32.ofNat v)), .val (.int (Int32.ofNat w1)), .val (.int (Int32.ofNat w2)), .val (.int (1 : Int32)), .val (.int (Int32.ofNat f9)), .val (.int (Int32.ofNat t1)), .val (.int (0 : Int32)), .val (.int (Int32.ofNat f12)), .val (.int (Int32.ofNat t2)), .val (.int (Int32.ofNat f14)), .val (.int (1 : Int32)), .val (.ref o1), .val (.int (1 : Int32)), .val (.int (0 : Int32)), .val (.int (1 : Int32)), .val (.int (1 : Int32)), .val (.int (0 : Int32))] [(.int (0 : Int32))]))
                      refine s_iload B X41 (pc' := 404) at_402 rfl rfl ?_
                      refine s_icmpN B X41 (pc' := 407) at_404 (by decide) rfl ?_
                      refine s_aload B X41 (pc' := 409) at_407 rfl rfl rfl ?_
                      refine s_iloadN B X41 (pc' := 410) at_409 rfl rfl ?_
                      refine p_virtual B X41 (y := mn9) (pc' := 413) (argsL := [(.int (Int32.ofNat u))]) (under := []) (W := 0) e41 (tw67 hw) (tw68 hw) (tw70 hw) (tw69 hw) (tw71 hw) (tw3 hw) (by decide) (rm_count l Z a0 hw o1 w_NO_UNITS 0 (fun _ => 0) 4 (fun _ => Bn) C u Tj310.heap Aj310 hu4 1 (hE5.trans (by decide))) Aj310.exa (lenOf pd_6 rfl) rfl rfl (by decide) (by decide) rfl rfl (show ce ≤ 32 by omega) (show sl ≤ 192 by omega) rfl at_410 rfl (fun T42 X42 e42 => ?_)
                      show Go p e below _ (T42.setTop (mkF m 413 #[.val (.int i0), .val (.int i1), .val (.int i2), .val (.int (Int32.ofNat u)), .val (.int (Int32.ofNat kq)), .val (.int (Int32.ofNat v)), .val (.int (Int32.ofNat w1)), .val (.int (Int32.ofNat w2)), .val (.int (1 : Int32)), .val (.int (Int32.ofNat f9)), .val (.int (Int32.ofNat t1)), .val (.int (0 : Int32)), .val (.int (Int32.ofNat f12)), .val (.int (Int32.ofNat t2)), .val (.int (Int32.ofNat f14)), .val (.int (1 : Int32)), .val (.ref o1), .val (.int (1 : Int32)), .val (.int (0 : Int32)), .val (.int (1 : Int32)), .val (.int (1 : Int32)), .val (.int (0 : Int32))] [(.int (1 : Int32))]))
                      refine s_iload B X42 (pc' := 415) at_413 rfl rfl ?_
                      refine s_icmpN B X42 (pc' := 418) at_415 (by decide) rfl ?_
                      refine s_aload B X42 (pc' := 420) at_418 rfl rfl rfl ?_
                      refine s_iload B X42 (pc' := 422) at_420 rfl rfl ?_
                      refine p_virtual B X42 (y := mn9) (pc' := 425) (argsL := [(.int (Int32.ofNat v))]) (under := []) (W := 0) e42 (tw67 hw) (tw68 hw) (tw70 hw) (tw69 hw) (tw71 hw) (tw3 hw) (by decide) (rm_count l Z a0 hw o1 w_NO_UNITS 0 (fun _ => 0) 4 (fun _ => Bn) C v Tj310.heap Aj310 hv4 0 (hE6.trans (by decide))) Aj310.exa (lenOf pd_6 rfl) rfl rfl (by decide) (by decide) rfl rfl (show ce ≤ 32 by omega) (show sl ≤ 192 by omega) rfl at_422 rfl (fun T43 X43 e43 => ?_)
                      show Go p e below _ (T43.setTop (mkF m 425 #[.val (.int i0), .val (.int i1), .val (.int i2), .val (.int (Int32.ofNat u)), .val (.int (Int32.ofNat kq)), .val (.int (Int32.ofNat v)), .val (.int (Int32.ofNat w1)), .val (.int (Int32.ofNat w2)), .val (.int (1 : Int32)), .val (.int (Int32.ofNat f9)), .val (.int (Int32.ofNat t1)), .val (.int (0 : Int32)), .val (.int (Int32.ofNat f12)), .val (.int (Int32.ofNat t2)), .val (.int (Int32.ofNat f14)), .val (.int (1 : Int32)), .val (.ref o1), .val (.int (1 : Int32)), .val (.int (0 : Int32)), .val (.int (1 : Int32)), .val (.int (1 : Int32)), .val (.int (0 : Int32))] [(.int (0 : Int32))]))
                      refine s_iload B X43 (pc' := 427) at_425 rfl rfl ?_
                      refine s_icmpN B X43 (pc' := 430) at_427 (by decide) rfl ?_
                      refine s_aload B X43 (pc' := 432) at_430 rfl rfl rfl ?_
                      refine s_iloadN B X43 (pc' := 433) at_432 rfl rfl ?_
                      refine s_iload B X43 (pc' := 435) at_433 rfl rfl ?_
                      refine p_virtual B X43 (y := mn8) (pc' := 438) (argsL := [(.int (Int32.ofNat u)), (.int (Int32.ofNat t1))]) (under := []) (W := 0) e43 (tw62 hw) (tw63 hw) (tw65 hw) (tw64 hw) (tw66 hw) (tw3 hw) (by decide) (rm_edges l Z a0 hw o1 w_NO_UNITS 0 (fun _ => 0) 4 (fun _ => Bn) C u t1 Tj310.heap Aj310 hu4 (Nat.lt_trans t14 (by decide)) hBn 1 hE3) Aj310.exa (lenOf pd_0 rfl) rfl rfl (by decide) (by decide) rfl rfl (show ce ≤ 32 by omega) (show sl ≤ 192 by omega) rfl at_435 rfl (fun T44 X44 e44 => ?_)
                      show Go p e below _ (T44.setTop (mkF m 438 #[.val (.int i0), .val (.int i1), .val (.int i2), .val (.int (Int32.ofNat u)), .val (.int (Int32.ofNat kq)), .val (.int (Int32.ofNat v)), .val (.int (Int32.ofNat w1)), .val (.int (Int32.ofNat w2)), .val (.int (1 : Int32)), .val (.int (Int32.ofNat f9)), .val (.int (Int32.ofNat t1)), .val (.int (0 : Int32)), .val (.int (Int32.ofNat f12)), .val (.int (Int32.ofNat t2)), .val (.int (Int32.ofNat f14)), .val (.int (1 : Int32)), .val (.ref o1), .val (.int (1 : Int32)), .val (.int (0 : Int32)), .val (.int (1 : Int32)), .val (.int (1 : Int32)), .val (.int (0 : Int32))] [(.int (1 : Int32))]))
                      refine s_iload B X44 (pc' := 440) at_438 rfl rfl ?_
                      refine s_ifN B X44 (pc' := 443) at_440 (by decide) rfl ?_
                      refine s_iconst B X44 (pc' := 444) (v := (1 : Int32)) at_443 rfl rfl ?_
                      refine s_goto B X44 (pc' := 448) at_444 (by decide) (by decide) ?_
                      refine s_icmpN B X44 (pc' := 451) at_448 (by decide) rfl ?_
                      refine s_aload B X44 (pc' := 453) at_451 rfl rfl rfl ?_
                      refine s_iload B X44 (pc' := 455) at_453 rfl rfl ?_
                      refine s_iload B X44 (pc' := 457) at_455 rfl rfl ?_
                      refine p_virtual B X44 (y := mn8) (pc' := 460) (argsL := [(.int (Int32.ofNat v)), (.int (Int32.ofNat t2))]) (under := []) (W := 0) e44 (tw62 hw) (tw63 hw) (tw65 hw) (tw64 hw) (tw66 hw) (tw3 hw) (by decide) (rm_edges l Z a0 hw o1 w_NO_UNITS 0 (fun _ => 0) 4 (fun _ => Bn) C v t2 Tj310.heap Aj310 hv4 (Nat.lt_trans t24 (by decide)) hBn 0 hE4) Aj310.exa (lenOf pd_0 rfl) rfl rfl (by decide) (by decide) rfl rfl (show ce ≤ 32 by omega) (show sl ≤ 192 by omega) rfl at_457 rfl (fun T45 X45 e45 => ?_)
                      show Go p e below _ (T45.setTop (mkF m 460 #[.val (.int i0), .val (.int i1), .val (.int i2), .val (.int (Int32.ofNat u)), .val (.int (Int32.ofNat kq)), .val (.int (Int32.ofNat v)), .val (.int (Int32.ofNat w1)), .val (.int (Int32.ofNat w2)), .val (.int (1 : Int32)), .val (.int (Int32.ofNat f9)), .val (.int (Int32.ofNat t1)), .val (.int (0 : Int32)), .val (.int (Int32.ofNat f12)), .val (.int (Int32.ofNat t2)), .val (.int (Int32.ofNat f14)), .val (.int (1 : Int32)), .val (.ref o1), .val (.int (1 : Int32)), .val (.int (0 : Int32)), .val (.int (1 : Int32)), .val (.int (1 : Int32)), .val (.int (0 : Int32))] [(.int (0 : Int32))]))
                      refine s_iload B X45 (pc' := 462) at_460 rfl rfl ?_
                      refine s_ifY B X45 (pc' := 469) at_462 (by decide) (by decide) (by decide) ?_
                      refine s_iconst B X45 (pc' := 470) (v := (0 : Int32)) at_469 rfl rfl ?_
                      refine s_icmpN B X45 (pc' := 473) at_470 (by decide) rfl ?_
                      refine s_iconst B X45 (pc' := 474) (v := (1 : Int32)) at_473 rfl rfl ?_
                      refine s_goto B X45 (pc' := 478) at_474 (by decide) (by decide) ?_
                      exact r_nar B X45 (t := .boolean) (by simp) rfl at_478 ⟨rfl, Nj310⟩ (show ce ≤ 32 by omega) (show sl ≤ 192 by omega)
                    · obtain rfl := hr0 (by decide)
                      show Go p e below _ (Tj310.setTop (mkF m 310 #[.val (.int i0), .val (.int i1), .val (.int i2), .val (.int (Int32.ofNat u)), .val (.int (Int32.ofNat kq)), .val (.int (Int32.ofNat v)), .val (.int (Int32.ofNat w1)), .val (.int (Int32.ofNat w2)), .val (.int (1 : Int32)), .val (.int (Int32.ofNat f9)), .val (.int (Int32.ofNat t1)), .val (.int (0 : Int32)), .val (.int (Int32.ofNat f12)), .val (.int (Int32.ofNat t2)), .val (.int (Int32.ofNat f14)), .val (.int (2 : Int32)), .val (.ref o1), .unset, .unset, .unset, .unset, .unset] [(.int (0 : Int32))]))
                      refine s_istore B Xj310 (pc' := 312) (Ls' := #[.val (.int i0), .val (.int i1), .val (.int i2), .val (.int (Int32.ofNat u)), .val (.int (Int32.ofNat kq)), .val (.int (Int32.ofNat v)), .val (.int (Int32.ofNat w1)), .val (.int (Int32.ofNat w2)), .val (.int (1 : Int32)), .val (.int (Int32.ofNat f9)), .val (.int (Int32.ofNat t1)), .val (.int (0 : Int32)), .val (.int (Int32.ofNat f12)), .val (.int (Int32.ofNat t2)), .val (.int (Int32.ofNat f14)), .val (.int (2 : Int32)), .val (.ref o1), .val (.int (0 : Int32)), .unset, .unset, .unset, .unset]) at_310 rfl rfl ?_
                      refine s_iload B Xj310 (pc' := 314) at_312 rfl rfl ?_
                      refine s_iconst B Xj310 (pc' := 315) (v := (1 : Int32)) at_314 rfl rfl ?_
                      refine s_isub B Xj310 (pc' := 316) (v := (1 : Int32)) at_315 rfl rfl ?_
                      refine s_istore B Xj310 (pc' := 318) (Ls' := #[.val (.int i0), .val (.int i1), .val (.int i2), .val (.int (Int32.ofNat u)), .val (.int (Int32.ofNat kq)), .val (.int (Int32.ofNat v)), .val (.int (Int32.ofNat w1)), .val (.int (Int32.ofNat w2)), .val (.int (1 : Int32)), .val (.int (Int32.ofNat f9)), .val (.int (Int32.ofNat t1)), .val (.int (0 : Int32)), .val (.int (Int32.ofNat f12)), .val (.int (Int32.ofNat t2)), .val (.int (Int32.ofNat f14)), .val (.int (2 : Int32)), .val (.ref o1), .val (.int (0 : Int32)), .val (.int (1 : Int32)), .unset, .unset, .unset]) at_316 rfl rfl ?_
                      refine s_iload B Xj310 (pc' := 320) at_318 rfl rfl ?_
                      refine s_iconst B Xj310 (pc' := 321) (v := (1 : Int32)) at_320 rfl rfl ?_
                      refine s_icmpY B Xj310 (pc' := 328) at_321 (by decide) (by decide) (by decide) ?_
                      refine s_iconst B Xj310 (pc' := 329) (v := (0 : Int32)) at_328 rfl rfl ?_
                      refine s_istore B Xj310 (pc' := 331) (Ls' := #[.val (.int i0), .val (.int i1), .val (.int i2), .val (.int (Int32.ofNat u)), .val (.int (Int32.ofNat kq)), .val (.int (Int32.ofNat v)), .val (.int (Int32.ofNat w1)), .val (.int (Int32.ofNat w2)), .val (.int (1 : Int32)), .val (.int (Int32.ofNat f9)), .val (.int (Int32.ofNat t1)), .val (.int (0 : Int32)), .val (.int (Int32.ofNat f12)), .val (.int (Int32.ofNat t2)), .val (.int (Int32.ofNat f14)), .val (.int (2 : Int32)), .val (.ref o1), .val (.int (0 : Int32)), .val (.int (1 : Int32)), .val (.int (0 : Int32)), .unset, .unset]) at_329 rfl rfl ?_
                      refine s_iconst B Xj310 (pc' := 332) (v := (1 : Int32)) at_331 rfl rfl ?_
                      refine s_iload B Xj310 (pc' := 334) at_332 rfl rfl ?_
                      refine s_ifN B Xj310 (pc' := 337) at_334 (by decide) rfl ?_
                      refine s_iconst B Xj310 (pc' := 338) (v := (1 : Int32)) at_337 rfl rfl ?_
                      refine s_goto B Xj310 (pc' := 342) at_338 (by decide) (by decide) ?_
                      refine s_iadd B Xj310 (pc' := 343) (v := (2 : Int32)) at_342 rfl rfl ?_
                      refine s_iload B Xj310 (pc' := 345) at_343 rfl rfl ?_
                      refine s_isub B Xj310 (pc' := 346) (v := (2 : Int32)) at_345 rfl rfl ?_
                      refine s_istore B Xj310 (pc' := 348) (Ls' := #[.val (.int i0), .val (.int i1), .val (.int i2), .val (.int (Int32.ofNat u)), .val (.int (Int32.ofNat kq)), .val (.int (Int32.ofNat v)), .val (.int (Int32.ofNat w1)), .val (.int (Int32.ofNat w2)), .val (.int (1 : Int32)), .val (.int (Int32.ofNat f9)), .val (.int (Int32.ofNat t1)), .val (.int (0 : Int32)), .val (.int (Int32.ofNat f12)), .val (.int (Int32.ofNat t2)), .val (.int (Int32.ofNat f14)), .val (.int (2 : Int32)), .val (.ref o1), .val (.int (0 : Int32)), .val (.int (1 : Int32)), .val (.int (0 : Int32)), .val (.int (2 : Int32)), .unset]) at_346 rfl rfl ?_
                      refine s_iconst B Xj310 (pc' := 349) (v := (1 : Int32)) at_348 rfl rfl ?_
                      refine s_iload B Xj310 (pc' := 351) at_349 rfl rfl ?_
                      refine s_ifY B Xj310 (pc' := 358) at_351 (by decide) (by decide) (by decide) ?_
                      refine s_iconst B Xj310 (pc' := 359) (v := (0 : Int32)) at_358 rfl rfl ?_
                      refine s_iadd B Xj310 (pc' := 360) (v := (1 : Int32)) at_359 rfl rfl ?_
                      refine s_iload B Xj310 (pc' := 362) at_360 rfl rfl ?_
                      refine s_isub B Xj310 (pc' := 363) (v := (1 : Int32)) at_362 rfl rfl ?_
                      refine s_istore B Xj310 (pc' := 365) (Ls' := #[.val (.int i0), .val (.int i1), .val (.int i2), .val (.int (Int32.ofNat u)), .val (.int (Int32.ofNat kq)), .val (.int (Int32.ofNat v)), .val (.int (Int32.ofNat w1)), .val (.int (Int32.ofNat w2)), .val (.int (1 : Int32)), .val (.int (Int32.ofNat f9)), .val (.int (Int32.ofNat t1)), .val (.int (0 : Int32)), .val (.int (Int32.ofNat f12)), .val (.int (Int32.ofNat t2)), .val (.int (Int32.ofNat f14)), .val (.int (2 : Int32)), .val (.ref o1), .val (.int (0 : Int32)), .val (.int (1 : Int32)), .val (.int (0 : Int32)), .val (.int (2 : Int32)), .val (.int (1 : Int32))]) at_363 rfl rfl ?_
                      refine s_iload B Xj310 (pc' := 367) at_365 rfl rfl ?_
                      refine s_iload B Xj310 (pc' := 369) at_367 rfl rfl ?_
                      refine s_iconst B Xj310 (pc' := 370) (v := (1 : Int32)) at_369 rfl rfl ?_
                      refine s_icmpY B Xj310 (pc' := 377) at_370 (by decide) (by decide) (by decide) ?_
                      refine s_iconst B Xj310 (pc' := 378) (v := (0 : Int32)) at_377 rfl rfl ?_
                      refine s_icmpN B Xj310 (pc' := 381) at_378 (by decide) rfl ?_
                      refine s_aload B Xj310 (pc' := 383) at_381 rfl rfl rfl ?_
                      refine s_iloadN B Xj310 (pc' := 384) at_383 rfl rfl ?_
                      refine s_iload B Xj310 (pc' := 386) at_384 rfl rfl ?_
                      refine p_virtual B Xj310 (y := mn8) (pc' := 389) (argsL := [(.int (Int32.ofNat u)), (.int (Int32.ofNat v))]) (under := []) (W := 0) rfl (tw62 hw) (tw63 hw) (tw65 hw) (tw64 hw) (tw66 hw) (tw3 hw) (by decide) (rm_edges l Z a0 hw o1 w_NO_UNITS 0 (fun _ => 0) 4 (fun _ => Bn) C u v Tj310.heap Aj310 hu4 (Nat.lt_trans hv4 (by decide)) hBn 1 (hE1.trans (by decide))) Aj310.exa (lenOf pd_0 rfl) rfl rfl (by decide) (by decide) rfl rfl (show ce ≤ 32 by omega) (show sl ≤ 192 by omega) rfl at_386 rfl (fun T46 X46 e46 => ?_)
                      show Go p e below _ (T46.setTop (mkF m 389 #[.val (.int i0), .val (.int i1), .val (.int i2), .val (.int (Int32.ofNat u)), .val (.int (Int32.ofNat kq)), .val (.int (Int32.ofNat v)), .val (.int (Int32.ofNat w1)), .val (.int (Int32.ofNat w2)), .val (.int (1 : Int32)), .val (.int (Int32.ofNat f9)), .val (.int (Int32.ofNat t1)), .val (.int (0 : Int32)), .val (.int (Int32.ofNat f12)), .val (.int (Int32.ofNat t2)), .val (.int (Int32.ofNat f14)), .val (.int (2 : Int32)), .val (.ref o1), .val (.int (0 : Int32)), .val (.int (1 : Int32)), .val (.int (0 : Int32)), .val (.int (2 : Int32)), .val (.int (1 : Int32))] [(.int (1 : Int32))]))
                      refine s_iload B X46 (pc' := 391) at_389 rfl rfl ?_
                      refine s_icmpN B X46 (pc' := 394) at_391 (by decide) rfl ?_
                      refine s_aload B X46 (pc' := 396) at_394 rfl rfl rfl ?_
                      refine s_iload B X46 (pc' := 398) at_396 rfl rfl ?_
                      refine s_iloadN B X46 (pc' := 399) at_398 rfl rfl ?_
                      refine p_virtual B X46 (y := mn8) (pc' := 402) (argsL := [(.int (Int32.ofNat v)), (.int (Int32.ofNat u))]) (under := []) (W := 0) e46 (tw62 hw) (tw63 hw) (tw65 hw) (tw64 hw) (tw66 hw) (tw3 hw) (by decide) (rm_edges l Z a0 hw o1 w_NO_UNITS 0 (fun _ => 0) 4 (fun _ => Bn) C v u Tj310.heap Aj310 hv4 (Nat.lt_trans hu4 (by decide)) hBn 1 (hE2.trans (by decide))) Aj310.exa (lenOf pd_0 rfl) rfl rfl (by decide) (by decide) rfl rfl (show ce ≤ 32 by omega) (show sl ≤ 192 by omega) rfl at_399 rfl (fun T47 X47 e47 => ?_)
                      show Go p e below _ (T47.setTop (mkF m 402 #[.val (.int i0), .val (.int i1), .val (.int i2), .val (.int (Int32.ofNat u)), .val (.int (Int32.ofNat kq)), .val (.int (Int32.ofNat v)), .val (.int (Int32.ofNat w1)), .val (.int (Int32.ofNat w2)), .val (.int (1 : Int32)), .val (.int (Int32.ofNat f9)), .val (.int (Int32.ofNat t1)), .val (.int (0 : Int32)), .val (.int (Int32.ofNat f12)), .val (.int (Int32.ofNat t2)), .val (.int (Int32.ofNat f14)), .val (.int (2 : Int32)), .val (.ref o1), .val (.int (0 : Int32)), .val (.int (1 : Int32)), .val (.int (0 : Int32)), .val (.int (2 : Int32)), .val (.int (1 : Int32))] [(.int (1 : Int32))]))
                      refine s_iload B X47 (pc' := 404) at_402 rfl rfl ?_
                      refine s_icmpN B X47 (pc' := 407) at_404 (by decide) rfl ?_
                      refine s_aload B X47 (pc' := 409) at_407 rfl rfl rfl ?_
                      refine s_iloadN B X47 (pc' := 410) at_409 rfl rfl ?_
                      refine p_virtual B X47 (y := mn9) (pc' := 413) (argsL := [(.int (Int32.ofNat u))]) (under := []) (W := 0) e47 (tw67 hw) (tw68 hw) (tw70 hw) (tw69 hw) (tw71 hw) (tw3 hw) (by decide) (rm_count l Z a0 hw o1 w_NO_UNITS 0 (fun _ => 0) 4 (fun _ => Bn) C u Tj310.heap Aj310 hu4 2 (hE5.trans (by decide))) Aj310.exa (lenOf pd_6 rfl) rfl rfl (by decide) (by decide) rfl rfl (show ce ≤ 32 by omega) (show sl ≤ 192 by omega) rfl at_410 rfl (fun T48 X48 e48 => ?_)
                      show Go p e below _ (T48.setTop (mkF m 413 #[.val (.int i0), .val (.int i1), .val (.int i2), .val (.int (Int32.ofNat u)), .val (.int (Int32.ofNat kq)), .val (.int (Int32.ofNat v)), .val (.int (Int32.ofNat w1)), .val (.int (Int32.ofNat w2)), .val (.int (1 : Int32)), .val (.int (Int32.ofNat f9)), .val (.int (Int32.ofNat t1)), .val (.int (0 : Int32)), .val (.int (Int32.ofNat f12)), .val (.int (Int32.ofNat t2)), .val (.int (Int32.ofNat f14)), .val (.int (2 : Int32)), .val (.ref o1), .val (.int (0 : Int32)), .val (.int (1 : Int32)), .val (.int (0 : Int32)), .val (.int (2 : Int32)), .val (.int (1 : Int32))] [(.int (2 : Int32))]))
                      refine s_iload B X48 (pc' := 415) at_413 rfl rfl ?_
                      refine s_icmpN B X48 (pc' := 418) at_415 (by decide) rfl ?_
                      refine s_aload B X48 (pc' := 420) at_418 rfl rfl rfl ?_
                      refine s_iload B X48 (pc' := 422) at_420 rfl rfl ?_
                      refine p_virtual B X48 (y := mn9) (pc' := 425) (argsL := [(.int (Int32.ofNat v))]) (under := []) (W := 0) e48 (tw67 hw) (tw68 hw) (tw70 hw) (tw69 hw) (tw71 hw) (tw3 hw) (by decide) (rm_count l Z a0 hw o1 w_NO_UNITS 0 (fun _ => 0) 4 (fun _ => Bn) C v Tj310.heap Aj310 hv4 1 (hE6.trans (by decide))) Aj310.exa (lenOf pd_6 rfl) rfl rfl (by decide) (by decide) rfl rfl (show ce ≤ 32 by omega) (show sl ≤ 192 by omega) rfl at_422 rfl (fun T49 X49 e49 => ?_)
                      show Go p e below _ (T49.setTop (mkF m 425 #[.val (.int i0), .val (.int i1), .val (.int i2), .val (.int (Int32.ofNat u)), .val (.int (Int32.ofNat kq)), .val (.int (Int32.ofNat v)), .val (.int (Int32.ofNat w1)), .val (.int (Int32.ofNat w2)), .val (.int (1 : Int32)), .val (.int (Int32.ofNat f9)), .val (.int (Int32.ofNat t1)), .val (.int (0 : Int32)), .val (.int (Int32.ofNat f12)), .val (.int (Int32.ofNat t2)), .val (.int (Int32.ofNat f14)), .val (.int (2 : Int32)), .val (.ref o1), .val (.int (0 : Int32)), .val (.int (1 : Int32)), .val (.int (0 : Int32)), .val (.int (2 : Int32)), .val (.int (1 : Int32))] [(.int (1 : Int32))]))
                      refine s_iload B X49 (pc' := 427) at_425 rfl rfl ?_
                      refine s_icmpN B X49 (pc' := 430) at_427 (by decide) rfl ?_
                      refine s_aload B X49 (pc' := 432) at_430 rfl rfl rfl ?_
                      refine s_iloadN B X49 (pc' := 433) at_432 rfl rfl ?_
                      refine s_iload B X49 (pc' := 435) at_433 rfl rfl ?_
                      refine p_virtual B X49 (y := mn8) (pc' := 438) (argsL := [(.int (Int32.ofNat u)), (.int (Int32.ofNat t1))]) (under := []) (W := 0) e49 (tw62 hw) (tw63 hw) (tw65 hw) (tw64 hw) (tw66 hw) (tw3 hw) (by decide) (rm_edges l Z a0 hw o1 w_NO_UNITS 0 (fun _ => 0) 4 (fun _ => Bn) C u t1 Tj310.heap Aj310 hu4 (Nat.lt_trans t14 (by decide)) hBn 1 hE3) Aj310.exa (lenOf pd_0 rfl) rfl rfl (by decide) (by decide) rfl rfl (show ce ≤ 32 by omega) (show sl ≤ 192 by omega) rfl at_435 rfl (fun T50 X50 e50 => ?_)
                      show Go p e below _ (T50.setTop (mkF m 438 #[.val (.int i0), .val (.int i1), .val (.int i2), .val (.int (Int32.ofNat u)), .val (.int (Int32.ofNat kq)), .val (.int (Int32.ofNat v)), .val (.int (Int32.ofNat w1)), .val (.int (Int32.ofNat w2)), .val (.int (1 : Int32)), .val (.int (Int32.ofNat f9)), .val (.int (Int32.ofNat t1)), .val (.int (0 : Int32)), .val (.int (Int32.ofNat f12)), .val (.int (Int32.ofNat t2)), .val (.int (Int32.ofNat f14)), .val (.int (2 : Int32)), .val (.ref o1), .val (.int (0 : Int32)), .val (.int (1 : Int32)), .val (.int (0 : Int32)), .val (.int (2 : Int32)), .val (.int (1 : Int32))] [(.int (1 : Int32))]))
                      refine s_iload B X50 (pc' := 440) at_438 rfl rfl ?_
                      refine s_ifN B X50 (pc' := 443) at_440 (by decide) rfl ?_
                      refine s_iconst B X50 (pc' := 444) (v := (1 : Int32)) at_443 rfl rfl ?_
                      refine s_goto B X50 (pc' := 448) at_444 (by decide) (by decide) ?_
                      refine s_icmpN B X50 (pc' := 451) at_448 (by decide) rfl ?_
                      refine s_aload B X50 (pc' := 453) at_451 rfl rfl rfl ?_
                      refine s_iload B X50 (pc' := 455) at_453 rfl rfl ?_
                      refine s_iload B X50 (pc' := 457) at_455 rfl rfl ?_
                      refine p_virtual B X50 (y := mn8) (pc' := 460) (argsL := [(.int (Int32.ofNat v)), (.int (Int32.ofNat t2))]) (under := []) (W := 0) e50 (tw62 hw) (tw63 hw) (tw65 hw) (tw64 hw) (tw66 hw) (tw3 hw) (by decide) (rm_edges l Z a0 hw o1 w_NO_UNITS 0 (fun _ => 0) 4 (fun _ => Bn) C v t2 Tj310.heap Aj310 hv4 (Nat.lt_trans t24 (by decide)) hBn 0 hE4) Aj310.exa (lenOf pd_0 rfl) rfl rfl (by decide) (by decide) rfl rfl (show ce ≤ 32 by omega) (show sl ≤ 192 by omega) rfl at_457 rfl (fun T51 X51 e51 => ?_)
                      show Go p e below _ (T51.setTop (mkF m 460 #[.val (.int i0), .val (.int i1), .val (.int i2), .val (.int (Int32.ofNat u)), .val (.int (Int32.ofNat kq)), .val (.int (Int32.ofNat v)), .val (.int (Int32.ofNat w1)), .val (.int (Int32.ofNat w2)), .val (.int (1 : Int32)), .val (.int (Int32.ofNat f9)), .val (.int (Int32.ofNat t1)), .val (.int (0 : Int32)), .val (.int (Int32.ofNat f12)), .val (.int (Int32.ofNat t2)), .val (.int (Int32.ofNat f14)), .val (.int (2 : Int32)), .val (.ref o1), .val (.int (0 : Int32)), .val (.int (1 : Int32)), .val (.int (0 : Int32)), .val (.int (2 : Int32)), .val (.int (1 : Int32))] [(.int (0 : Int32))]))
                      refine s_iload B X51 (pc' := 462) at_460 rfl rfl ?_
                      refine s_ifY B X51 (pc' := 469) at_462 (by decide) (by decide) (by decide) ?_
                      refine s_iconst B X51 (pc' := 470) (v := (0 : Int32)) at_469 rfl rfl ?_
                      refine s_icmpN B X51 (pc' := 473) at_470 (by decide) rfl ?_
                      refine s_iconst B X51 (pc' := 474) (v := (1 : Int32)) at_473 rfl rfl ?_
                      refine s_goto B X51 (pc' := 478) at_474 (by decide) (by decide) ?_
                      exact r_nar B X51 (t := .boolean) (by simp) rfl at_478 ⟨rfl, Nj310⟩ (show ce ≤ 32 by omega) (show sl ≤ 192 by omega)
                    · obtain rfl := hr0 (by decide)
                      show Go p e below _ (Tj310.setTop (mkF m 310 #[.val (.int i0), .val (.int i1), .val (.int i2), .val (.int (Int32.ofNat u)), .val (.int (Int32.ofNat kq)), .val (.int (Int32.ofNat v)), .val (.int (Int32.ofNat w1)), .val (.int (Int32.ofNat w2)), .val (.int (1 : Int32)), .val (.int (Int32.ofNat f9)), .val (.int (Int32.ofNat t1)), .val (.int (0 : Int32)), .val (.int (Int32.ofNat f12)), .val (.int (Int32.ofNat t2)), .val (.int (Int32.ofNat f14)), .val (.int (3 : Int32)), .val (.ref o1), .unset, .unset, .unset, .unset, .unset] [(.int (0 : Int32))]))
                      refine s_istore B Xj310 (pc' := 312) (Ls' := #[.val (.int i0), .val (.int i1), .val (.int i2), .val (.int (Int32.ofNat u)), .val (.int (Int32.ofNat kq)), .val (.int (Int32.ofNat v)), .val (.int (Int32.ofNat w1)), .val (.int (Int32.ofNat w2)), .val (.int (1 : Int32)), .val (.int (Int32.ofNat f9)), .val (.int (Int32.ofNat t1)), .val (.int (0 : Int32)), .val (.int (Int32.ofNat f12)), .val (.int (Int32.ofNat t2)), .val (.int (Int32.ofNat f14)), .val (.int (3 : Int32)), .val (.ref o1), .val (.int (0 : Int32)), .unset, .unset, .unset, .unset]) at_310 rfl rfl ?_
                      refine s_iload B Xj310 (pc' := 314) at_312 rfl rfl ?_
                      refine s_iconst B Xj310 (pc' := 315) (v := (1 : Int32)) at_314 rfl rfl ?_
                      refine s_isub B Xj310 (pc' := 316) (v := (2 : Int32)) at_315 rfl rfl ?_
                      refine s_istore B Xj310 (pc' := 318) (Ls' := #[.val (.int i0), .val (.int i1), .val (.int i2), .val (.int (Int32.ofNat u)), .val (.int (Int32.ofNat kq)), .val (.int (Int32.ofNat v)), .val (.int (Int32.ofNat w1)), .val (.int (Int32.ofNat w2)), .val (.int (1 : Int32)), .val (.int (Int32.ofNat f9)), .val (.int (Int32.ofNat t1)), .val (.int (0 : Int32)), .val (.int (Int32.ofNat f12)), .val (.int (Int32.ofNat t2)), .val (.int (Int32.ofNat f14)), .val (.int (3 : Int32)), .val (.ref o1), .val (.int (0 : Int32)), .val (.int (2 : Int32)), .unset, .unset, .unset]) at_316 rfl rfl ?_
                      refine s_iload B Xj310 (pc' := 320) at_318 rfl rfl ?_
                      refine s_iconst B Xj310 (pc' := 321) (v := (1 : Int32)) at_320 rfl rfl ?_
                      refine s_icmpY B Xj310 (pc' := 328) at_321 (by decide) (by decide) (by decide) ?_
                      refine s_iconst B Xj310 (pc' := 329) (v := (0 : Int32)) at_328 rfl rfl ?_
                      refine s_istore B Xj310 (pc' := 331) (Ls' := #[.val (.int i0), .val (.int i1), .val (.int i2), .val (.int (Int32.ofNat u)), .val (.int (Int32.ofNat kq)), .val (.int (Int32.ofNat v)), .val (.int (Int32.ofNat w1)), .val (.int (Int32.ofNat w2)), .val (.int (1 : Int32)), .val (.int (Int32.ofNat f9)), .val (.int (Int32.ofNat t1)), .val (.int (0 : Int32)), .val (.int (Int32.ofNat f12)), .val (.int (Int32.ofNat t2)), .val (.int (Int32.ofNat f14)), .val (.int (3 : Int32)), .val (.ref o1), .val (.int (0 : Int32)), .val (.int (2 : Int32)), .val (.int (0 : Int32)), .unset, .unset]) at_329 rfl rfl ?_
                      refine s_iconst B Xj310 (pc' := 332) (v := (1 : Int32)) at_331 rfl rfl ?_
                      refine s_iload B Xj310 (pc' := 334) at_332 rfl rfl ?_
                      refine s_ifN B Xj310 (pc' := 337) at_334 (by decide) rfl ?_
                      refine s_iconst B Xj310 (pc' := 338) (v := (1 : Int32)) at_337 rfl rfl ?_
                      refine s_goto B Xj310 (pc' := 342) at_338 (by decide) (by decide) ?_
                      refine s_iadd B Xj310 (pc' := 343) (v := (2 : Int32)) at_342 rfl rfl ?_
                      refine s_iload B Xj310 (pc' := 345) at_343 rfl rfl ?_
                      refine s_isub B Xj310 (pc' := 346) (v := (2 : Int32)) at_345 rfl rfl ?_
                      refine s_istore B Xj310 (pc' := 348) (Ls' := #[.val (.int i0), .val (.int i1), .val (.int i2), .val (.int (Int32.ofNat u)), .val (.int (Int32.ofNat kq)), .val (.int (Int32.ofNat v)), .val (.int (Int32.ofNat w1)), .val (.int (Int32.ofNat w2)), .val (.int (1 : Int32)), .val (.int (Int32.ofNat f9)), .val (.int (Int32.ofNat t1)), .val (.int (0 : Int32)), .val (.int (Int32.ofNat f12)), .val (.int (Int32.ofNat t2)), .val (.int (Int32.ofNat f14)), .val (.int (3 : Int32)), .val (.ref o1), .val (.int (0 : Int32)), .val (.int (2 : Int32)), .val (.int (0 : Int32)), .val (.int (2 : Int32)), .unset]) at_346 rfl rfl ?_
                      refine s_iconst B Xj310 (pc' := 349) (v := (1 : Int32)) at_348 rfl rfl ?_
                      refine s_iload B Xj310 (pc' := 351) at_349 rfl rfl ?_
                      refine s_ifY B Xj310 (pc' := 358) at_351 (by decide) (by decide) (by decide) ?_
                      refine s_iconst B Xj310 (pc' := 359) (v := (0 : Int32)) at_358 rfl rfl ?_
                      refine s_iadd B Xj310 (pc' := 360) (v := (1 : Int32)) at_359 rfl rfl ?_
                      refine s_iload B Xj310 (pc' := 362) at_360 rfl rfl ?_
                      refine s_isub B Xj310 (pc' := 363) (v := (1 : Int32)) at_362 rfl rfl ?_
                      refine s_istore B Xj310 (pc' := 365) (Ls' := #[.val (.int i0), .val (.int i1), .val (.int i2), .val (.int (Int32.ofNat u)), .val (.int (Int32.ofNat kq)), .val (.int (Int32.ofNat v)), .val (.int (Int32.ofNat w1)), .val (.int (Int32.ofNat w2)), .val (.int (1 : Int32)), .val (.int (Int32.ofNat f9)), .val (.int (Int32.ofNat t1)), .val (.int (0 : Int32)), .val (.int (Int32.ofNat f12)), .val (.int (Int32.ofNat t2)), .val (.int (Int32.ofNat f14)), .val (.int (3 : Int32)), .val (.ref o1), .val (.int (0 : Int32)), .val (.int (2 : Int32)), .val (.int (0 : Int32)), .val (.int (2 : Int32)), .val (.int (1 : Int32))]) at_363 rfl rfl ?_
                      refine s_iload B Xj310 (pc' := 367) at_365 rfl rfl ?_
                      refine s_iload B Xj310 (pc' := 369) at_367 rfl rfl ?_
                      refine s_iconst B Xj310 (pc' := 370) (v := (1 : Int32)) at_369 rfl rfl ?_
                      refine s_icmpY B Xj310 (pc' := 377) at_370 (by decide) (by decide) (by decide) ?_
                      refine s_iconst B Xj310 (pc' := 378) (v := (0 : Int32)) at_377 rfl rfl ?_
                      refine s_icmpN B Xj310 (pc' := 381) at_378 (by decide) rfl ?_
                      refine s_aload B Xj310 (pc' := 383) at_381 rfl rfl rfl ?_
                      refine s_iloadN B Xj310 (pc' := 384) at_383 rfl rfl ?_
                      refine s_iload B Xj310 (pc' := 386) at_384 rfl rfl ?_
                      refine p_virtual B Xj310 (y := mn8) (pc' := 389) (argsL := [(.int (Int32.ofNat u)), (.int (Int32.ofNat v))]) (under := []) (W := 0) rfl (tw62 hw) (tw63 hw) (tw65 hw) (tw64 hw) (tw66 hw) (tw3 hw) (by decide) (rm_edges l Z a0 hw o1 w_NO_UNITS 0 (fun _ => 0) 4 (fun _ => Bn) C u v Tj310.heap Aj310 hu4 (Nat.lt_trans hv4 (by decide)) hBn 2 (hE1.trans (by decide))) Aj310.exa (lenOf pd_0 rfl) rfl rfl (by decide) (by decide) rfl rfl (show ce ≤ 32 by omega) (show sl ≤ 192 by omega) rfl at_386 rfl (fun T52 X52 e52 => ?_)
                      show Go p e below _ (T52.setTop (mkF m 389 #[.val (.int i0), .val (.int i1), .val (.int i2), .val (.int (Int32.ofNat u)), .val (.int (Int32.ofNat kq)), .val (.int (Int32.ofNat v)), .val (.int (Int32.ofNat w1)), .val (.int (Int32.ofNat w2)), .val (.int (1 : Int32)), .val (.int (Int32.ofNat f9)), .val (.int (Int32.ofNat t1)), .val (.int (0 : Int32)), .val (.int (Int32.ofNat f12)), .val (.int (Int32.ofNat t2)), .val (.int (Int32.ofNat f14)), .val (.int (3 : Int32)), .val (.ref o1), .val (.int (0 : Int32)), .val (.int (2 : Int32)), .val (.int (0 : Int32)), .val (.int (2 : Int32)), .val (.int (1 : Int32))] [(.int (2 : Int32))]))
                      refine s_iload B X52 (pc' := 391) at_389 rfl rfl ?_
                      refine s_icmpN B X52 (pc' := 394) at_391 (by decide) rfl ?_
                      refine s_aload B X52 (pc' := 396) at_394 rfl rfl rfl ?_
                      refine s_iload B X52 (pc' := 398) at_396 rfl rfl ?_
                      refine s_iloadN B X52 (pc' := 399) at_398 rfl rfl ?_
                      refine p_virtual B X52 (y := mn8) (pc' := 402) (argsL := [(.int (Int32.ofNat v)), (.int (Int32.ofNat u))]) (under := []) (W := 0) e52 (tw62 hw) (tw63 hw) (tw65 hw) (tw64 hw) (tw66 hw) (tw3 hw) (by decide) (rm_edges l Z a0 hw o1 w_NO_UNITS 0 (fun _ => 0) 4 (fun _ => Bn) C v u Tj310.heap Aj310 hv4 (Nat.lt_trans hu4 (by decide)) hBn 2 (hE2.trans (by decide))) Aj310.exa (lenOf pd_0 rfl) rfl rfl (by decide) (by decide) rfl rfl (show ce ≤ 32 by omega) (show sl ≤ 192 by omega) rfl at_399 rfl (fun T53 X53 e53 => ?_)
                      show Go p e below _ (T53.setTop (mkF m 402 #[.val (.int i0), .val (.int i1), .val (.int i2), .val (.int (Int32.ofNat u)), .val (.int (Int32.ofNat kq)), .val (.int (Int32.ofNat v)), .val (.int (Int32.ofNat w1)), .val (.int (Int32.ofNat w2)), .val (.int (1 : Int32)), .val (.int (Int32.ofNat f9)), .val (.int (Int32.ofNat t1)), .val (.int (0 : Int32)), .val (.int (Int32.ofNat f12)), .val (.int (Int32.ofNat t2)), .val (.int (Int32.ofNat f14)), .val (.int (3 : Int32)), .val (.ref o1), .val (.int (0 : Int32)), .val (.int (2 : Int32)), .val (.int (0 : Int32)), .val (.int (2 : Int32)), .val (.int (1 : Int32))] [(.int (2 : Int32))]))
                      refine s_iload B X53 (pc' := 404) at_402 rfl rfl ?_
                      refine s_icmpN B X53 (pc' := 407) at_404 (by decide) rfl ?_
                      refine s_aload B X53 (pc' := 409) at_407 rfl rfl rfl ?_
                      refine s_iloadN B X53 (pc' := 410) at_409 rfl rfl ?_
                      refine p_virtual B X53 (y := mn9) (pc' := 413) (argsL := [(.int (Int32.ofNat u))]) (under := []) (W := 0) e53 (tw67 hw) (tw68 hw) (tw70 hw) (tw69 hw) (tw71 hw) (tw3 hw) (by decide) (rm_count l Z a0 hw o1 w_NO_UNITS 0 (fun _ => 0) 4 (fun _ => Bn) C u Tj310.heap Aj310 hu4 2 (hE5.trans (by decide))) Aj310.exa (lenOf pd_6 rfl) rfl rfl (by decide) (by decide) rfl rfl (show ce ≤ 32 by omega) (show sl ≤ 192 by omega) rfl at_410 rfl (fun T54 X54 e54 => ?_)
                      show Go p e below _ (T54.setTop (mkF m 413 #[.val (.int i0), .val (.int i1), .val (.int i2), .val (.int (Int32.ofNat u)), .val (.int (Int32.ofNat kq)), .val (.int (Int32.ofNat v)), .val (.int (Int32.ofNat w1)), .val (.int (Int32.ofNat w2)), .val (.int (1 : Int32)), .val (.int (Int32.ofNat f9)), .val (.int (Int32.ofNat t1)), .val (.int (0 : Int32)), .val (.int (Int32.ofNat f12)), .val (.int (Int32.ofNat t2)), .val (.int (Int32.ofNat f14)), .val (.int (3 : Int32)), .val (.ref o1), .val (.int (0 : Int32)), .val (.int (2 : Int32)), .val (.int (0 : Int32)), .val (.int (2 : Int32)), .val (.int (1 : Int32))] [(.int (2 : Int32))]))
                      refine s_iload B X54 (pc' := 415) at_413 rfl rfl ?_
                      refine s_icmpN B X54 (pc' := 418) at_415 (by decide) rfl ?_
                      refine s_aload B X54 (pc' := 420) at_418 rfl rfl rfl ?_
                      refine s_iload B X54 (pc' := 422) at_420 rfl rfl ?_
                      refine p_virtual B X54 (y := mn9) (pc' := 425) (argsL := [(.int (Int32.ofNat v))]) (under := []) (W := 0) e54 (tw67 hw) (tw68 hw) (tw70 hw) (tw69 hw) (tw71 hw) (tw3 hw) (by decide) (rm_count l Z a0 hw o1 w_NO_UNITS 0 (fun _ => 0) 4 (fun _ => Bn) C v Tj310.heap Aj310 hv4 1 (hE6.trans (by decide))) Aj310.exa (lenOf pd_6 rfl) rfl rfl (by decide) (by decide) rfl rfl (show ce ≤ 32 by omega) (show sl ≤ 192 by omega) rfl at_422 rfl (fun T55 X55 e55 => ?_)
                      show Go p e below _ (T55.setTop (mkF m 425 #[.val (.int i0), .val (.int i1), .val (.int i2), .val (.int (Int32.ofNat u)), .val (.int (Int32.ofNat kq)), .val (.int (Int32.ofNat v)), .val (.int (Int32.ofNat w1)), .val (.int (Int32.ofNat w2)), .val (.int (1 : Int32)), .val (.int (Int32.ofNat f9)), .val (.int (Int32.ofNat t1)), .val (.int (0 : Int32)), .val (.int (Int32.ofNat f12)), .val (.int (Int32.ofNat t2)), .val (.int (Int32.ofNat f14)), .val (.int (3 : Int32)), .val (.ref o1), .val (.int (0 : Int32)), .val (.int (2 : Int32)), .val (.int (0 : Int32)), .val (.int (2 : Int32)), .val (.int (1 : Int32))] [(.int (1 : Int32))]))
                      refine s_iload B X55 (pc' := 427) at_425 rfl rfl ?_
                      refine s_icmpN B X55 (pc' := 430) at_427 (by decide) rfl ?_
                      refine s_aload B X55 (pc' := 432) at_430 rfl rfl rfl ?_
                      refine s_iloadN B X55 (pc' := 433) at_432 rfl rfl ?_
                      refine s_iload B X55 (pc' := 435) at_433 rfl rfl ?_
                      refine p_virtual B X55 (y := mn8) (pc' := 438) (argsL := [(.int (Int32.ofNat u)), (.int (Int32.ofNat t1))]) (under := []) (W := 0) e55 (tw62 hw) (tw63 hw) (tw65 hw) (tw64 hw) (tw66 hw) (tw3 hw) (by decide) (rm_edges l Z a0 hw o1 w_NO_UNITS 0 (fun _ => 0) 4 (fun _ => Bn) C u t1 Tj310.heap Aj310 hu4 (Nat.lt_trans t14 (by decide)) hBn 1 hE3) Aj310.exa (lenOf pd_0 rfl) rfl rfl (by decide) (by decide) rfl rfl (show ce ≤ 32 by omega) (show sl ≤ 192 by omega) rfl at_435 rfl (fun T56 X56 e56 => ?_)
                      show Go p e below _ (T56.setTop (mkF m 438 #[.val (.int i0), .val (.int i1), .val (.int i2), .val (.int (Int32.ofNat u)), .val (.int (Int32.ofNat kq)), .val (.int (Int32.ofNat v)), .val (.int (Int32.ofNat w1)), .val (.int (Int32.ofNat w2)), .val (.int (1 : Int32)), .val (.int (Int32.ofNat f9)), .val (.int (Int32.ofNat t1)), .val (.int (0 : Int32)), .val (.int (Int32.ofNat f12)), .val (.int (Int32.ofNat t2)), .val (.int (Int32.ofNat f14)), .val (.int (3 : Int32)), .val (.ref o1), .val (.int (0 : Int32)), .val (.int (2 : Int32)), .val (.int (0 : Int32)), .val (.int (2 : Int32)), .val (.int (1 : Int32))] [(.int (1 : Int32))]))
                      refine s_iload B X56 (pc' := 440) at_438 rfl rfl ?_
                      refine s_ifN B X56 (pc' := 443) at_440 (by decide) rfl ?_
                      refine s_iconst B X56 (pc' := 444) (v := (1 : Int32)) at_443 rfl rfl ?_
                      refine s_goto B X56 (pc' := 448) at_444 (by decide) (by decide) ?_
                      refine s_icmpN B X56 (pc' := 451) at_448 (by decide) rfl ?_
                      refine s_aload B X56 (pc' := 453) at_451 rfl rfl rfl ?_
                      refine s_iload B X56 (pc' := 455) at_453 rfl rfl ?_
                      refine s_iload B X56 (pc' := 457) at_455 rfl rfl ?_
                      refine p_virtual B X56 (y := mn8) (pc' := 460) (argsL := [(.int (Int32.ofNat v)), (.int (Int32.ofNat t2))]) (under := []) (W := 0) e56 (tw62 hw) (tw63 hw) (tw65 hw) (tw64 hw) (tw66 hw) (tw3 hw) (by decide) (rm_edges l Z a0 hw o1 w_NO_UNITS 0 (fun _ => 0) 4 (fun _ => Bn) C v t2 Tj310.heap Aj310 hv4 (Nat.lt_trans t24 (by decide)) hBn 0 hE4) Aj310.exa (lenOf pd_0 rfl) rfl rfl (by decide) (by decide) rfl rfl (show ce ≤ 32 by omega) (show sl ≤ 192 by omega) rfl at_457 rfl (fun T57 X57 e57 => ?_)
                      show Go p e below _ (T57.setTop (mkF m 460 #[.val (.int i0), .val (.int i1), .val (.int i2), .val (.int (Int32.ofNat u)), .val (.int (Int32.ofNat kq)), .val (.int (Int32.ofNat v)), .val (.int (Int32.ofNat w1)), .val (.int (Int32.ofNat w2)), .val (.int (1 : Int32)), .val (.int (Int32.ofNat f9)), .val (.int (Int32.ofNat t1)), .val (.int (0 : Int32)), .val (.int (Int32.ofNat f12)), .val (.int (Int32.ofNat t2)), .val (.int (Int32.ofNat f14)), .val (.int (3 : Int32)), .val (.ref o1), .val (.int (0 : Int32)), .val (.int (2 : Int32)), .val (.int (0 : Int32)), .val (.int (2 : Int32)), .val (.int (1 : Int32))] [(.int (0 : Int32))]))
                      refine s_iload B X57 (pc' := 462) at_460 rfl rfl ?_
                      refine s_ifY B X57 (pc' := 469) at_462 (by decide) (by decide) (by decide) ?_
                      refine s_iconst B X57 (pc' := 470) (v := (0 : Int32)) at_469 rfl rfl ?_
                      refine s_icmpN B X57 (pc' := 473) at_470 (by decide) rfl ?_
                      refine s_iconst B X57 (pc' := 474) (v := (1 : Int32)) at_473 rfl rfl ?_
                      refine s_goto B X57 (pc' := 478) at_474 (by decide) (by decide) ?_
                      exact r_nar B X57 (t := .boolean) (by simp) rfl at_478 ⟨rfl, Nj310⟩ (show ce ≤ 32 by omega) (show sl ≤ 192 by omega)
                  · rcases (by omega : mm = 1 ∨ mm = 2 ∨ mm = 3) with rfl | rfl | rfl
                    · obtain rfl := hr1 rfl
                      show Go p e below _ (Tj310.setTop (mkF m 310 #[.val (.int i0), .val (.int i1), .val (.int i2), .val (.int (Int32.ofNat u)), .val (.int (Int32.ofNat kq)), .val (.int (Int32.ofNat v)), .val (.int (Int32.ofNat w1)), .val (.int (Int32.ofNat w2)), .val (.int (1 : Int32)), .val (.int (Int32.ofNat f9)), .val (.int (Int32.ofNat t1)), .val (.int (1 : Int32)), .val (.int (Int32.ofNat f12)), .val (.int (Int32.ofNat t2)), .val (.int (Int32.ofNat f14)), .val (.int (1 : Int32)), .val (.ref o1), .unset, .unset, .unset, .unset, .unset] [(.int (1 : Int32))]))
                      refine s_istore B Xj310 (pc' := 312) (Ls' := #[.val (.int i0), .val (.int i1), .val (.int i2), .val (.int (Int32.ofNat u)), .val (.int (Int32.ofNat kq)), .val (.int (Int32.ofNat v)), .val (.int (Int32.ofNat w1)), .val (.int (Int32.ofNat w2)), .val (.int (1 : Int32)), .val (.int (Int32.ofNat f9)), .val (.int (Int32.ofNat t1)), .val (.int (1 : Int32)), .val (.int (Int32.ofNat f12)), .val (.int (Int32.ofNat t2)), .val (.int (Int32.ofNat f14)), .val (.int (1 : Int32)), .val (.ref o1), .val (.int (1 : Int32)), .unset, .unset, .unset, .unset]) at_310 rfl rfl ?_
                      refine s_iload B Xj310 (pc' := 314) at_312 rfl rfl ?_
                      refine s_iconst B Xj310 (pc' := 315) (v := (1 : Int32)) at_314 rfl rfl ?_
                      refine s_isub B Xj310 (pc' := 316) (v := (0 : Int32)) at_315 rfl rfl ?_
                      refine s_istore B Xj310 (pc' := 318) (Ls' := #[.val (.int i0), .val (.int i1), .val (.int i2), .val (.int (Int32.ofNat u)), .val (.int (Int32.ofNat kq)), .val (.int (Int32.ofNat v)), .val (.int (Int32.ofNat w1)), .val (.int (Int32.ofNat w2)), .val (.int (1 : Int32)), .val (.int (Int32.ofNat f9)), .val (.int (Int32.ofNat t1)), .val (.int (1 : Int32)), .val (.int (Int32.ofNat f12)), .val (.int (Int32.ofNat t2)), .val (.int (Int32.ofNat f14)), .val (.int (1 : Int32)), .val (.ref o1), .val (.int (1 : Int32)), .val (.int (0 : Int32)), .unset, .unset, .unset]) at_316 rfl rfl ?_
                      refine s_iload B Xj310 (pc' := 320) at_318 rfl rfl ?_
                      refine s_iconst B Xj310 (pc' := 321) (v := (1 : Int32)) at_320 rfl rfl ?_
                      refine s_icmpN B Xj310 (pc' := 324) at_321 (by decide) rfl ?_
                      refine s_iconst B Xj310 (pc' := 325) (v := (1 : Int32)) at_324 rfl rfl ?_
                      refine s_goto B Xj310 (pc' := 329) at_325 (by decide) (by decide) ?_
                      refine s_istore B Xj310 (pc' := 331) (Ls' := #[.val (.int i0), .val (.int i1), .val (.int i2), .val (.int (Int32.ofNat u)), .val (.int (Int32.ofNat kq)), .val (.int (Int32.ofNat v)), .val (.int (Int32.ofNat w1)), .val (.int (Int32.ofNat w2)), .val (.int (1 : Int32)), .val (.int (Int32.ofNat f9)), .val (.int (Int32.ofNat t1)), .val (.int (1 : Int32)), .val (.int (Int32.ofNat f12)), .val (.int (Int32.ofNat t2)), .val (.int (Int32.ofNat f14)), .val (.int (1 : Int32)), .val (.ref o1), .val (.int (1 : Int32)), .val (.int (0 : Int32)), .val (.int (1 : Int32)), .unset, .unset]) at_329 rfl rfl ?_
                      refine s_iconst B Xj310 (pc' := 332) (v := (1 : Int32)) at_331 rfl rfl ?_
                      refine s_iload B Xj310 (pc' := 334) at_332 rfl rfl ?_
                      refine s_ifN B Xj310 (pc' := 337) at_334 (by decide) rfl ?_
                      refine s_iconst B Xj310 (pc' := 338) (v := (1 : Int32)) at_337 rfl rfl ?_
                      refine s_goto B Xj310 (pc' := 342) at_338 (by decide) (by decide) ?_
                      refine s_iadd B Xj310 (pc' := 343) (v := (2 : Int32)) at_342 rfl rfl ?_
                      refine s_iload B Xj310 (pc' := 345) at_343 rfl rfl ?_
                      refine s_isub B Xj310 (pc' := 346) (v := (1 : Int32)) at_345 rfl rfl ?_
                      refine s_istore B Xj310 (pc' := 348) (Ls' := #[.val (.int i0), .val (.int i1), .val (.int i2), .val (.int (Int32.ofNat u)), .val (.int (Int32.ofNat kq)), .val (.int (Int32.ofNat v)), .val (.int (Int32.ofNat w1)), .val (.int (Int32.ofNat w2)), .val (.int (1 : Int32)), .val (.int (Int32.ofNat f9)), .val (.int (Int32.ofNat t1)), .val (.int (1 : Int32)), .val (.int (Int32.ofNat f12)), .val (.int (Int32.ofNat t2)), .val (.int (Int32.ofNat f14)), .val (.int (1 : Int32)), .val (.ref o1), .val (.int (1 : Int32)), .val (.int (0 : Int32)), .val (.int (1 : Int32)), .val (.int (1 : Int32)), .unset]) at_346 rfl rfl ?_
                      refine s_iconst B Xj310 (pc' := 349) (v := (1 : Int32)) at_348 rfl rfl ?_
                      refine s_iload B Xj310 (pc' := 351) at_349 rfl rfl ?_
                      refine s_ifN B Xj310 (pc' := 354) at_351 (by decide) rfl ?_
                      refine s_iconst B Xj310 (pc' := 355) (v := (1 : Int32)) at_354 rfl rfl ?_
                      refine s_goto B Xj310 (pc' := 359) at_355 (by decide) (by decide) ?_
                      refine s_iadd B Xj310 (pc' := 360) (v := (2 : Int32)) at_359 rfl rfl ?_
                      refine s_iload B Xj310 (pc' := 362) at_360 rfl rfl ?_
                      refine s_isub B Xj310 (pc' := 363) (v := (1 : Int32)) at_362 rfl rfl ?_
                      refine s_istore B Xj310 (pc' := 365) (Ls' := #[.val (.int i0), .val (.int i1), .val (.int i2), .val (.int (Int32.ofNat u)), .val (.int (Int32.ofNat kq)), .val (.int (Int32.ofNat v)), .val (.int (Int32.ofNat w1)), .val (.int (Int32.ofNat w2)), .val (.int (1 : Int32)), .val (.int (Int32.ofNat f9)), .val (.int (Int32.ofNat t1)), .val (.int (1 : Int32)), .val (.int (Int32.ofNat f12)), .val (.int (Int32.ofNat t2)), .val (.int (Int32.ofNat f14)), .val (.int (1 : Int32)), .val (.ref o1), .val (.int (1 : Int32)), .val (.int (0 : Int32)), .val (.int (1 : Int32)), .val (.int (1 : Int32)), .val (.int (1 : Int32))]) at_363 rfl rfl ?_
                      refine s_iload B Xj310 (pc' := 367) at_365 rfl rfl ?_
                      refine s_iload B Xj310 (pc' := 369) at_367 rfl rfl ?_
                      refine s_iconst B Xj310 (pc' := 370) (v := (1 : Int32)) at_369 rfl rfl ?_
                      refine s_icmpN B Xj310 (pc' := 373) at_370 (by decide) rfl ?_
                      refine s_iconst B Xj310 (pc' := 374) (v := (1 : Int32)) at_373 rfl rfl ?_
                      refine s_goto B Xj310 (pc' := 378) at_374 (by decide) (by decide) ?_
                      refine s_icmpN B Xj310 (pc' := 381) at_378 (by decide) rfl ?_
                      refine s_aload B Xj310 (pc' := 383) at_381 rfl rfl rfl ?_
                      refine s_iloadN B Xj310 (pc' := 384) at_383 rfl rfl ?_
                      refine s_iload B Xj310 (pc' := 386) at_384 rfl rfl ?_
                      refine p_virtual B Xj310 (y := mn8) (pc' := 389) (argsL := [(.int (Int32.ofNat u)), (.int (Int32.ofNat v))]) (under := []) (W := 0) rfl (tw62 hw) (tw63 hw) (tw65 hw) (tw64 hw) (tw66 hw) (tw3 hw) (by decide) (rm_edges l Z a0 hw o1 w_NO_UNITS 0 (fun _ => 0) 4 (fun _ => Bn) C u v Tj310.heap Aj310 hu4 (Nat.lt_trans hv4 (by decide)) hBn 0 (hE1.trans (by decide))) Aj310.exa (lenOf pd_0 rfl) rfl rfl (by decide) (by decide) rfl rfl (show ce ≤ 32 by omega) (show sl ≤ 192 by omega) rfl at_386 rfl (fun T58 X58 e58 => ?_)
                      show Go p e below _ (T58.setTop (mkF m 389 #[.val (.int i0), .val (.int i1), .val (.int i2), .val (.int (Int32.ofNat u)), .val (.int (Int32.ofNat kq)), .val (.int (Int32.ofNat v)), .val (.int (Int32.ofNat w1)), .val (.int (Int32.ofNat w2)), .val (.int (1 : Int32)), .val (.int (Int32.ofNat f9)), .val (.int (Int32.ofNat t1)), .val (.int (1 : Int32)), .val (.int (Int32.ofNat f12)), .val (.int (Int32.ofNat t2)), .val (.int (Int32.ofNat f14)), .val (.int (1 : Int32)), .val (.ref o1), .val (.int (1 : Int32)), .val (.int (0 : Int32)), .val (.int (1 : Int32)), .val (.int (1 : Int32)), .val (.int (1 : Int32))] [(.int (0 : Int32))]))
                      refine s_iload B X58 (pc' := 391) at_389 rfl rfl ?_
                      refine s_icmpN B X58 (pc' := 394) at_391 (by decide) rfl ?_
                      refine s_aload B X58 (pc' := 396) at_394 rfl rfl rfl ?_
                      refine s_iload B X58 (pc' := 398) at_396 rfl rfl ?_
                      refine s_iloadN B X58 (pc' := 399) at_398 rfl rfl ?_
                      refine p_virtual B X58 (y := mn8) (pc' := 402) (argsL := [(.int (Int32.ofNat v)), (.int (Int32.ofNat u))]) (under := []) (W := 0) e58 (tw62 hw) (tw63 hw) (tw65 hw) (tw64 hw) (tw66 hw) (tw3 hw) (by decide) (rm_edges l Z a0 hw o1 w_NO_UNITS 0 (fun _ => 0) 4 (fun _ => Bn) C v u Tj310.heap Aj310 hv4 (Nat.lt_trans hu4 (by decide)) hBn 0 (hE2.trans (by decide))) Aj310.exa (lenOf pd_0 rfl) rfl rfl (by decide) (by decide) rfl rfl (show ce ≤ 32 by omega) (show sl ≤ 192 by omega) rfl at_399 rfl (fun T59 X59 e59 => ?_)
                      show Go p e below _ (T59.setTop (mkF m 402 #[.val (.int i0), .val (.int i1), .val (.int i2), .val (.int (Int32.ofNat u)), .val (.int (Int32.ofNat kq)), .val (.int (Int32.ofNat v)), .val (.int (Int32.ofNat w1)), .val (.int (Int32.ofNat w2)), .val (.int (1 : Int32)), .val (.int (Int32.ofNat f9)), .val (.int (Int32.ofNat t1)), .val (.int (1 : Int32)), .val (.int (Int32.ofNat f12)), .val (.int (Int32.ofNat t2)), .val (.int (Int32.ofNat f14)), .val (.int (1 : Int32)), .val (.ref o1), .val (.int (1 : Int32)), .val (.int (0 : Int32)), .val (.int (1 : Int32)), .val (.int (1 : Int32)), .val (.int (1 : Int32))] [(.int (0 : Int32))]))
                      refine s_iload B X59 (pc' := 404) at_402 rfl rfl ?_
                      refine s_icmpN B X59 (pc' := 407) at_404 (by decide) rfl ?_
                      refine s_aload B X59 (pc' := 409) at_407 rfl rfl rfl ?_
                      refine s_iloadN B X59 (pc' := 410) at_409 rfl rfl ?_
                      refine p_virtual B X59 (y := mn9) (pc' := 413) (argsL := [(.int (Int32.ofNat u))]) (under := []) (W := 0) e59 (tw67 hw) (tw68 hw) (tw70 hw) (tw69 hw) (tw71 hw) (tw3 hw) (by decide) (rm_count l Z a0 hw o1 w_NO_UNITS 0 (fun _ => 0) 4 (fun _ => Bn) C u Tj310.heap Aj310 hu4 1 (hE5.trans (by decide))) Aj310.exa (lenOf pd_6 rfl) rfl rfl (by decide) (by decide) rfl rfl (show ce ≤ 32 by omega) (show sl ≤ 192 by omega) rfl at_410 rfl (fun T60 X60 e60 => ?_)
                      show Go p e below _ (T60.setTop (mkF m 413 #[.val (.int i0), .val (.int i1), .val (.int i2), .val (.int (Int32.ofNat u)), .val (.int (Int32.ofNat kq)), .val (.int (Int32.ofNat v)), .val (.int (Int32.ofNat w1)), .val (.int (Int32.ofNat w2)), .val (.int (1 : Int32)), .val (.int (Int32.ofNat f9)), .val (.int (Int32.ofNat t1)), .val (.int (1 : Int32)), .val (.int (Int32.ofNat f12)), .val (.int (Int32.ofNat t2)), .val (.int (Int32.ofNat f14)), .val (.int (1 : Int32)), .val (.ref o1), .val (.int (1 : Int32)), .val (.int (0 : Int32)), .val (.int (1 : Int32)), .val (.int (1 : Int32)), .val (.int (1 : Int32))] [(.int (1 : Int32))]))
                      refine s_iload B X60 (pc' := 415) at_413 rfl rfl ?_
                      refine s_icmpN B X60 (pc' := 418) at_415 (by decide) rfl ?_
                      refine s_aload B X60 (pc' := 420) at_418 rfl rfl rfl ?_
                      refine s_iload B X60 (pc' := 422) at_420 rfl rfl ?_
                      refine p_virtual B X60 (y := mn9) (pc' := 425) (argsL := [(.int (Int32.ofNat v))]) (under := []) (W := 0) e60 (tw67 hw) (tw68 hw) (tw70 hw) (tw69 hw) (tw71 hw) (tw3 hw) (by decide) (rm_count l Z a0 hw o1 w_NO_UNITS 0 (fun _ => 0) 4 (fun _ => Bn) C v Tj310.heap Aj310 hv4 1 (hE6.trans (by decide))) Aj310.exa (lenOf pd_6 rfl) rfl rfl (by decide) (by decide) rfl rfl (show ce ≤ 32 by omega) (show sl ≤ 192 by omega) rfl at_422 rfl (fun T61 X61 e61 => ?_)
                      show Go p e below _ (T61.setTop (mkF m 425 #[.val (.int i0), .val (.int i1), .val (.int i2), .val (.int (Int32.ofNat u)), .val (.int (Int32.ofNat kq)), .val (.int (Int32.ofNat v)), .val (.int (Int32.ofNat w1)), .val (.int (Int32.ofNat w2)), .val (.int (1 : Int32)), .val (.int (Int32.ofNat f9)), .val (.int (Int32.ofNat t1)), .val (.int (1 : Int32)), .val (.int (Int32.ofNat f12)), .val (.int (Int32.ofNat t2)), .val (.int (Int32.ofNat f14)), .val (.int (1 : Int32)), .val (.ref o1), .val (.int (1 : Int32)), .val (.int (0 : Int32)), .val (.int (1 : Int32)), .val (.int (1 : Int32)), .val (.int (1 : Int32))] [(.int (1 : Int32))]))
                      refine s_iload B X61 (pc' := 427) at_425 rfl rfl ?_
                      refine s_icmpN B X61 (pc' := 430) at_427 (by decide) rfl ?_
                      refine s_aload B X61 (pc' := 432) at_430 rfl rfl rfl ?_
                      refine s_iloadN B X61 (pc' := 433) at_432 rfl rfl ?_
                      refine s_iload B X61 (pc' := 435) at_433 rfl rfl ?_
                      refine p_virtual B X61 (y := mn8) (pc' := 438) (argsL := [(.int (Int32.ofNat u)), (.int (Int32.ofNat t1))]) (under := []) (W := 0) e61 (tw62 hw) (tw63 hw) (tw65 hw) (tw64 hw) (tw66 hw) (tw3 hw) (by decide) (rm_edges l Z a0 hw o1 w_NO_UNITS 0 (fun _ => 0) 4 (fun _ => Bn) C u t1 Tj310.heap Aj310 hu4 (Nat.lt_trans t14 (by decide)) hBn 1 hE3) Aj310.exa (lenOf pd_0 rfl) rfl rfl (by decide) (by decide) rfl rfl (show ce ≤ 32 by omega) (show sl ≤ 192 by omega) rfl at_435 rfl (fun T62 X62 e62 => ?_)
                      show Go p e below _ (T62.setTop (mkF m 438 #[.val (.int i0), .val (.int i1), .val (.int i2), .val (.int (Int32.ofNat u)), .val (.int (Int32.ofNat kq)), .val (.int (Int32.ofNat v)), .val (.int (Int32.ofNat w1)), .val (.int (Int32.ofNat w2)), .val (.int (1 : Int32)), .val (.int (Int32.ofNat f9)), .val (.int (Int32.ofNat t1)), .val (.int (1 : Int32)), .val (.int (Int32.ofNat f12)), .val (.int (Int32.ofNat t2)), .val (.int (Int32.ofNat f14)), .val (.int (1 : Int32)), .val (.ref o1), .val (.int (1 : Int32)), .val (.int (0 : Int32)), .val (.int (1 : Int32)), .val (.int (1 : Int32)), .val (.int (1 : Int32))] [(.int (1 : Int32))]))
                      refine s_iload B X62 (pc' := 440) at_438 rfl rfl ?_
                      refine s_ifN B X62 (pc' := 443) at_440 (by decide) rfl ?_
                      refine s_iconst B X62 (pc' := 444) (v := (1 : Int32)) at_443 rfl rfl ?_
                      refine s_goto B X62 (pc' := 448) at_444 (by decide) (by decide) ?_
                      refine s_icmpN B X62 (pc' := 451) at_448 (by decide) rfl ?_
                      refine s_aload B X62 (pc' := 453) at_451 rfl rfl rfl ?_
                      refine s_iload B X62 (pc' := 455) at_453 rfl rfl ?_
                      refine s_iload B X62 (pc' := 457) at_455 rfl rfl ?_
                      refine p_virtual B X62 (y := mn8) (pc' := 460) (argsL := [(.int (Int32.ofNat v)), (.int (Int32.ofNat t2))]) (under := []) (W := 0) e62 (tw62 hw) (tw63 hw) (tw65 hw) (tw64 hw) (tw66 hw) (tw3 hw) (by decide) (rm_edges l Z a0 hw o1 w_NO_UNITS 0 (fun _ => 0) 4 (fun _ => Bn) C v t2 Tj310.heap Aj310 hv4 (Nat.lt_trans t24 (by decide)) hBn 1 hE4) Aj310.exa (lenOf pd_0 rfl) rfl rfl (by decide) (by decide) rfl rfl (show ce ≤ 32 by omega) (show sl ≤ 192 by omega) rfl at_457 rfl (fun T63 X63 e63 => ?_)
                      show Go p e below _ (T63.setTop (mkF m 460 #[.val (.int i0), .val (.int i1), .val (.int i2), .val (.int (Int32.ofNat u)), .val (.int (Int32.ofNat kq)), .val (.int (Int32.ofNat v)), .val (.int (Int32.ofNat w1)), .val (.int (Int32.ofNat w2)), .val (.int (1 : Int32)), .val (.int (Int32.ofNat f9)), .val (.int (Int32.ofNat t1)), .val (.int (1 : Int32)), .val (.int (Int32.ofNat f12)), .val (.int (Int32.ofNat t2)), .val (.int (Int32.ofNat f14)), .val (.int (1 : Int32)), .val (.ref o1), .val (.int (1 : Int32)), .val (.int (0 : Int32)), .val (.int (1 : Int32)), .val (.int (1 : Int32)), .val (.int (1 : Int32))] [(.int (1 : Int32))]))
                      refine s_iload B X63 (pc' := 462) at_460 rfl rfl ?_
                      refine s_ifN B X63 (pc' := 465) at_462 (by decide) rfl ?_
                      refine s_iconst B X63 (pc' := 466) (v := (1 : Int32)) at_465 rfl rfl ?_
                      refine s_goto B X63 (pc' := 470) at_466 (by decide) (by decide) ?_
                      refine s_icmpN B X63 (pc' := 473) at_470 (by decide) rfl ?_
                      refine s_iconst B X63 (pc' := 474) (v := (1 : Int32)) at_473 rfl rfl ?_
                      refine s_goto B X63 (pc' := 478) at_474 (by decide) (by decide) ?_
                      exact r_nar B X63 (t := .boolean) (by simp) rfl at_478 ⟨rfl, Nj310⟩ (show ce ≤ 32 by omega) (show sl ≤ 192 by omega)
                    · obtain rfl := hr0 (by decide)
                      show Go p e below _ (Tj310.setTop (mkF m 310 #[.val (.int i0), .val (.int i1), .val (.int i2), .val (.int (Int32.ofNat u)), .val (.int (Int32.ofNat kq)), .val (.int (Int32.ofNat v)), .val (.int (Int32.ofNat w1)), .val (.int (Int32.ofNat w2)), .val (.int (1 : Int32)), .val (.int (Int32.ofNat f9)), .val (.int (Int32.ofNat t1)), .val (.int (1 : Int32)), .val (.int (Int32.ofNat f12)), .val (.int (Int32.ofNat t2)), .val (.int (Int32.ofNat f14)), .val (.int (2 : Int32)), .val (.ref o1), .unset, .unset, .unset, .unset, .unset] [(.int (0 : Int32))]))
                      refine s_istore B Xj310 (pc' := 312) (Ls' := #[.val (.int i0), .val (.int i1), .val (.int i2), .val (.int (Int32.ofNat u)), .val (.int (Int32.ofNat kq)), .val (.int (Int32.ofNat v)), .val (.int (Int32.ofNat w1)), .val (.int (Int32.ofNat w2)), .val (.int (1 : Int32)), .val (.int (Int32.ofNat f9)), .val (.int (Int32.ofNat t1)), .val (.int (1 : Int32)), .val (.int (Int32.ofNat f12)), .val (.int (Int32.ofNat t2)), .val (.int (Int32.ofNat f14)), .val (.int (2 : Int32)), .val (.ref o1), .val (.int (0 : Int32)), .unset, .unset, .unset, .unset]) at_310 rfl rfl ?_
                      refine s_iload B Xj310 (pc' := 314) at_312 rfl rfl ?_
                      refine s_iconst B Xj310 (pc' := 315) (v := (1 : Int32)) at_314 rfl rfl ?_
                      refine s_isub B Xj310 (pc' := 316) (v := (1 : Int32)) at_315 rfl rfl ?_
                      refine s_istore B Xj310 (pc' := 318) (Ls' := #[.val (.int i0), .val (.int i1), .val (.int i2), .val (.int (Int32.ofNat u)), .val (.int (Int32.ofNat kq)), .val (.int (Int32.ofNat v)), .val (.int (Int32.ofNat w1)), .val (.int (Int32.ofNat w2)), .val (.int (1 : Int32)), .val (.int (Int32.ofNat f9)), .val (.int (Int32.ofNat t1)), .val (.int (1 : Int32)), .val (.int (Int32.ofNat f12)), .val (.int (Int32.ofNat t2)), .val (.int (Int32.ofNat f14)), .val (.int (2 : Int32)), .val (.ref o1), .val (.int (0 : Int32)), .val (.int (1 : Int32)), .unset, .unset, .unset]) at_316 rfl rfl ?_
                      refine s_iload B Xj310 (pc' := 320) at_318 rfl rfl ?_
                      refine s_iconst B Xj310 (pc' := 321) (v := (1 : Int32)) at_320 rfl rfl ?_
                      refine s_icmpY B Xj310 (pc' := 328) at_321 (by decide) (by decide) (by decide) ?_
                      refine s_iconst B Xj310 (pc' := 329) (v := (0 : Int32)) at_328 rfl rfl ?_
                      refine s_istore B Xj310 (pc' := 331) (Ls' := #[.val (.int i0), .val (.int i1), .val (.int i2), .val (.int (Int32.ofNat u)), .val (.int (Int32.ofNat kq)), .val (.int (Int32.ofNat v)), .val (.int (Int32.ofNat w1)), .val (.int (Int32.ofNat w2)), .val (.int (1 : Int32)), .val (.int (Int32.ofNat f9)), .val (.int (Int32.ofNat t1)), .val (.int (1 : Int32)), .val (.int (Int32.ofNat f12)), .val (.int (Int32.ofNat t2)), .val (.int (Int32.ofNat f14)), .val (.int (2 : Int32)), .val (.ref o1), .val (.int (0 : Int32)), .val (.int (1 : Int32)), .val (.int (0 : Int32)), .unset, .unset]) at_329 rfl rfl ?_
                      refine s_iconst B Xj310 (pc' := 332) (v := (1 : Int32)) at_331 rfl rfl ?_
                      refine s_iload B Xj310 (pc' := 334) at_332 rfl rfl ?_
                      refine s_ifN B Xj310 (pc' := 337) at_334 (by decide) rfl ?_
                      refine s_iconst B Xj310 (pc' := 338) (v := (1 : Int32)) at_337 rfl rfl ?_
                      refine s_goto B Xj310 (pc' := 342) at_338 (by decide) (by decide) ?_
                      refine s_iadd B Xj310 (pc' := 343) (v := (2 : Int32)) at_342 rfl rfl ?_
                      refine s_iload B Xj310 (pc' := 345) at_343 rfl rfl ?_
                      refine s_isub B Xj310 (pc' := 346) (v := (2 : Int32)) at_345 rfl rfl ?_
                      refine s_istore B Xj310 (pc' := 348) (Ls' := #[.val (.int i0), .val (.int i1), .val (.int i2), .val (.int (Int32.ofNat u)), .val (.int (Int32.ofNat kq)), .val (.int (Int32.ofNat v)), .val (.int (Int32.ofNat w1)), .val (.int (Int32.ofNat w2)), .val (.int (1 : Int32)), .val (.int (Int32.ofNat f9)), .val (.int (Int32.ofNat t1)), .val (.int (1 : Int32)), .val (.int (Int32.ofNat f12)), .val (.int (Int32.ofNat t2)), .val (.int (Int32.ofNat f14)), .val (.int (2 : Int32)), .val (.ref o1), .val (.int (0 : Int32)), .val (.int (1 : Int32)), .val (.int (0 : Int32)), .val (.int (2 : Int32)), .unset]) at_346 rfl rfl ?_
                      refine s_iconst B Xj310 (pc' := 349) (v := (1 : Int32)) at_348 rfl rfl ?_
                      refine s_iload B Xj310 (pc' := 351) at_349 rfl rfl ?_
                      refine s_ifN B Xj310 (pc' := 354) at_351 (by decide) rfl ?_
                      refine s_iconst B Xj310 (pc' := 355) (v := (1 : Int32)) at_354 rfl rfl ?_
                      refine s_goto B Xj310 (pc' := 359) at_355 (by decide) (by decide) ?_
                      refine s_iadd B Xj310 (pc' := 360) (v := (2 : Int32)) at_359 rfl rfl ?_
                      refine s_iload B Xj310 (pc' := 362) at_360 rfl rfl ?_
                      refine s_isub B Xj310 (pc' := 363) (v := (2 : Int32)) at_362 rfl rfl ?_
                      refine s_istore B Xj310 (pc' := 365) (Ls' := #[.val (.int i0), .val (.int i1), .val (.int i2), .val (.int (Int32.ofNat u)), .val (.int (Int32.ofNat kq)), .val (.int (Int32.ofNat v)), .val (.int (Int32.ofNat w1)), .val (.int (Int32.ofNat w2)), .val (.int (1 : Int32)), .val (.int (Int32.ofNat f9)), .val (.int (Int32.ofNat t1)), .val (.int (1 : Int32)), .val (.int (Int32.ofNat f12)), .val (.int (Int32.ofNat t2)), .val (.int (Int32.ofNat f14)), .val (.int (2 : Int32)), .val (.ref o1), .val (.int (0 : Int32)), .val (.int (1 : Int32)), .val (.int (0 : Int32)), .val (.int (2 : Int32)), .val (.int (2 : Int32))]) at_363 rfl rfl ?_
                      refine s_iload B Xj310 (pc' := 367) at_365 rfl rfl ?_
                      refine s_iload B Xj310 (pc' := 369) at_367 rfl rfl ?_
                      refine s_iconst B Xj310 (pc' := 370) (v := (1 : Int32)) at_369 rfl rfl ?_
                      refine s_icmpY B Xj310 (pc' := 377) at_370 (by decide) (by decide) (by decide) ?_
                      refine s_iconst B Xj310 (pc' := 378) (v := (0 : Int32)) at_377 rfl rfl ?_
                      refine s_icmpN B Xj310 (pc' := 381) at_378 (by decide) rfl ?_
                      refine s_aload B Xj310 (pc' := 383) at_381 rfl rfl rfl ?_
                      refine s_iloadN B Xj310 (pc' := 384) at_383 rfl rfl ?_
                      refine s_iload B Xj310 (pc' := 386) at_384 rfl rfl ?_
                      refine p_virtual B Xj310 (y := mn8) (pc' := 389) (argsL := [(.int (Int32.ofNat u)), (.int (Int32.ofNat v))]) (under := []) (W := 0) rfl (tw62 hw) (tw63 hw) (tw65 hw) (tw64 hw) (tw66 hw) (tw3 hw) (by decide) (rm_edges l Z a0 hw o1 w_NO_UNITS 0 (fun _ => 0) 4 (fun _ => Bn) C u v Tj310.heap Aj310 hu4 (Nat.lt_trans hv4 (by decide)) hBn 1 (hE1.trans (by decide))) Aj310.exa (lenOf pd_0 rfl) rfl rfl (by decide) (by decide) rfl rfl (show ce ≤ 32 by omega) (show sl ≤ 192 by omega) rfl at_386 rfl (fun T64 X64 e64 => ?_)
                      show Go p e below _ (T64.setTop (mkF m 389 #[.val (.int i0), .val (.int i1), .val (.int i2), .val (.int (Int32.ofNat u)), .val (.int (Int32.ofNat kq)), .val (.int (Int32.ofNat v)), .val (.int (Int32.ofNat w1)), .val (.int (Int32.ofNat w2)), .val (.int (1 : Int32)), .val (.int (Int32.ofNat f9)), .val (.int (Int32.ofNat t1)), .val (.int (1 : Int32)), .val (.int (Int32.ofNat f12)), .val (.int (Int32.ofNat t2)), .val (.int (Int32.ofNat f14)), .val (.int (2 : Int32)), .val (.ref o1), .val (.int (0 : Int32)), .val (.int (1 : Int32)), .val (.int (0 : Int32)), .val (.int (2 : Int32)), .val (.int (2 : Int32))] [(.int (1 : Int32))]))
                      refine s_iload B X64 (pc' := 391) at_389 rfl rfl ?_
                      refine s_icmpN B X64 (pc' := 394) at_391 (by decide) rfl ?_
                      refine s_aload B X64 (pc' := 396) at_394 rfl rfl rfl ?_
                      refine s_iload B X64 (pc' := 398) at_396 rfl rfl ?_
                      refine s_iloadN B X64 (pc' := 399) at_398 rfl rfl ?_
                      refine p_virtual B X64 (y := mn8) (pc' := 402) (argsL := [(.int (Int32.ofNat v)), (.int (Int32.ofNat u))]) (under := []) (W := 0) e64 (tw62 hw) (tw63 hw) (tw65 hw) (tw64 hw) (tw66 hw) (tw3 hw) (by decide) (rm_edges l Z a0 hw o1 w_NO_UNITS 0 (fun _ => 0) 4 (fun _ => Bn) C v u Tj310.heap Aj310 hv4 (Nat.lt_trans hu4 (by decide)) hBn 1 (hE2.trans (by decide))) Aj310.exa (lenOf pd_0 rfl) rfl rfl (by decide) (by decide) rfl rfl (show ce ≤ 32 by omega) (show sl ≤ 192 by omega) rfl at_399 rfl (fun T65 X65 e65 => ?_)
                      show Go p e below _ (T65.setTop (mkF m 402 #[.val (.int i0), .val (.int i1), .val (.int i2), .val (.int (Int32.ofNat u)), .val (.int (Int32.ofNat kq)), .val (.int (Int32.ofNat v)), .val (.int (Int32.ofNat w1)), .val (.int (Int32.ofNat w2)), .val (.int (1 : Int32)), .val (.int (Int32.ofNat f9)), .val (.int (Int32.ofNat t1)), .val (.int (1 : Int32)), .val (.int (Int32.ofNat f12)), .val (.int (Int32.ofNat t2)), .val (.int (Int32.ofNat f14)), .val (.int (2 : Int32)), .val (.ref o1), .val (.int (0 : Int32)), .val (.int (1 : Int32)), .val (.int (0 : Int32)), .val (.int (2 : Int32)), .val (.int (2 : Int32))] [(.int (1 : Int32))]))
                      refine s_iload B X65 (pc' := 404) at_402 rfl rfl ?_
                      refine s_icmpN B X65 (pc' := 407) at_404 (by decide) rfl ?_
                      refine s_aload B X65 (pc' := 409) at_407 rfl rfl rfl ?_
                      refine s_iloadN B X65 (pc' := 410) at_409 rfl rfl ?_
                      refine p_virtual B X65 (y := mn9) (pc' := 413) (argsL := [(.int (Int32.ofNat u))]) (under := []) (W := 0) e65 (tw67 hw) (tw68 hw) (tw70 hw) (tw69 hw) (tw71 hw) (tw3 hw) (by decide) (rm_count l Z a0 hw o1 w_NO_UNITS 0 (fun _ => 0) 4 (fun _ => Bn) C u Tj310.heap Aj310 hu4 2 (hE5.trans (by decide))) Aj310.exa (lenOf pd_6 rfl) rfl rfl (by decide) (by decide) rfl rfl (show ce ≤ 32 by omega) (show sl ≤ 192 by omega) rfl at_410 rfl (fun T66 X66 e66 => ?_)
                      show Go p e below _ (T66.setTop (mkF m 413 #[.val (.int i0), .val (.int i1), .val (.int i2), .val (.int (Int32.ofNat u)), .val (.int (Int32.ofNat kq)), .val (.int (Int32.ofNat v)), .val (.int (Int32.ofNat w1)), .val (.int (Int32.ofNat w2)), .val (.int (1 : Int32)), .val (.int (Int32.ofNat f9)), .val (.int (Int32.ofNat t1)), .val (.int (1 : Int32)), .val (.int (Int32.ofNat f12)), .val (.int (Int32.ofNat t2)), .val (.int (Int32.ofNat f14)), .val (.int (2 : Int32)), .val (.ref o1), .val (.int (0 : Int32)), .val (.int (1 : Int32)), .val (.int (0 : Int32)), .val (.int (2 : Int32)), .val (.int (2 : Int32))] [(.int (2 : Int32))]))
                      refine s_iload B X66 (pc' := 415) at_413 rfl rfl ?_
                      refine s_icmpN B X66 (pc' := 418) at_415 (by decide) rfl ?_
                      refine s_aload B X66 (pc' := 420) at_418 rfl rfl rfl ?_
                      refine s_iload B X66 (pc' := 422) at_420 rfl rfl ?_
                      refine p_virtual B X66 (y := mn9) (pc' := 425) (argsL := [(.int (Int32.ofNat v))]) (under := []) (W := 0) e66 (tw67 hw) (tw68 hw) (tw70 hw) (tw69 hw) (tw71 hw) (tw3 hw) (by decide) (rm_count l Z a0 hw o1 w_NO_UNITS 0 (fun _ => 0) 4 (fun _ => Bn) C v Tj310.heap Aj310 hv4 2 (hE6.trans (by decide))) Aj310.exa (lenOf pd_6 rfl) rfl rfl (by decide) (by decide) rfl rfl (show ce ≤ 32 by omega) (show sl ≤ 192 by omega) rfl at_422 rfl (fun T67 X67 e67 => ?_)
                      show Go p e below _ (T67.setTop (mkF m 425 #[.val (.int i0), .val (.int i1), .val (.int i2), .val (.int (Int32.ofNat u)), .val (.int (Int32.ofNat kq)), .val (.int (Int32.ofNat v)), .val (.int (Int32.ofNat w1)), .val (.int (Int32.ofNat w2)), .val (.int (1 : Int32)), .val (.int (Int32.ofNat f9)), .val (.int (Int32.ofNat t1)), .val (.int (1 : Int32)), .val (.int (Int32.ofNat f12)), .val (.int (Int32.ofNat t2)), .val (.int (Int32.ofNat f14)), .val (.int (2 : Int32)), .val (.ref o1), .val (.int (0 : Int32)), .val (.int (1 : Int32)), .val (.int (0 : Int32)), .val (.int (2 : Int32)), .val (.int (2 : Int32))] [(.int (2 : Int32))]))
                      refine s_iload B X67 (pc' := 427) at_425 rfl rfl ?_
                      refine s_icmpN B X67 (pc' := 430) at_427 (by decide) rfl ?_
                      refine s_aload B X67 (pc' := 432) at_430 rfl rfl rfl ?_
                      refine s_iloadN B X67 (pc' := 433) at_432 rfl rfl ?_
                      refine s_iload B X67 (pc' := 435) at_433 rfl rfl ?_
                      refine p_virtual B X67 (y := mn8) (pc' := 438) (argsL := [(.int (Int32.ofNat u)), (.int (Int32.ofNat t1))]) (under := []) (W := 0) e67 (tw62 hw) (tw63 hw) (tw65 hw) (tw64 hw) (tw66 hw) (tw3 hw) (by decide) (rm_edges l Z a0 hw o1 w_NO_UNITS 0 (fun _ => 0) 4 (fun _ => Bn) C u t1 Tj310.heap Aj310 hu4 (Nat.lt_trans t14 (by decide)) hBn 1 hE3) Aj310.exa (lenOf pd_0 rfl) rfl rfl (by decide) (by decide) rfl rfl (show ce ≤ 32 by omega) (show sl ≤ 192 by omega) rfl at_435 rfl (fun T68 X68 e68 => ?_)
                      show Go p e below _ (T68.setTop (mkF m 438 #[.val (.int i0), .val (.int i1), .val (.int i2), .val (.int (Int32.ofNat u)), .val (.int (Int32.ofNat kq)), .val (.int (Int32.ofNat v)), .val (.int (Int32.ofNat w1)), .val (.int (Int32.ofNat w2)), .val (.int (1 : Int32)), .val (.int (Int32.ofNat f9)), .val (.int (Int32.ofNat t1)), .val (.int (1 : Int32)), .val (.int (Int32.ofNat f12)), .val (.int (Int32.ofNat t2)), .val (.int (Int32.ofNat f14)), .val (.int (2 : Int32)), .val (.ref o1), .val (.int (0 : Int32)), .val (.int (1 : Int32)), .val (.int (0 : Int32)), .val (.int (2 : Int32)), .val (.int (2 : Int32))] [(.int (1 : Int32))]))
                      refine s_iload B X68 (pc' := 440) at_438 rfl rfl ?_
                      refine s_ifN B X68 (pc' := 443) at_440 (by decide) rfl ?_
                      refine s_iconst B X68 (pc' := 444) (v := (1 : Int32)) at_443 rfl rfl ?_
                      refine s_goto B X68 (pc' := 448) at_444 (by decide) (by decide) ?_
                      refine s_icmpN B X68 (pc' := 451) at_448 (by decide) rfl ?_
                      refine s_aload B X68 (pc' := 453) at_451 rfl rfl rfl ?_
                      refine s_iload B X68 (pc' := 455) at_453 rfl rfl ?_
                      refine s_iload B X68 (pc' := 457) at_455 rfl rfl ?_
                      refine p_virtual B X68 (y := mn8) (pc' := 460) (argsL := [(.int (Int32.ofNat v)), (.int (Int32.ofNat t2))]) (under := []) (W := 0) e68 (tw62 hw) (tw63 hw) (tw65 hw) (tw64 hw) (tw66 hw) (tw3 hw) (by decide) (rm_edges l Z a0 hw o1 w_NO_UNITS 0 (fun _ => 0) 4 (fun _ => Bn) C v t2 Tj310.heap Aj310 hv4 (Nat.lt_trans t24 (by decide)) hBn 1 hE4) Aj310.exa (lenOf pd_0 rfl) rfl rfl (by decide) (by decide) rfl rfl (show ce ≤ 32 by omega) (show sl ≤ 192 by omega) rfl at_457 rfl (fun T69 X69 e69 => ?_)
                      show Go p e below _ (T69.setTop (mkF m 460 #[.val (.int i0), .val (.int i1), .val (.int i2), .val (.int (Int32.ofNat u)), .val (.int (Int32.ofNat kq)), .val (.int (Int32.ofNat v)), .val (.int (Int32.ofNat w1)), .val (.int (Int32.ofNat w2)), .val (.int (1 : Int32)), .val (.int (Int32.ofNat f9)), .val (.int (Int32.ofNat t1)), .val (.int (1 : Int32)), .val (.int (Int32.ofNat f12)), .val (.int (Int32.ofNat t2)), .val (.int (Int32.ofNat f14)), .val (.int (2 : Int32)), .val (.ref o1), .val (.int (0 : Int32)), .val (.int (1 : Int32)), .val (.int (0 : Int32)), .val (.int (2 : Int32)), .val (.int (2 : Int32))] [(.int (1 : Int32))]))
                      refine s_iload B X69 (pc' := 462) at_460 rfl rfl ?_
                      refine s_ifN B X69 (pc' := 465) at_462 (by decide) rfl ?_
                      refine s_iconst B X69 (pc' := 466) (v := (1 : Int32)) at_465 rfl rfl ?_
                      refine s_goto B X69 (pc' := 470) at_466 (by decide) (by decide) ?_
                      refine s_icmpN B X69 (pc' := 473) at_470 (by decide) rfl ?_
                      refine s_iconst B X69 (pc' := 474) (v := (1 : Int32)) at_473 rfl rfl ?_
                      refine s_goto B X69 (pc' := 478) at_474 (by decide) (by decide) ?_
                      exact r_nar B X69 (t := .boolean) (by simp) rfl at_478 ⟨rfl, Nj310⟩ (show ce ≤ 32 by omega) (show sl ≤ 192 by omega)
                    · obtain rfl := hr0 (by decide)
                      show Go p e below _ (Tj310.setTop (mkF m 310 #[.val (.int i0), .val (.int i1), .val (.int i2), .val (.int (Int32.ofNat u)), .val (.int (Int32.ofNat kq)), .val (.int (Int32.ofNat v)), .val (.int (Int32.ofNat w1)), .val (.int (Int32.ofNat w2)), .val (.int (1 : Int32)), .val (.int (Int32.ofNat f9)), .val (.int (Int32.ofNat t1)), .val (.int (1 : Int32)), .val (.int (Int32.ofNat f12)), .val (.int (Int32.ofNat t2)), .val (.int (Int32.ofNat f14)), .val (.int (3 : Int32)), .val (.ref o1), .unset, .unset, .unset, .unset, .unset] [(.int (0 : Int32))]))
                      refine s_istore B Xj310 (pc' := 312) (Ls' := #[.val (.int i0), .val (.int i1), .val (.int i2), .val (.int (Int32.ofNat u)), .val (.int (Int32.ofNat kq)), .val (.int (Int32.ofNat v)), .val (.int (Int32.ofNat w1)), .val (.int (Int32.ofNat w2)), .val (.int (1 : Int32)), .val (.int (Int32.ofNat f9)), .val (.int (Int32.ofNat t1)), .val (.int (1 : Int32)), .val (.int (Int32.ofNat f12)), .val (.int (Int32.ofNat t2)), .val (.int (Int32.ofNat f14)), .val (.int (3 : Int32)), .val (.ref o1), .val (.int (0 : Int32)), .unset, .unset, .unset, .unset]) at_310 rfl rfl ?_
                      refine s_iload B Xj310 (pc' := 314) at_312 rfl rfl ?_
                      refine s_iconst B Xj310 (pc' := 315) (v := (1 : Int32)) at_314 rfl rfl ?_
                      refine s_isub B Xj310 (pc' := 316) (v := (2 : Int32)) at_315 rfl rfl ?_
                      refine s_istore B Xj310 (pc' := 318) (Ls' := #[.val (.int i0), .val (.int i1), .val (.int i2), .val (.int (Int32.ofNat u)), .val (.int (Int32.ofNat kq)), .val (.int (Int32.ofNat v)), .val (.int (Int32.ofNat w1)), .val (.int (Int32.ofNat w2)), .val (.int (1 : Int32)), .val (.int (Int32.ofNat f9)), .val (.int (Int32.ofNat t1)), .val (.int (1 : Int32)), .val (.int (Int32.ofNat f12)), .val (.int (Int32.ofNat t2)), .val (.int (Int32.ofNat f14)), .val (.int (3 : Int32)), .val (.ref o1), .val (.int (0 : Int32)), .val (.int (2 : Int32)), .unset, .unset, .unset]) at_316 rfl rfl ?_
                      refine s_iload B Xj310 (pc' := 320) at_318 rfl rfl ?_
                      refine s_iconst B Xj310 (pc' := 321) (v := (1 : Int32)) at_320 rfl rfl ?_
                      refine s_icmpY B Xj310 (pc' := 328) at_321 (by decide) (by decide) (by decide) ?_
                      refine s_iconst B Xj310 (pc' := 329) (v := (0 : Int32)) at_328 rfl rfl ?_
                      refine s_istore B Xj310 (pc' := 331) (Ls' := #[.val (.int i0), .val (.int i1), .val (.int i2), .val (.int (Int32.ofNat u)), .val (.int (Int32.ofNat kq)), .val (.int (Int32.ofNat v)), .val (.int (Int32.ofNat w1)), .val (.int (Int32.ofNat w2)), .val (.int (1 : Int32)), .val (.int (Int32.ofNat f9)), .val (.int (Int32.ofNat t1)), .val (.int (1 : Int32)), .val (.int (Int32.ofNat f12)), .val (.int (Int32.ofNat t2)), .val (.int (Int32.ofNat f14)), .val (.int (3 : Int32)), .val (.ref o1), .val (.int (0 : Int32)), .val (.int (2 : Int32)), .val (.int (0 : Int32)), .unset, .unset]) at_329 rfl rfl ?_
                      refine s_iconst B Xj310 (pc' := 332) (v := (1 : Int32)) at_331 rfl rfl ?_
                      refine s_iload B Xj310 (pc' := 334) at_332 rfl rfl ?_
                      refine s_ifN B Xj310 (pc' := 337) at_334 (by decide) rfl ?_
                      refine s_iconst B Xj310 (pc' := 338) (v := (1 : Int32)) at_337 rfl rfl ?_
                      refine s_goto B Xj310 (pc' := 342) at_338 (by decide) (by decide) ?_
                      refine s_iadd B Xj310 (pc' := 343) (v := (2 : Int32)) at_342 rfl rfl ?_
                      refine s_iload B Xj310 (pc' := 345) at_343 rfl rfl ?_
                      refine s_isub B Xj310 (pc' := 346) (v := (2 : Int32)) at_345 rfl rfl ?_
                      refine s_istore B Xj310 (pc' := 348) (Ls' := #[.val (.int i0), .val (.int i1), .val (.int i2), .val (.int (Int32.ofNat u)), .val (.int (Int32.ofNat kq)), .val (.int (Int32.ofNat v)), .val (.int (Int32.ofNat w1)), .val (.int (Int32.ofNat w2)), .val (.int (1 : Int32)), .val (.int (Int32.ofNat f9)), .val (.int (Int32.ofNat t1)), .val (.int (1 : Int32)), .val (.int (Int32.ofNat f12)), .val (.int (Int32.ofNat t2)), .val (.int (Int32.ofNat f14)), .val (.int (3 : Int32)), .val (.ref o1), .val (.int (0 : Int32)), .val (.int (2 : Int32)), .val (.int (0 : Int32)), .val (.int (2 : Int32)), .unset]) at_346 rfl rfl ?_
                      refine s_iconst B Xj310 (pc' := 349) (v := (1 : Int32)) at_348 rfl rfl ?_
                      refine s_iload B Xj310 (pc' := 351) at_349 rfl rfl ?_
                      refine s_ifN B Xj310 (pc' := 354) at_351 (by decide) rfl ?_
                      refine s_iconst B Xj310 (pc' := 355) (v := (1 : Int32)) at_354 rfl rfl ?_
                      refine s_goto B Xj310 (pc' := 359) at_355 (by decide) (by decide) ?_
                      refine s_iadd B Xj310 (pc' := 360) (v := (2 : Int32)) at_359 rfl rfl ?_
                      refine s_iload B Xj310 (pc' := 362) at_360 rfl rfl ?_
                      refine s_isub B Xj310 (pc' := 363) (v := (2 : Int32)) at_362 rfl rfl ?_
                      refine s_istore B Xj310 (pc' := 365) (Ls' := #[.val (.int i0), .val (.int i1), .val (.int i2), .val (.int (Int32.ofNat u)), .val (.int (Int32.ofNat kq)), .val (.int (Int32.ofNat v)), .val (.int (Int32.ofNat w1)), .val (.int (Int32.ofNat w2)), .val (.int (1 : Int32)), .val (.int (Int32.ofNat f9)), .val (.int (Int32.ofNat t1)), .val (.int (1 : Int32)), .val (.int (Int32.ofNat f12)), .val (.int (Int32.ofNat t2)), .val (.int (Int32.ofNat f14)), .val (.int (3 : Int32)), .val (.ref o1), .val (.int (0 : Int32)), .val (.int (2 : Int32)), .val (.int (0 : Int32)), .val (.int (2 : Int32)), .val (.int (2 : Int32))]) at_363 rfl rfl ?_
                      refine s_iload B Xj310 (pc' := 367) at_365 rfl rfl ?_
                      refine s_iload B Xj310 (pc' := 369) at_367 rfl rfl ?_
                      refine s_iconst B Xj310 (pc' := 370) (v := (1 : Int32)) at_369 rfl rfl ?_
                      refine s_icmpY B Xj310 (pc' := 377) at_370 (by decide) (by decide) (by decide) ?_
                      refine s_iconst B Xj310 (pc' := 378) (v := (0 : Int32)) at_377 rfl rfl ?_
                      refine s_icmpN B Xj310 (pc' := 381) at_378 (by decide) rfl ?_
                      refine s_aload B Xj310 (pc' := 383) at_381 rfl rfl rfl ?_
                      refine s_iloadN B Xj310 (pc' := 384) at_383 rfl rfl ?_
                      refine s_iload B Xj310 (pc' := 386) at_384 rfl rfl ?_
                      refine p_virtual B Xj310 (y := mn8) (pc' := 389) (argsL := [(.int (Int32.ofNat u)), (.int (Int32.ofNat v))]) (under := []) (W := 0) rfl (tw62 hw) (tw63 hw) (tw65 hw) (tw64 hw) (tw66 hw) (tw3 hw) (by decide) (rm_edges l Z a0 hw o1 w_NO_UNITS 0 (fun _ => 0) 4 (fun _ => Bn) C u v Tj310.heap Aj310 hu4 (Nat.lt_trans hv4 (by decide)) hBn 2 (hE1.trans (by decide))) Aj310.exa (lenOf pd_0 rfl) rfl rfl (by decide) (by decide) rfl rfl (show ce ≤ 32 by omega) (show sl ≤ 192 by omega) rfl at_386 rfl (fun T70 X70 e70 => ?_)
                      show Go p e below _ (T70.setTop (mkF m 389 #[.val (.int i0), .val (.int i1), .val (.int i2), .val (.int (Int32.ofNat u)), .val (.int (Int32.ofNat kq)), .val (.int (Int32.ofNat v)), .val (.int (Int32.ofNat w1)), .val (.int (Int32.ofNat w2)), .val (.int (1 : Int32)), .val (.int (Int32.ofNat f9)), .val (.int (Int32.ofNat t1)), .val (.int (1 : Int32)), .val (.int (Int32.ofNat f12)), .val (.int (Int32.ofNat t2)), .val (.int (Int32.ofNat f14)), .val (.int (3 : Int32)), .val (.ref o1), .val (.int (0 : Int32)), .val (.int (2 : Int32)), .val (.int (0 : Int32)), .val (.int (2 : Int32)), .val (.int (2 : Int32))] [(.int (2 : Int32))]))
                      refine s_iload B X70 (pc' := 391) at_389 rfl rfl ?_
                      refine s_icmpN B X70 (pc' := 394) at_391 (by decide) rfl ?_
                      refine s_aload B X70 (pc' := 396) at_394 rfl rfl rfl ?_
                      refine s_iload B X70 (pc' := 398) at_396 rfl rfl ?_
                      refine s_iloadN B X70 (pc' := 399) at_398 rfl rfl ?_
                      refine p_virtual B X70 (y := mn8) (pc' := 402) (argsL := [(.int (Int32.ofNat v)), (.int (Int32.ofNat u))]) (under := []) (W := 0) e70 (tw62 hw) (tw63 hw) (tw65 hw) (tw64 hw) (tw66 hw) (tw3 hw) (by decide) (rm_edges l Z a0 hw o1 w_NO_UNITS 0 (fun _ => 0) 4 (fun _ => Bn) C v u Tj310.heap Aj310 hv4 (Nat.lt_trans hu4 (by decide)) hBn 2 (hE2.trans (by decide))) Aj310.exa (lenOf pd_0 rfl) rfl rfl (by decide) (by decide) rfl rfl (show ce ≤ 32 by omega) (show sl ≤ 192 by omega) rfl at_399 rfl (fun T71 X71 e71 => ?_)
                      show Go p e below _ (T71.setTop (mkF m 402 #[.val (.int i0), .val (.int i1), .val (.int i2), .val (.int (Int32.ofNat u)), .val (.int (Int32.ofNat kq)), .val (.int (Int32.ofNat v)), .val (.int (Int32.ofNat w1)), .val (.int (Int32.ofNat w2)), .val (.int (1 : Int32)), .val (.int (Int32.ofNat f9)), .val (.int (Int32.ofNat t1)), .val (.int (1 : Int32)), .val (.int (Int32.ofNat f12)), .val (.int (Int32.ofNat t2)), .val (.int (Int32.ofNat f14)), .val (.int (3 : Int32)), .val (.ref o1), .val (.int (0 : Int32)), .val (.int (2 : Int32)), .val (.int (0 : Int32)), .val (.int (2 : Int32)), .val (.int (2 : Int32))] [(.int (2 : Int32))]))
                      refine s_iload B X71 (pc' := 404) at_402 rfl rfl ?_
                      refine s_icmpN B X71 (pc' := 407) at_404 (by decide) rfl ?_
                      refine s_aload B X71 (pc' := 409) at_407 rfl rfl rfl ?_
                      refine s_iloadN B X71 (pc' := 410) at_409 rfl rfl ?_
                      refine p_virtual B X71 (y := mn9) (pc' := 413) (argsL := [(.int (Int32.ofNat u))]) (under := []) (W := 0) e71 (tw67 hw) (tw68 hw) (tw70 hw) (tw69 hw) (tw71 hw) (tw3 hw) (by decide) (rm_count l Z a0 hw o1 w_NO_UNITS 0 (fun _ => 0) 4 (fun _ => Bn) C u Tj310.heap Aj310 hu4 2 (hE5.trans (by decide))) Aj310.exa (lenOf pd_6 rfl) rfl rfl (by decide) (by decide) rfl rfl (show ce ≤ 32 by omega) (show sl ≤ 192 by omega) rfl at_410 rfl (fun T72 X72 e72 => ?_)
                      show Go p e below _ (T72.setTop (mkF m 413 #[.val (.int i0), .val (.int i1), .val (.int i2), .val (.int (Int32.ofNat u)), .val (.int (Int32.ofNat kq)), .val (.int (Int32.ofNat v)), .val (.int (Int32.ofNat w1)), .val (.int (Int32.ofNat w2)), .val (.int (1 : Int32)), .val (.int (Int32.ofNat f9)), .val (.int (Int32.ofNat t1)), .val (.int (1 : Int32)), .val (.int (Int32.ofNat f12)), .val (.int (Int32.ofNat t2)), .val (.int (Int32.ofNat f14)), .val (.int (3 : Int32)), .val (.ref o1), .val (.int (0 : Int32)), .val (.int (2 : Int32)), .val (.int (0 : Int32)), .val (.int (2 : Int32)), .val (.int (2 : Int32))] [(.int (2 : Int32))]))
                      refine s_iload B X72 (pc' := 415) at_413 rfl rfl ?_
                      refine s_icmpN B X72 (pc' := 418) at_415 (by decide) rfl ?_
                      refine s_aload B X72 (pc' := 420) at_418 rfl rfl rfl ?_
                      refine s_iload B X72 (pc' := 422) at_420 rfl rfl ?_
                      refine p_virtual B X72 (y := mn9) (pc' := 425) (argsL := [(.int (Int32.ofNat v))]) (under := []) (W := 0) e72 (tw67 hw) (tw68 hw) (tw70 hw) (tw69 hw) (tw71 hw) (tw3 hw) (by decide) (rm_count l Z a0 hw o1 w_NO_UNITS 0 (fun _ => 0) 4 (fun _ => Bn) C v Tj310.heap Aj310 hv4 2 (hE6.trans (by decide))) Aj310.exa (lenOf pd_6 rfl) rfl rfl (by decide) (by decide) rfl rfl (show ce ≤ 32 by omega) (show sl ≤ 192 by omega) rfl at_422 rfl (fun T73 X73 e73 => ?_)
                      show Go p e below _ (T73.setTop (mkF m 425 #[.val (.int i0), .val (.int i1), .val (.int i2), .val (.int (Int32.ofNat u)), .val (.int (Int32.ofNat kq)), .val (.int (Int32.ofNat v)), .val (.int (Int32.ofNat w1)), .val (.int (Int32.ofNat w2)), .val (.int (1 : Int32)), .val (.int (Int32.ofNat f9)), .val (.int (Int32.ofNat t1)), .val (.int (1 : Int32)), .val (.int (Int32.ofNat f12)), .val (.int (Int32.ofNat t2)), .val (.int (Int32.ofNat f14)), .val (.int (3 : Int32)), .val (.ref o1), .val (.int (0 : Int32)), .val (.int (2 : Int32)), .val (.int (0 : Int32)), .val (.int (2 : Int32)), .val (.int (2 : Int32))] [(.int (2 : Int32))]))
                      refine s_iload B X73 (pc' := 427) at_425 rfl rfl ?_
                      refine s_icmpN B X73 (pc' := 430) at_427 (by decide) rfl ?_
                      refine s_aload B X73 (pc' := 432) at_430 rfl rfl rfl ?_
                      refine s_iloadN B X73 (pc' := 433) at_432 rfl rfl ?_
                      refine s_iload B X73 (pc' := 435) at_433 rfl rfl ?_
                      refine p_virtual B X73 (y := mn8) (pc' := 438) (argsL := [(.int (Int32.ofNat u)), (.int (Int32.ofNat t1))]) (under := []) (W := 0) e73 (tw62 hw) (tw63 hw) (tw65 hw) (tw64 hw) (tw66 hw) (tw3 hw) (by decide) (rm_edges l Z a0 hw o1 w_NO_UNITS 0 (fun _ => 0) 4 (fun _ => Bn) C u t1 Tj310.heap Aj310 hu4 (Nat.lt_trans t14 (by decide)) hBn 1 hE3) Aj310.exa (lenOf pd_0 rfl) rfl rfl (by decide) (by decide) rfl rfl (show ce ≤ 32 by omega) (show sl ≤ 192 by omega) rfl at_435 rfl (fun T74 X74 e74 => ?_)
                      show Go p e below _ (T74.setTop (mkF m 438 #[.val (.int i0), .val (.int i1), .val (.int i2), .val (.int (Int32.ofNat u)), .val (.int (Int32.ofNat kq)), .val (.int (Int32.ofNat v)), .val (.int (Int32.ofNat w1)), .val (.int (Int32.ofNat w2)), .val (.int (1 : Int32)), .val (.int (Int32.ofNat f9)), .val (.int (Int32.ofNat t1)), .val (.int (1 : Int32)), .val (.int (Int32.ofNat f12)), .val (.int (Int32.ofNat t2)), .val (.int (Int32.ofNat f14)), .val (.int (3 : Int32)), .val (.ref o1), .val (.int (0 : Int32)), .val (.int (2 : Int32)), .val (.int (0 : Int32)), .val (.int (2 : Int32)), .val (.int (2 : Int32))] [(.int (1 : Int32))]))
                      refine s_iload B X74 (pc' := 440) at_438 rfl rfl ?_
                      refine s_ifN B X74 (pc' := 443) at_440 (by decide) rfl ?_
                      refine s_iconst B X74 (pc' := 444) (v := (1 : Int32)) at_443 rfl rfl ?_
                      refine s_goto B X74 (pc' := 448) at_444 (by decide) (by decide) ?_
                      refine s_icmpN B X74 (pc' := 451) at_448 (by decide) rfl ?_
                      refine s_aload B X74 (pc' := 453) at_451 rfl rfl rfl ?_
                      refine s_iload B X74 (pc' := 455) at_453 rfl rfl ?_
                      refine s_iload B X74 (pc' := 457) at_455 rfl rfl ?_
                      refine p_virtual B X74 (y := mn8) (pc' := 460) (argsL := [(.int (Int32.ofNat v)), (.int (Int32.ofNat t2))]) (under := []) (W := 0) e74 (tw62 hw) (tw63 hw) (tw65 hw) (tw64 hw) (tw66 hw) (tw3 hw) (by decide) (rm_edges l Z a0 hw o1 w_NO_UNITS 0 (fun _ => 0) 4 (fun _ => Bn) C v t2 Tj310.heap Aj310 hv4 (Nat.lt_trans t24 (by decide)) hBn 1 hE4) Aj310.exa (lenOf pd_0 rfl) rfl rfl (by decide) (by decide) rfl rfl (show ce ≤ 32 by omega) (show sl ≤ 192 by omega) rfl at_457 rfl (fun T75 X75 e75 => ?_)
                      show Go p e below _ (T75.setTop (mkF m 460 #[.val (.int i0), .val (.int i1), .val (.int i2), .val (.int (Int32.ofNat u)), .val (.int (Int32.ofNat kq)), .val (.int (Int32.ofNat v)), .val (.int (Int32.ofNat w1)), .val (.int (Int32.ofNat w2)), .val (.int (1 : Int32)), .val (.int (Int32.ofNat f9)), .val (.int (Int32.ofNat t1)), .val (.int (1 : Int32)), .val (.int (Int32.ofNat f12)), .val (.int (Int32.ofNat t2)), .val (.int (Int32.ofNat f14)), .val (.int (3 : Int32)), .val (.ref o1), .val (.int (0 : Int32)), .val (.int (2 : Int32)), .val (.int (0 : Int32)), .val (.int (2 : Int32)), .val (.int (2 : Int32))] [(.int (1 : Int32))]))
                      refine s_iload B X75 (pc' := 462) at_460 rfl rfl ?_
                      refine s_ifN B X75 (pc' := 465) at_462 (by decide) rfl ?_
                      refine s_iconst B X75 (pc' := 466) (v := (1 : Int32)) at_465 rfl rfl ?_
                      refine s_goto B X75 (pc' := 470) at_466 (by decide) (by decide) ?_
                      refine s_icmpN B X75 (pc' := 473) at_470 (by decide) rfl ?_
                      refine s_iconst B X75 (pc' := 474) (v := (1 : Int32)) at_473 rfl rfl ?_
                      refine s_goto B X75 (pc' := 478) at_474 (by decide) (by decide) ?_
                      exact r_nar B X75 (t := .boolean) (by simp) rfl at_478 ⟨rfl, Nj310⟩ (show ce ≤ 32 by omega) (show sl ≤ 192 by omega)
              refine s_iload B Xj286 (pc' := 288) at_286 rfl rfl ?_
              rcases (by omega : f14 = 0 ∨ f14 = 1) with qf14 | qf14
              · refine b_if_eq B Xj286 (py := 302) (pn := 291) at_288 (by decide) (by decide) rfl (fun _ => ?_) (fun q => absurd (congrArg Int32.ofNat qf14) q)
                refine s_aload B Xj286 (pc' := 304) at_302 rfl rfl rfl ?_
                refine s_iloadN B Xj286 (pc' := 305) at_304 rfl rfl ?_
                refine s_iload B Xj286 (pc' := 307) at_305 rfl rfl ?_
                have hCuv : C u v = mm := by rw [HC u v, mt_no (u := u) (v := t1) (x := u) (y := v) (fun z => z.elim (fun z => t1v z.2) (fun z => huv z.1)), mt_no (u := v) (v := t2) (x := u) (y := v) (fun z => z.elim (fun z => hvu z.1) (fun z => t2u z.2)), mt_self]; omega
                have hCvu : C v u = mm := by rw [HC v u, mt_no (u := u) (v := t1) (x := v) (y := u) (fun z => z.elim (fun z => huv z.1) (fun z => t1v z.2)), mt_no (u := v) (v := t2) (x := v) (y := u) (fun z => z.elim (fun z => t2u z.2) (fun z => hvu z.1)), mt_flip]; omega
                refine c_virtual B Xj286 (y := mn7) (pc' := 310) (argsL := [(.int (Int32.ofNat u)), (.int (Int32.ofNat v))]) (under := []) (W := 0) rfl (tw53 hw) (tw54 hw) (tw56 hw) (tw55 hw) (tw57 hw) (tw3 hw) (by decide) (rm_removeEdge l Z a0 hw o1 w_NO_UNITS 0 (fun _ => 0) 4 (Bn) C u v _ Aj286 (by decide) hu4 hv4 huv (by omega) (by omega) (by omega)) Aj286.exa (lenOf pd_5 rfl) rfl rfl (by decide) (by decide) (show ce + 0 ≤ 32 by omega) (show sl + 0 ≤ 192 by omega) rfl at_307 rfl (fun v76 T76 L76 X76 hQ76 => ?_)
                obtain ⟨rfl, Nq76, A76⟩ := hQ76
                have N76 := Fr.app Nj286 Nq76
                have HC76 : CH u v t1 t2 f8 f11 (mm - 1) (dn1 (dn1 C u v) v u) := by
                  obtain ⟨rfl, rfl, rfl⟩ := hF
                  exact HC.rem huv (by omega)
                show Go p e below _ (T76.setTop (mkF m 310 #[.val (.int i0), .val (.int i1), .val (.int i2), .val (.int (Int32.ofNat u)), .val (.int (Int32.ofNat kq)), .val (.int (Int32.ofNat v)), .val (.int (Int32.ofNat w1)), .val (.int (Int32.ofNat w2)), .val (.int (Int32.ofNat f8)), .val (.int (Int32.ofNat f9)), .val (.int (Int32.ofNat t1)), .val (.int (Int32.ofNat f11)), .val (.int (Int32.ofNat f12)), .val (.int (Int32.ofNat t2)), .val (.int (Int32.ofNat f14)), .val (.int (Int32.ofNat mm)), .val (.ref o1), .unset, .unset, .unset, .unset, .unset] [(.int _)]))
                exact jn310 T76 _ (ce) (sl) (Bn) _ _ X76 N76 (by omega) (by omega) (by omega) A76 HC76 (fun z => if_pos (hCvu.trans z)) (fun z => if_neg (fun q => z (hCvu.symm.trans q)))
              · refine b_if_eq B Xj286 (py := 302) (pn := 291) at_288 (by decide) (by decide) rfl (fun q => absurd q (fun z => by have := (sm_eq0 (x := f14) (by omega)).mp z; omega)) (fun _ => ?_)
                refine s_aload B Xj286 (pc' := 293) at_291 rfl rfl rfl ?_
                refine s_iload B Xj286 (pc' := 295) at_293 rfl rfl ?_
                refine s_iloadN B Xj286 (pc' := 296) at_295 rfl rfl ?_
                have hCuv : C u v = mm := by rw [HC u v, mt_no (u := u) (v := t1) (x := u) (y := v) (fun z => z.elim (fun z => t1v z.2) (fun z => huv z.1)), mt_no (u := v) (v := t2) (x := u) (y := v) (fun z => z.elim (fun z => hvu z.1) (fun z => t2u z.2)), mt_self]; omega
                have hCvu : C v u = mm := by rw [HC v u, mt_no (u := u) (v := t1) (x := v) (y := u) (fun z => z.elim (fun z => huv z.1) (fun z => t1v z.2)), mt_no (u := v) (v := t2) (x := v) (y := u) (fun z => z.elim (fun z => t2u z.2) (fun z => hvu z.1)), mt_flip]; omega
                refine c_virtual B Xj286 (y := mn7) (pc' := 299) (argsL := [(.int (Int32.ofNat v)), (.int (Int32.ofNat u))]) (under := []) (W := 0) rfl (tw53 hw) (tw54 hw) (tw56 hw) (tw55 hw) (tw57 hw) (tw3 hw) (by decide) (rm_removeEdge l Z a0 hw o1 w_NO_UNITS 0 (fun _ => 0) 4 (Bn) C v u _ Aj286 (by decide) hv4 hu4 hvu (by omega) (by omega) (by omega)) Aj286.exa (lenOf pd_5 rfl) rfl rfl (by decide) (by decide) (show ce + 0 ≤ 32 by omega) (show sl + 0 ≤ 192 by omega) rfl at_296 rfl (fun v77 T77 L77 X77 hQ77 => ?_)
                obtain ⟨rfl, Nq77, A77⟩ := hQ77
                have N77 := Fr.app Nj286 Nq77
                have HC77 : CH u v t1 t2 f8 f11 (mm - 1) (dn1 (dn1 C v u) u v) := by
                  obtain ⟨rfl, rfl, rfl⟩ := hF
                  exact HC.remf hvu (by omega)
                show Go p e below _ (T77.setTop (mkF m 299 #[.val (.int i0), .val (.int i1), .val (.int i2), .val (.int (Int32.ofNat u)), .val (.int (Int32.ofNat kq)), .val (.int (Int32.ofNat v)), .val (.int (Int32.ofNat w1)), .val (.int (Int32.ofNat w2)), .val (.int (Int32.ofNat f8)), .val (.int (Int32.ofNat f9)), .val (.int (Int32.ofNat t1)), .val (.int (Int32.ofNat f11)), .val (.int (Int32.ofNat f12)), .val (.int (Int32.ofNat t2)), .val (.int (Int32.ofNat f14)), .val (.int (Int32.ofNat mm)), .val (.ref o1), .unset, .unset, .unset, .unset, .unset] [(.int _)]))
                refine s_goto B X77 (pc' := 310) at_299 (by decide) (by decide) ?_
                exact jn310 T77 _ (ce) (sl) (Bn) _ _ X77 N77 (by omega) (by omega) (by omega) A77 HC77 (fun z => if_pos (hCuv.trans z)) (fun z => if_neg (fun q => z (hCuv.symm.trans q)))
            refine s_iload B Xj266 (pc' := 268) at_266 rfl rfl ?_
            rcases (by omega : f11 = 0 ∨ f11 = 1) with qf11 | qf11
            · refine b_if_eq B Xj266 (py := 286) (pn := 271) at_268 (by decide) (by decide) rfl (fun _ => ?_) (fun q => absurd (congrArg Int32.ofNat qf11) q)
              exact jn286 Tj266 _ (ce) (sl) (Bn) (a1) (a2) (k) _ Xj266 Nj266 (by omega) (by omega) (by omega) Aj266 HC (by omega)
            · refine b_if_eq B Xj266 (py := 286) (pn := 271) at_268 (by decide) (by decide) rfl (fun q => absurd q (fun z => by have := (sm_eq0 (x := f11) (by omega)).mp z; omega)) (fun _ => ?_)
              refine s_iload B Xj266 (pc' := 273) at_271 rfl rfl ?_
              rcases (by omega : f12 = 0 ∨ f12 = 1) with qf12 | qf12
              · refine b_if_ne B Xj266 (py := 286) (pn := 276) at_273 (by decide) (by decide) rfl (fun q => absurd (congrArg Int32.ofNat qf12) q) (fun _ => ?_)
                refine s_aload B Xj266 (pc' := 278) at_276 rfl rfl rfl ?_
                refine s_iload B Xj266 (pc' := 280) at_278 rfl rfl ?_
                refine s_iload B Xj266 (pc' := 282) at_280 rfl rfl ?_
                refine c_virtual B Xj266 (y := mn6) (pc' := 285) (argsL := [(.int (Int32.ofNat v)), (.int (Int32.ofNat t2))]) (under := []) (W := 0) rfl (tw26 hw) (tw27 hw) (tw29 hw) (tw28 hw) (tw30 hw) (tw3 hw) (by decide) (rm_addEdge l Z a0 hw o1 w_NO_UNITS 0 (fun _ => 0) 4 (Bn) _ v t2 _ Aj266 (by decide) hv4 t24 vt2 (by omega)) Aj266.exa (lenOf pd_5 rfl) rfl rfl (by decide) (by decide) (show ce + 4 ≤ 32 by omega) (show sl + 32 ≤ 192 by omega) rfl at_282 rfl (fun v78 T78 L78 X78 hQ78 => ?_)
                obtain ⟨⟨x78, rfl⟩, Nq78, A78⟩ := hQ78
                have N78 := Fr.app Nj266 Nq78
                have HC78 := HC.add2 vt2
                show Go p e below _ (T78.setTop (mkF m 285 #[.val (.int i0), .val (.int i1), .val (.int i2), .val (.int (Int32.ofNat u)), .val (.int (Int32.ofNat kq)), .val (.int (Int32.ofNat v)), .val (.int (Int32.ofNat w1)), .val (.int (Int32.ofNat w2)), .val (.int (Int32.ofNat f8)), .val (.int (Int32.ofNat f9)), .val (.int (Int32.ofNat t1)), .val (.int (Int32.ofNat f11)), .val (.int (Int32.ofNat f12)), .val (.int (Int32.ofNat t2)), .val (.int (Int32.ofNat f14)), .val (.int (Int32.ofNat mm)), .val (.ref o1), .unset, .unset, .unset, .unset, .unset] [(.int x78)]))
                refine s_pop B X78 (pc' := 286) at_285 rfl rfl ?_
                exact jn286 T78 _ (ce + 4) (sl + 32) (Bn + 1) (a1) (a2 + 1) (k) _ X78 N78 (by omega) (by omega) (by omega) A78 HC78 (by omega)
              · refine b_if_ne B Xj266 (py := 286) (pn := 276) at_273 (by decide) (by decide) rfl (fun _ => ?_) (fun q => absurd q (fun z => by have := (sm_eq0 (x := f12) (by omega)).mp z; omega))
                exact jn286 Tj266 _ (ce) (sl) (Bn) (a1) (a2) (k) _ Xj266 Nj266 (by omega) (by omega) (by omega) Aj266 HC (by omega)
          refine s_iload B Xj247 (pc' := 249) at_247 rfl rfl ?_
          rcases (by omega : f8 = 0 ∨ f8 = 1) with qf8 | qf8
          · refine b_if_eq B Xj247 (py := 266) (pn := 252) at_249 (by decide) (by decide) rfl (fun _ => ?_) (fun q => absurd (congrArg Int32.ofNat qf8) q)
            exact jn266 Tj247 _ (ce) (sl) (Bn) (a1) (a2) (k) _ Xj247 Nj247 (by omega) (by omega) (by omega) Aj247 HC (by omega)
          · refine b_if_eq B Xj247 (py := 266) (pn := 252) at_249 (by decide) (by decide) rfl (fun q => absurd q (fun z => by have := (sm_eq0 (x := f8) (by omega)).mp z; omega)) (fun _ => ?_)
            refine s_iload B Xj247 (pc' := 254) at_252 rfl rfl ?_
            rcases (by omega : f9 = 0 ∨ f9 = 1) with qf9 | qf9
            · refine b_if_ne B Xj247 (py := 266) (pn := 257) at_254 (by decide) (by decide) rfl (fun q => absurd (congrArg Int32.ofNat qf9) q) (fun _ => ?_)
              refine s_aload B Xj247 (pc' := 259) at_257 rfl rfl rfl ?_
              refine s_iload B Xj247 (pc' := 261) at_259 rfl rfl ?_
              refine s_iloadN B Xj247 (pc' := 262) at_261 rfl rfl ?_
              refine c_virtual B Xj247 (y := mn6) (pc' := 265) (argsL := [(.int (Int32.ofNat t1)), (.int (Int32.ofNat u))]) (under := []) (W := 0) rfl (tw26 hw) (tw27 hw) (tw29 hw) (tw28 hw) (tw30 hw) (tw3 hw) (by decide) (rm_addEdge l Z a0 hw o1 w_NO_UNITS 0 (fun _ => 0) 4 (Bn) _ t1 u _ Aj247 (by decide) t14 hu4 t1u (by omega)) Aj247.exa (lenOf pd_5 rfl) rfl rfl (by decide) (by decide) (show ce + 4 ≤ 32 by omega) (show sl + 32 ≤ 192 by omega) rfl at_262 rfl (fun v79 T79 L79 X79 hQ79 => ?_)
              obtain ⟨⟨x79, rfl⟩, Nq79, A79⟩ := hQ79
              have N79 := Fr.app Nj247 Nq79
              have HC79 := HC.add1f t1u
              show Go p e below _ (T79.setTop (mkF m 265 #[.val (.int i0), .val (.int i1), .val (.int i2), .val (.int (Int32.ofNat u)), .val (.int (Int32.ofNat kq)), .val (.int (Int32.ofNat v)), .val (.int (Int32.ofNat w1)), .val (.int (Int32.ofNat w2)), .val (.int (Int32.ofNat f8)), .val (.int (Int32.ofNat f9)), .val (.int (Int32.ofNat t1)), .val (.int (Int32.ofNat f11)), .val (.int (Int32.ofNat f12)), .val (.int (Int32.ofNat t2)), .val (.int (Int32.ofNat f14)), .val (.int (Int32.ofNat mm)), .val (.ref o1), .unset, .unset, .unset, .unset, .unset] [(.int x79)]))
              refine s_pop B X79 (pc' := 266) at_265 rfl rfl ?_
              exact jn266 T79 _ (ce + 4) (sl + 32) (Bn + 1) (a1 + 1) (a2) (k) _ X79 N79 (by omega) (by omega) (by omega) A79 HC79 (by omega)
            · refine b_if_ne B Xj247 (py := 266) (pn := 257) at_254 (by decide) (by decide) rfl (fun _ => ?_) (fun q => absurd q (fun z => by have := (sm_eq0 (x := f9) (by omega)).mp z; omega))
              exact jn266 Tj247 _ (ce) (sl) (Bn) (a1) (a2) (k) _ Xj247 Nj247 (by omega) (by omega) (by omega) Aj247 HC (by omega)
        refine s_iload B Xj232 (pc' := 234) at_232 rfl rfl ?_
        refine s_iconst B Xj232 (pc' := 235) (v := (3 : Int32)) at_234 rfl rfl ?_
        by_cases qm : mm < 3
        · refine b_icmp_lt B Xj232 (py := 247) (pn := 238) at_235 (by decide) (by decide) rfl (fun _ => ?_) (fun q => absurd ((sm_lt (x := mm) (y := 3) (by omega) (by decide)).mpr qm) q)
          exact jn247 Tj232 _ (ce) (sl) (Bn) (a1) (a2) (k) _ Xj232 Nj232 (by omega) (by omega) (by omega) Aj232 HC (by omega)
        · refine b_icmp_lt B Xj232 (py := 247) (pn := 238) at_235 (by decide) (by decide) rfl (fun q => absurd q (fun z => qm ((sm_lt (x := mm) (y := 3) (by omega) (by decide)).mp z))) (fun _ => ?_)
          refine s_aload B Xj232 (pc' := 240) at_238 rfl rfl rfl ?_
          refine s_iloadN B Xj232 (pc' := 241) at_240 rfl rfl ?_
          refine s_iload B Xj232 (pc' := 243) at_241 rfl rfl ?_
          refine c_virtual B Xj232 (y := mn6) (pc' := 246) (argsL := [(.int (Int32.ofNat u)), (.int (Int32.ofNat v))]) (under := []) (W := 0) rfl (tw26 hw) (tw27 hw) (tw29 hw) (tw28 hw) (tw30 hw) (tw3 hw) (by decide) (rm_addEdge l Z a0 hw o1 w_NO_UNITS 0 (fun _ => 0) 4 (Bn) _ u v _ Aj232 (by decide) hu4 hv4 huv (by omega)) Aj232.exa (lenOf pd_5 rfl) rfl rfl (by decide) (by decide) (show ce + 4 ≤ 32 by omega) (show sl + 32 ≤ 192 by omega) rfl at_243 rfl (fun v80 T80 L80 X80 hQ80 => ?_)
          obtain ⟨⟨x80, rfl⟩, Nq80, A80⟩ := hQ80
          have N80 := Fr.app Nj232 Nq80
          have HC80 := HC.add3 huv
          show Go p e below _ (T80.setTop (mkF m 246 #[.val (.int i0), .val (.int i1), .val (.int i2), .val (.int (Int32.ofNat u)), .val (.int (Int32.ofNat kq)), .val (.int (Int32.ofNat v)), .val (.int (Int32.ofNat w1)), .val (.int (Int32.ofNat w2)), .val (.int (Int32.ofNat f8)), .val (.int (Int32.ofNat f9)), .val (.int (Int32.ofNat t1)), .val (.int (Int32.ofNat f11)), .val (.int (Int32.ofNat f12)), .val (.int (Int32.ofNat t2)), .val (.int (Int32.ofNat f14)), .val (.int (Int32.ofNat mm)), .val (.ref o1), .unset, .unset, .unset, .unset, .unset] [(.int x80)]))
          refine s_pop B X80 (pc' := 247) at_246 rfl rfl ?_
          exact jn247 T80 _ (ce + 4) (sl + 32) (Bn + 1) (a1) (a2) (k + 1) _ X80 N80 (by omega) (by omega) (by omega) A80 HC80 (by omega)
      refine s_iload B X3 (pc' := 219) at_217 rfl rfl ?_
      refine s_iconst B X3 (pc' := 220) (v := (2 : Int32)) at_219 rfl rfl ?_
      by_cases qm : mm < 2
      · refine b_icmp_lt B X3 (py := 232) (pn := 223) at_220 (by decide) (by decide) rfl (fun _ => ?_) (fun q => absurd ((sm_lt (x := mm) (y := 2) (by omega) (by decide)).mpr qm) q)
        exact jn232 T3 _ (ce + 4) (sl + 32) (Bn + 1) (a1) (a2) (k + 1) _ X3 N3 (by omega) (by omega) (by omega) A3 HC3 (by omega)
      · refine b_icmp_lt B X3 (py := 232) (pn := 223) at_220 (by decide) (by decide) rfl (fun q => absurd q (fun z => qm ((sm_lt (x := mm) (y := 2) (by omega) (by decide)).mp z))) (fun _ => ?_)
        refine s_aload B X3 (pc' := 225) at_223 rfl rfl rfl ?_
        refine s_iload B X3 (pc' := 227) at_225 rfl rfl ?_
        refine s_iloadN B X3 (pc' := 228) at_227 rfl rfl ?_
        refine c_virtual B X3 (y := mn6) (pc' := 231) (argsL := [(.int (Int32.ofNat v)), (.int (Int32.ofNat u))]) (under := []) (W := 0) rfl (tw26 hw) (tw27 hw) (tw29 hw) (tw28 hw) (tw30 hw) (tw3 hw) (by decide) (rm_addEdge l Z a0 hw o1 w_NO_UNITS 0 (fun _ => 0) 4 (Bn + 1) _ v u _ A3 (by decide) hv4 hu4 hvu (by omega)) A3.exa (lenOf pd_5 rfl) rfl rfl (by decide) (by decide) (show ce + 4 + 4 ≤ 32 by omega) (show sl + 32 + 32 ≤ 192 by omega) rfl at_228 rfl (fun v81 T81 L81 X81 hQ81 => ?_)
        obtain ⟨⟨x81, rfl⟩, Nq81, A81⟩ := hQ81
        have N81 := Fr.app N3 Nq81
        have HC81 := HC3.add3f hvu
        show Go p e below _ (T81.setTop (mkF m 231 #[.val (.int i0), .val (.int i1), .val (.int i2), .val (.int (Int32.ofNat u)), .val (.int (Int32.ofNat kq)), .val (.int (Int32.ofNat v)), .val (.int (Int32.ofNat w1)), .val (.int (Int32.ofNat w2)), .val (.int (Int32.ofNat f8)), .val (.int (Int32.ofNat f9)), .val (.int (Int32.ofNat t1)), .val (.int (Int32.ofNat f11)), .val (.int (Int32.ofNat f12)), .val (.int (Int32.ofNat t2)), .val (.int (Int32.ofNat f14)), .val (.int (Int32.ofNat mm)), .val (.ref o1), .unset, .unset, .unset, .unset, .unset] [(.int x81)]))
        refine s_pop B X81 (pc' := 232) at_231 rfl rfl ?_
        exact jn232 T81 _ (ce + 4 + 4) (sl + 32 + 32) (Bn + 1 + 1) (a1) (a2) (k + 1 + 1) _ X81 N81 (by omega) (by omega) (by omega) A81 HC81 (by omega)
    refine s_iload B Xj188 (pc' := 190) at_188 rfl rfl ?_
    rcases (by omega : f11 = 0 ∨ f11 = 1) with qf11 | qf11
    · refine b_if_eq B Xj188 (py := 208) (pn := 193) at_190 (by decide) (by decide) rfl (fun _ => ?_) (fun q => absurd (congrArg Int32.ofNat qf11) q)
      exact jn208 Tj188 _ (ce) (sl) (Bn) (a1) (a2) (k) _ Xj188 Nj188 (by omega) (by omega) (by omega) Aj188 HC (by omega)
    · refine b_if_eq B Xj188 (py := 208) (pn := 193) at_190 (by decide) (by decide) rfl (fun q => absurd q (fun z => by have := (sm_eq0 (x := f11) (by omega)).mp z; omega)) (fun _ => ?_)
      refine s_iload B Xj188 (pc' := 195) at_193 rfl rfl ?_
      rcases (by omega : f12 = 0 ∨ f12 = 1) with qf12 | qf12
      · refine b_if_eq B Xj188 (py := 208) (pn := 198) at_195 (by decide) (by decide) rfl (fun _ => ?_) (fun q => absurd (congrArg Int32.ofNat qf12) q)
        exact jn208 Tj188 _ (ce) (sl) (Bn) (a1) (a2) (k) _ Xj188 Nj188 (by omega) (by omega) (by omega) Aj188 HC (by omega)
      · refine b_if_eq B Xj188 (py := 208) (pn := 198) at_195 (by decide) (by decide) rfl (fun q => absurd q (fun z => by have := (sm_eq0 (x := f12) (by omega)).mp z; omega)) (fun _ => ?_)
        refine s_aload B Xj188 (pc' := 200) at_198 rfl rfl rfl ?_
        refine s_iload B Xj188 (pc' := 202) at_200 rfl rfl ?_
        refine s_iload B Xj188 (pc' := 204) at_202 rfl rfl ?_
        refine c_virtual B Xj188 (y := mn6) (pc' := 207) (argsL := [(.int (Int32.ofNat t2)), (.int (Int32.ofNat v))]) (under := []) (W := 0) rfl (tw26 hw) (tw27 hw) (tw29 hw) (tw28 hw) (tw30 hw) (tw3 hw) (by decide) (rm_addEdge l Z a0 hw o1 w_NO_UNITS 0 (fun _ => 0) 4 (Bn) _ t2 v _ Aj188 (by decide) t24 hv4 t2v (by omega)) Aj188.exa (lenOf pd_5 rfl) rfl rfl (by decide) (by decide) (show ce + 4 ≤ 32 by omega) (show sl + 32 ≤ 192 by omega) rfl at_204 rfl (fun v82 T82 L82 X82 hQ82 => ?_)
        obtain ⟨⟨x82, rfl⟩, Nq82, A82⟩ := hQ82
        have N82 := Fr.app Nj188 Nq82
        have HC82 := HC.add2f t2v
        show Go p e below _ (T82.setTop (mkF m 207 #[.val (.int i0), .val (.int i1), .val (.int i2), .val (.int (Int32.ofNat u)), .val (.int (Int32.ofNat kq)), .val (.int (Int32.ofNat v)), .val (.int (Int32.ofNat w1)), .val (.int (Int32.ofNat w2)), .val (.int (Int32.ofNat f8)), .val (.int (Int32.ofNat f9)), .val (.int (Int32.ofNat t1)), .val (.int (Int32.ofNat f11)), .val (.int (Int32.ofNat f12)), .val (.int (Int32.ofNat t2)), .val (.int (Int32.ofNat f14)), .val (.int (Int32.ofNat mm)), .val (.ref o1), .unset, .unset, .unset, .unset, .unset] [(.int x82)]))
        refine s_pop B X82 (pc' := 208) at_207 rfl rfl ?_
        exact jn208 T82 _ (ce + 4) (sl + 32) (Bn + 1) (a1) (a2 + 1) (k) _ X82 N82 (by omega) (by omega) (by omega) A82 HC82 (by omega)
  refine s_iload B X2 (pc' := 171) at_169 rfl rfl ?_
  rcases (by omega : f8 = 0 ∨ f8 = 1) with qf8 | qf8
  · refine b_if_eq B X2 (py := 188) (pn := 174) at_171 (by decide) (by decide) rfl (fun _ => ?_) (fun q => absurd (congrArg Int32.ofNat qf8) q)
    exact jn188 T2 _ (4) (15) (0) (0) (0) (0) _ X2 N2 (by omega) (by omega) (by omega) A2 HC (by omega)
  · refine b_if_eq B X2 (py := 188) (pn := 174) at_171 (by decide) (by decide) rfl (fun q => absurd q (fun z => by have := (sm_eq0 (x := f8) (by omega)).mp z; omega)) (fun _ => ?_)
    refine s_iload B X2 (pc' := 176) at_174 rfl rfl ?_
    rcases (by omega : f9 = 0 ∨ f9 = 1) with qf9 | qf9
    · refine b_if_eq B X2 (py := 188) (pn := 179) at_176 (by decide) (by decide) rfl (fun _ => ?_) (fun q => absurd (congrArg Int32.ofNat qf9) q)
      exact jn188 T2 _ (4) (15) (0) (0) (0) (0) _ X2 N2 (by omega) (by omega) (by omega) A2 HC (by omega)
    · refine b_if_eq B X2 (py := 188) (pn := 179) at_176 (by decide) (by decide) rfl (fun q => absurd q (fun z => by have := (sm_eq0 (x := f9) (by omega)).mp z; omega)) (fun _ => ?_)
      refine s_aload B X2 (pc' := 181) at_179 rfl rfl rfl ?_
      refine s_iloadN B X2 (pc' := 182) at_181 rfl rfl ?_
      refine s_iload B X2 (pc' := 184) at_182 rfl rfl ?_
      refine c_virtual B X2 (y := mn6) (pc' := 187) (argsL := [(.int (Int32.ofNat u)), (.int (Int32.ofNat t1))]) (under := []) (W := 0) rfl (tw26 hw) (tw27 hw) (tw29 hw) (tw28 hw) (tw30 hw) (tw3 hw) (by decide) (rm_addEdge l Z a0 hw o1 w_NO_UNITS 0 (fun _ => 0) 4 (0) _ u t1 _ A2 (by decide) hu4 t14 ut1 (by omega)) A2.exa (lenOf pd_5 rfl) rfl rfl (by decide) (by decide) (show 4 + 4 ≤ 32 by omega) (show 15 + 32 ≤ 192 by omega) rfl at_184 rfl (fun v83 T83 L83 X83 hQ83 => ?_)
      obtain ⟨⟨x83, rfl⟩, Nq83, A83⟩ := hQ83
      have N83 := Fr.app N2 Nq83
      have HC83 := HC.add1 ut1
      show Go p e below _ (T83.setTop (mkF m 187 #[.val (.int i0), .val (.int i1), .val (.int i2), .val (.int (Int32.ofNat u)), .val (.int (Int32.ofNat kq)), .val (.int (Int32.ofNat v)), .val (.int (Int32.ofNat w1)), .val (.int (Int32.ofNat w2)), .val (.int (Int32.ofNat f8)), .val (.int (Int32.ofNat f9)), .val (.int (Int32.ofNat t1)), .val (.int (Int32.ofNat f11)), .val (.int (Int32.ofNat f12)), .val (.int (Int32.ofNat t2)), .val (.int (Int32.ofNat f14)), .val (.int (Int32.ofNat mm)), .val (.ref o1), .unset, .unset, .unset, .unset, .unset] [(.int x83)]))
      refine s_pop B X83 (pc' := 188) at_187 rfl rfl ?_
      exact jn188 T83 _ (4 + 4) (15 + 32) (0 + 1) (0 + 1) (0) (0) _ X83 N83 (by omega) (by omega) (by omega) A83 HC83 (by omega)
set_option maxRecDepth 65536 in
set_option maxHeartbeats 40000000 in
theorem comes_1 {Post : Tables → Env → Array Value → State → Outcome → State → Prop} (hpost : ∀ tb e args s v u, (limb_1_1.after args s (.returned v) u = true ∧ limb_1_2.after args s (.returned v) u = true ∧ True) → FrameEnd s (.returned v) u (Jvm.fieldLocs frame_1_writes args s ++ Jvm.arrayLocs frame_1_arrays args s ++ Jvm.staticLocs frame_1_statics s) 32 192 → Post tb e args s (.returned v) u) :
    ArmFor flags0 classFile x code maxLocals ret World_1 tables_1 room_1 Calls_1 rest_1 Pre_1 Post := by
  intro l hfl _ _ p e ha hc hk s m args below hf hA hF happ hP
  obtain ⟨hcalls, hrest, hpre⟩ := hP
  obtain ⟨-, -, -, hnamed, -, -, -, hat⟩ := (Spec.applies_iff hf).mp happ
  obtain ⟨hg, hn⟩ := and_e (Cond.before_iff.mp (show (Jvm.Cond.and given_1 narrow_1).before args s = true from hpre))
  obtain ⟨h1, hg⟩ := and_e hg
  obtain ⟨w0, w1, w2, rfl⟩ : ∃ w0 w1 w2 : Value, args = #[w0, w1, w2] := by
    have hs : args.size = 3 := by simpa [Cond.value, given_1] using h1
    obtain ⟨L⟩ := args
    match L, hs with
    | [w0, w1, w2], _ => exact ⟨w0, w1, w2, rfl⟩
  have hw := fun d (hd : d ∈ tables_1) => atoms_spec (ws := Jvm.Cond.code x code maxLocals ret :: tables_1) hat d (List.mem_cons_of_mem _ hd)
  have hfit : Fit s := fun {y c} hc i hi => by
    obtain ⟨ha, rfl⟩ := Array.getElem?_eq_some_iff.mp hc
    have q := List.all_eq_true.mp ((Array.all_eq_true_iff_forall_mem.mp hF) _ (Array.getElem_mem ha)) i (List.mem_range.mpr hi)
    simpa [Array.getElem?_eq_getElem hi] using q
  obtain ⟨hg0, hg⟩ := and_e hg
  obtain ⟨hg1, hg⟩ := and_e hg
  have hg2 := hg
  obtain ⟨i0, ei0⟩ := is_v hg0
  obtain rfl : w0 = (.int i0) := Option.some.inj ei0
  obtain ⟨i1, ei1⟩ := is_v hg1
  obtain rfl : w1 = (.int i1) := Option.some.inj ei1
  obtain ⟨i2, ei2⟩ := is_v hg2
  obtain rfl : w2 = (.int i2) := Option.some.inj ei2
  obtain ⟨hn0, hn⟩ := and_e hn
  obtain ⟨hn1, hn⟩ := and_e hn
  have hn2 := hn
  obtain ⟨w_NO_UNITS, v_NO_UNITS⟩ := exa_v hn1
  have S_NO_UNITS := Sta.start v_NO_UNITS (Or.inr ⟨(tw3 hw), (tw17 hw)⟩)
  have E_NO_UNITS := Exa.start v_NO_UNITS hn1
  obtain ⟨cV, AV⟩ := Arr.start v_NO_UNITS hn0
  obtain ⟨zV, -⟩ := tab_len (n := 0) v_NO_UNITS AV hn2 (by decide)
  have II : IN s s.heap w_NO_UNITS 0 (fun _ => 0) := ⟨cV.cls, cV, AV, rfl, zV, by decide, fun i hi => absurd hi (Nat.not_lt_zero i)⟩
  obtain ⟨n, o, h1, h2, h3, _, L, rfl, ⟨rfl, N⟩, hq⟩ := rm_law l s _ hw i0 i1 i2 w_NO_UNITS ⟨S_NO_UNITS, E_NO_UNITS⟩ II p e ha hc hk s m _ below hf ((Spec.applies_iff_loose hf).mp happ).1 ⟨rfl, State.Warmed39.refl s, rfl⟩ trivial
  refine ⟨n, _, h1, h2, h3, hpost _ _ _ _ _ _ ⟨Cond.after_iff.mpr rfl, Cond.after_iff.mpr (eq_i res_at (Term.int_eval (1)) rfl), trivial⟩ ⟨hq.1, hq.2.1, (hq.2.2.sift fun y hy => Or.inr (N y hy)).mono (by decide) (by decide)⟩⟩
theorem main_1_1 : Claimed_1_1 := comes_1 fun _ _ _ _ _ _ h hF => ⟨h.1, hF⟩
theorem main_1_2 : Claimed_1_2 := comes_1 fun _ _ _ _ _ _ h hF => ⟨h.2.1, hF⟩
end Jvm.Pilot.@@N@@
namespace Jvm.Pilot.@@N@@
open Jvm Jvm.ClassFile Sem Op Lib Jvm.Free Jvm.Stand Jvm.Pilot.@@N@@.Jvm.D
/-! MADE BY PROGRAM (witnessworld.py) out of the Statement's table words and the real class files: 13 classes; the members and pool entries that the words name. The judged class is class 1, her method 1. -/
namespace start1
open Jvm.ClassFile
def u (s : String) : CpInfo := .utf8 (stringToUtf16 s)
/-- a pool by its gaps: so many unusable entries, then the entry; so many at the end -/
def gap : Nat → List CpInfo → List CpInfo
  | 0, r => r
  | n + 1, r => .unusable :: gap n r
def poolList (es : List (Nat × CpInfo)) (last : Nat) : List CpInfo := es.foldr (fun e r => gap e.1 (e.2 :: r)) (gap last [])
def pool (es : List (Nat × CpInfo)) (last : Nat) : Array CpInfo := ⟨poolList es last⟩
def fileOf (pool : Array CpInfo) (this : Nat) (attrs : Array Attribute := #[]) (ms : Array MethodInfo := #[]) (fl : Nat := 33) (sup : Nat := 0) (ifs : Array Nat := #[]) (fds : Array FieldInfo := #[]) : ClassFile where
  minorVersion := 0
  majorVersion := 65
  constantPool := pool
  accessFlags := fl
  thisClass := this
  superClass := sup
  interfaces := ifs
  fields := fds
  methods := ms
  attributes := attrs
def plain (name : String) (sup : Option ClassId) : Class where
  name := name
  kind := .ordinary
  loader := none
  accessFlags := 33
  super := sup
  interfaces := #[]
  cf := none
  fields := #[]
  methods := #[]
  instanceTypes := #[]
  staticTypes := #[]
  resolved := #[]
  callSites := []
  init := .initialized
  statics := none
  mirror := none

def pool0 : Array CpInfo := pool [(5, u "<init>"), (0, u "()V"), (1, .class_ 10), (1, u "java/lang/Object")] 113

def k0c0 : Code := { maxStack := 0, maxLocals := 1, code := object_method_1_code, exceptionTable := #[], attributes := #[] }
def k0m0 : Method := { name := "<init>", desc := "()V", sig := { parameters := [], returnType := none }, accessFlags := 1, code := some k0c0 }
/-- java/lang/Object -/
def k0 : Class := { plain "java/lang/Object" none with
  accessFlags := 33
  interfaces := #[]
  cf := some (fileOf pool0 8 #[] #[{ accessFlags := 1, nameIndex := 5, descriptorIndex := 6, attributes := #[] }] 33 0 #[] #[])
  fields := #[]
  methods := #[k0m0]
  instanceTypes := #[]
  staticTypes := #[]
  resolved := Array.replicate 124 none
  statics := none }

def pool1 : Array CpInfo := pool [(2, .class_ 4), (1, u "java/lang/Object"), (0, u "<init>"), (0, u "()V"), (0, .integer 2147483647), (0, .class_ 9), (0, u "unitloom/engine/Links"), (0, .methodref 8 11), (0, .nameAndType 5 12), (0, u "(I)V"), (0, .methodref 8 14), (0, .nameAndType 15 16), (0, u "addEdge"), (0, u "(II)Z"), (0, .methodref 8 18), (0, .nameAndType 19 16), (0, u "removeEdge"), (0, .methodref 8 21), (0, .nameAndType 22 23), (0, u "edges"), (0, u "(II)I"), (0, .methodref 8 25), (0, .nameAndType 26 27), (0, u "count"), (0, u "(I)I"), (0, .class_ 29), (0, u "unitloom/engine/LinksRemoveEdgePinLaw"), (2, u "law"), (0, u "(III)Z")] 3

def k1m0 : Method := { name := "<init>", desc := "()V", sig := { parameters := [], returnType := none }, accessFlags := 1, code := none }
def k1c1 : Code := { maxStack := 3, maxLocals := 22, code := code, exceptionTable := #[], attributes := #[] }
def k1m1 : Method := { name := "law", desc := "(III)Z", sig := { parameters := [.int, .int, .int], returnType := some .boolean }, accessFlags := 9, code := some k1c1 }
/-- unitloom/engine/LinksRemoveEdgePinLaw -/
def k1 : Class := { plain "unitloom/engine/LinksRemoveEdgePinLaw" (some 0) with
  accessFlags := 49
  interfaces := #[]
  cf := some (fileOf pool1 28 #[] #[{ accessFlags := 1, nameIndex := 5, descriptorIndex := 6, attributes := #[] }, { accessFlags := 9, nameIndex := 32, descriptorIndex := 33, attributes := #[] }] 49 2 #[] #[])
  fields := #[]
  methods := #[k1m0, k1m1]
  instanceTypes := #[]
  staticTypes := #[]
  resolved := Array.replicate 37 none
  statics := none }

def pool2 : Array CpInfo := pool [(1, .methodref 2 3), (0, .class_ 4), (0, .nameAndType 5 6), (0, u "java/lang/Object"), (0, u "<init>"), (0, u "()V"), (0, .class_ 8), (0, u "[I"), (0, .fieldref 10 11), (0, .class_ 12), (0, .nameAndType 13 14), (0, u "unitloom/engine/Links"), (0, u "partners"), (0, u "[[I"), (0, .fieldref 10 16), (0, .nameAndType 17 14), (0, u "edges"), (0, .fieldref 10 19), (0, .nameAndType 20 8), (0, u "NO_UNITS"), (0, .methodref 22 23), (0, .class_ 24), (0, .nameAndType 25 26), (0, u "java/util/Arrays"), (0, u "fill"), (0, u "([Ljava/lang/Object;Ljava/lang/Object;)V"), (0, .fieldref 10 28), (0, .nameAndType 29 8), (0, u "partnerCount"), (0, .methodref 10 31), (0, .nameAndType 32 33), (0, u "index"), (0, u "(II)I"), (0, .methodref 10 35), (0, .nameAndType 36 37), (0, u "addOneWay"), (0, u "(III)Z"), (0, .methodref 10 39), (0, .nameAndType 40 37), (0, u "removeOneWay"), (3, .methodref 45 46), (0, .class_ 47), (0, .nameAndType 48 33), (0, u "java/lang/Math"), (0, u "max"), (0, .methodref 22 50), (0, .nameAndType 51 52), (0, u "copyOf"), (0, u "([II)[I"), (0, u "(I)V"), (2, u "count"), (0, u "(I)I"), (2, u "(II)Z"), (1, u "addEdge"), (0, u "removeEdge")] 6

def k2c0 : Code := { maxStack := 2, maxLocals := 2, code := prog_8_method_1_code, exceptionTable := #[], attributes := #[] }
def k2m0 : Method := { name := "<init>", desc := "(I)V", sig := { parameters := [.int], returnType := none }, accessFlags := 0, code := some k2c0 }
def k2c1 : Code := { maxStack := 2, maxLocals := 2, code := prog_8_method_2_code, exceptionTable := #[], attributes := #[] }
def k2m1 : Method := { name := "count", desc := "(I)I", sig := { parameters := [.int], returnType := some .int }, accessFlags := 0, code := some k2c1 }
def k2c2 : Code := { maxStack := 3, maxLocals := 4, code := prog_8_method_5_code, exceptionTable := #[], attributes := #[] }
def k2m2 : Method := { name := "edges", desc := "(II)I", sig := { parameters := [.int, .int], returnType := some .int }, accessFlags := 0, code := some k2c2 }
def k2c3 : Code := { maxStack := 4, maxLocals := 3, code := prog_8_method_6_code, exceptionTable := #[], attributes := #[] }
def k2m3 : Method := { name := "addEdge", desc := "(II)Z", sig := { parameters := [.int, .int], returnType := some .boolean }, accessFlags := 0, code := some k2c3 }
def k2c4 : Code := { maxStack := 4, maxLocals := 3, code := prog_8_method_7_code, exceptionTable := #[], attributes := #[] }
def k2m4 : Method := { name := "removeEdge", desc := "(II)Z", sig := { parameters := [.int, .int], returnType := some .boolean }, accessFlags := 0, code := some k2c4 }
def k2c5 : Code := { maxStack := 3, maxLocals := 5, code := prog_8_method_10_code, exceptionTable := #[], attributes := #[] }
def k2m5 : Method := { name := "index", desc := "(II)I", sig := { parameters := [.int, .int], returnType := some .int }, accessFlags := 2, code := some k2c5 }
def k2c6 : Code := { maxStack := 6, maxLocals := 6, code := prog_8_method_11_code, exceptionTable := #[], attributes := #[] }
def k2m6 : Method := { name := "addOneWay", desc := "(III)Z", sig := { parameters := [.int, .int, .int], returnType := some .boolean }, accessFlags := 2, code := some k2c6 }
def k2c7 : Code := { maxStack := 4, maxLocals := 7, code := prog_8_method_12_code, exceptionTable := #[], attributes := #[] }
def k2m7 : Method := { name := "removeOneWay", desc := "(III)Z", sig := { parameters := [.int, .int, .int], returnType := some .boolean }, accessFlags := 2, code := some k2c7 }
/-- unitloom/engine/Links -/
def k2 : Class := { plain "unitloom/engine/Links" (some 0) with
  accessFlags := 48
  interfaces := #[]
  cf := some (fileOf pool2 10 #[] #[{ accessFlags := 0, nameIndex := 5, descriptorIndex := 53, attributes := #[] }, { accessFlags := 0, nameIndex := 56, descriptorIndex := 57, attributes := #[] }, { accessFlags := 0, nameIndex := 17, descriptorIndex := 33, attributes := #[] }, { accessFlags := 0, nameIndex := 62, descriptorIndex := 60, attributes := #[] }, { accessFlags := 0, nameIndex := 63, descriptorIndex := 60, attributes := #[] }, { accessFlags := 2, nameIndex := 32, descriptorIndex := 33, attributes := #[] }, { accessFlags := 2, nameIndex := 36, descriptorIndex := 37, attributes := #[] }, { accessFlags := 2, nameIndex := 40, descriptorIndex := 37, attributes := #[] }] 48 2 #[] #[{ accessFlags := 26, nameIndex := 20, descriptorIndex := 8, attributes := #[] }, { accessFlags := 18, nameIndex := 13, descriptorIndex := 14, attributes := #[] }, { accessFlags := 18, nameIndex := 17, descriptorIndex := 14, attributes := #[] }, { accessFlags := 18, nameIndex := 29, descriptorIndex := 8, attributes := #[] }])
  fields := #[{ name := "NO_UNITS", type := (.array .int), accessFlags := 26, slot := 0, constantValue := 0 }, { name := "partners", type := (.array (.array .int)), accessFlags := 18, slot := 0, constantValue := 0 }, { name := "edges", type := (.array (.array .int)), accessFlags := 18, slot := 1, constantValue := 0 }, { name := "partnerCount", type := (.array .int), accessFlags := 18, slot := 2, constantValue := 0 }]
  methods := #[k2m0, k2m1, k2m2, k2m3, k2m4, k2m5, k2m6, k2m7]
  instanceTypes := #[(.array (.array .int)), (.array (.array .int)), (.array .int)]
  staticTypes := #[(.array .int)]
  resolved := Array.replicate 70 none
  statics := some 0 }

def pool3 : Array CpInfo := pool [(2, .class_ 4), (1, u "java/lang/Object"), (0, u "<init>"), (0, u "()V"), (7, .class_ 16), (1, u "java/util/Arrays"), (57, .class_ 76), (1, u "java/util/Arrays$NaturalOrder"), (36, .class_ 115), (1, u "java/util/Arrays$LegacyMergeSort"), (1, u "Z"), (32, .methodref 151 152), (0, .class_ 153), (0, .nameAndType 154 155), (0, u "java/lang/System"), (0, u "arraycopy"), (0, u "(Ljava/lang/Object;ILjava/lang/Object;II)V"), (146, u "copyOf"), (1, .methodref 305 306), (0, .class_ 307), (0, .nameAndType 308 309), (0, u "java/lang/Math"), (0, u "min"), (0, u "(II)I"), (65, .class_ 376), (0, u "java/util/Arrays$ArrayList"), (68, u "$assertionsDisabled"), (269, u "MIN_ARRAY_SORT_GRAN"), (0, u "I"), (2, u "INSERTIONSORT_THRESHOLD"), (120, u "fill"), (17, u "([Ljava/lang/Object;Ljava/lang/Object;)V"), (12, u "([II)[I"), (103, .class_ 976), (0, u "java/util/Arrays$ArrayItr")] 52

def k3m0 : Method := { name := "<init>", desc := "()V", sig := { parameters := [], returnType := none }, accessFlags := 2, code := none }
def k3c1 : Code := { maxStack := 3, maxLocals := 4, code := jdk_65_method_117_code, exceptionTable := #[], attributes := #[] }
def k3m1 : Method := { name := "fill", desc := "([Ljava/lang/Object;Ljava/lang/Object;)V", sig := { parameters := [(.array (.object "java/lang/Object")), (.object "java/lang/Object")], returnType := none }, accessFlags := 9, code := some k3c1 }
def k3c2 : Code := { maxStack := 6, maxLocals := 3, code := jdk_65_method_123_code, exceptionTable := #[], attributes := #[] }
def k3m2 : Method := { name := "copyOf", desc := "([II)[I", sig := { parameters := [(.array .int), .int], returnType := some (.array .int) }, accessFlags := 9, code := some k3c2 }
/-- java/util/Arrays -/
def k3 : Class := { plain "java/util/Arrays" (some 0) with
  accessFlags := 49
  interfaces := #[]
  cf := some (fileOf pool3 14 #[.nestMembers #[975, 375, 113, 74]] #[{ accessFlags := 2, nameIndex := 5, descriptorIndex := 6, attributes := #[] }, { accessFlags := 9, nameIndex := 840, descriptorIndex := 858, attributes := #[] }, { accessFlags := 9, nameIndex := 302, descriptorIndex := 871, attributes := #[] }] 49 2 #[] #[{ accessFlags := 26, nameIndex := 715, descriptorIndex := 716, attributes := #[] }, { accessFlags := 26, nameIndex := 719, descriptorIndex := 716, attributes := #[] }, { accessFlags := 4120, nameIndex := 445, descriptorIndex := 117, attributes := #[] }])
  fields := #[{ name := "MIN_ARRAY_SORT_GRAN", type := .int, accessFlags := 26, slot := 0, constantValue := 0 }, { name := "INSERTIONSORT_THRESHOLD", type := .int, accessFlags := 26, slot := 1, constantValue := 0 }, { name := "$assertionsDisabled", type := .boolean, accessFlags := 4120, slot := 2, constantValue := 0 }]
  methods := #[k3m0, k3m1, k3m2]
  instanceTypes := #[]
  staticTypes := #[.int, .int, .boolean]
  resolved := Array.replicate 1029 none
  statics := none }

def pool4 : Array CpInfo := pool [(1, .class_ 2), (0, u "java/lang/Math"), (1, .class_ 6), (1, u "java/lang/Object"), (0, u "<init>"), (0, u "()V"), (89, .class_ 100), (1, u "java/lang/Math$RandomNumberGeneratorHolder"), (71, u "negativeZeroFloatBits"), (0, u "J"), (2, u "negativeZeroDoubleBits"), (21, u "max"), (2, u "min"), (43, u "$assertionsDisabled"), (0, u "Z"), (88, u "(II)I"), (2, u "twoToTheDoubleScaleDown"), (0, u "D"), (4, u "twoToTheDoubleScaleUp"), (9, u "E"), (3, u "PI"), (2, u "TAU"), (2, u "DEGREES_TO_RADIANS"), (0, u "RADIANS_TO_DEGREES")] 94

def k4m0 : Method := { name := "<init>", desc := "()V", sig := { parameters := [], returnType := none }, accessFlags := 2, code := none }
def k4c1 : Code := { maxStack := 2, maxLocals := 2, code := jdk_29_method_65_code, exceptionTable := #[], attributes := #[] }
def k4m1 : Method := { name := "max", desc := "(II)I", sig := { parameters := [.int, .int], returnType := some .int }, accessFlags := 9, code := some k4c1 }
def k4c2 : Code := { maxStack := 2, maxLocals := 2, code := jdk_29_method_69_code, exceptionTable := #[], attributes := #[] }
def k4m2 : Method := { name := "min", desc := "(II)I", sig := { parameters := [.int, .int], returnType := some .int }, accessFlags := 9, code := some k4c2 }
/-- java/lang/Math -/
def k4 : Class := { plain "java/lang/Math" (some 0) with
  accessFlags := 49
  interfaces := #[]
  cf := some (fileOf pool4 1 #[.nestMembers #[98]] #[{ accessFlags := 2, nameIndex := 7, descriptorIndex := 8, attributes := #[] }, { accessFlags := 9, nameIndex := 198, descriptorIndex := 335, attributes := #[] }, { accessFlags := 9, nameIndex := 201, descriptorIndex := 335, attributes := #[] }] 49 4 #[] #[{ accessFlags := 25, nameIndex := 354, descriptorIndex := 339, attributes := #[] }, { accessFlags := 25, nameIndex := 358, descriptorIndex := 339, attributes := #[] }, { accessFlags := 25, nameIndex := 361, descriptorIndex := 339, attributes := #[] }, { accessFlags := 26, nameIndex := 364, descriptorIndex := 339, attributes := #[] }, { accessFlags := 26, nameIndex := 365, descriptorIndex := 339, attributes := #[] }, { accessFlags := 26, nameIndex := 172, descriptorIndex := 173, attributes := #[] }, { accessFlags := 26, nameIndex := 176, descriptorIndex := 173, attributes := #[] }, { accessFlags := 8, nameIndex := 344, descriptorIndex := 339, attributes := #[] }, { accessFlags := 8, nameIndex := 338, descriptorIndex := 339, attributes := #[] }, { accessFlags := 4120, nameIndex := 245, descriptorIndex := 246, attributes := #[] }])
  fields := #[{ name := "E", type := .double, accessFlags := 25, slot := 0, constantValue := 0 }, { name := "PI", type := .double, accessFlags := 25, slot := 1, constantValue := 0 }, { name := "TAU", type := .double, accessFlags := 25, slot := 2, constantValue := 0 }, { name := "DEGREES_TO_RADIANS", type := .double, accessFlags := 26, slot := 3, constantValue := 0 }, { name := "RADIANS_TO_DEGREES", type := .double, accessFlags := 26, slot := 4, constantValue := 0 }, { name := "negativeZeroFloatBits", type := .long, accessFlags := 26, slot := 5, constantValue := 0 }, { name := "negativeZeroDoubleBits", type := .long, accessFlags := 26, slot := 6, constantValue := 0 }, { name := "twoToTheDoubleScaleUp", type := .double, accessFlags := 8, slot := 7, constantValue := 0 }, { name := "twoToTheDoubleScaleDown", type := .double, accessFlags := 8, slot := 8, constantValue := 0 }, { name := "$assertionsDisabled", type := .boolean, accessFlags := 4120, slot := 9, constantValue := 0 }]
  methods := #[k4m0, k4m1, k4m2]
  instanceTypes := #[]
  staticTypes := #[.double, .double, .double, .double, .double, .long, .long, .double, .double, .boolean]
  resolved := Array.replicate 460 none
  statics := none }

def pool5 : Array CpInfo := pool [(2, .class_ 4), (1, u "java/lang/Object"), (0, u "<init>"), (0, u "()V"), (1, .class_ 10), (1, u "java/lang/System"), (0, u "allowSecurityManager"), (0, u "I"), (16, u "cons"), (0, u "Ljava/io/Console;"), (77, .class_ 110), (1, u "java/lang/System$CallersHolder"), (43, u "initialErrStream"), (0, u "Ljava/io/PrintStream;"), (19, u "security"), (0, u "Ljava/lang/SecurityManager;"), (31, .class_ 209), (0, u "java/lang/System$1"), (7, u "props"), (0, u "Ljava/util/Properties;"), (2, u "lineSeparator"), (0, u "Ljava/lang/String;"), (96, .class_ 321), (1, u "java/lang/System$LoggerFinder"), (5, .class_ 328), (0, u "java/lang/System$Logger"), (67, u "err"), (2, u "out"), (91, u "notSupportedJnuEncoding"), (15, u "in"), (17, u "initialIn"), (0, u "Ljava/io/InputStream;"), (35, u "bootLayer"), (0, u "Ljava/lang/ModuleLayer;"), (99, .class_ 664), (0, u "java/lang/System$2"), (9, u "NEVER"), (2, u "MAYBE"), (49, u "arraycopy"), (0, u "(Ljava/lang/Object;ILjava/lang/Object;II)V"), (72, .class_ 802), (0, u "java/lang/System$Logger$Level")] 31

def k5m0 : Method := { name := "<init>", desc := "()V", sig := { parameters := [], returnType := none }, accessFlags := 2, code := none }
def k5m1 : Method := { name := "arraycopy", desc := "(Ljava/lang/Object;ILjava/lang/Object;II)V", sig := { parameters := [(.object "java/lang/Object"), .int, (.object "java/lang/Object"), .int, .int], returnType := none }, accessFlags := 265, code := none }
/-- java/lang/System -/
def k5 : Class := { plain "java/lang/System" (some 0) with
  accessFlags := 49
  interfaces := #[]
  cf := some (fileOf pool5 8 #[.nestMembers #[319, 327, 801, 108, 663, 208]] #[{ accessFlags := 2, nameIndex := 5, descriptorIndex := 6, attributes := #[] }, { accessFlags := 265, nameIndex := 727, descriptorIndex := 728, attributes := #[] }] 49 2 #[] #[{ accessFlags := 25, nameIndex := 507, descriptorIndex := 526, attributes := #[] }, { accessFlags := 25, nameIndex := 399, descriptorIndex := 155, attributes := #[] }, { accessFlags := 25, nameIndex := 396, descriptorIndex := 155, attributes := #[] }, { accessFlags := 10, nameIndex := 525, descriptorIndex := 526, attributes := #[] }, { accessFlags := 26, nameIndex := 674, descriptorIndex := 12, attributes := #[] }, { accessFlags := 26, nameIndex := 677, descriptorIndex := 12, attributes := #[] }, { accessFlags := 10, nameIndex := 11, descriptorIndex := 12, attributes := #[] }, { accessFlags := 74, nameIndex := 175, descriptorIndex := 176, attributes := #[] }, { accessFlags := 10, nameIndex := 491, descriptorIndex := 222, attributes := #[] }, { accessFlags := 74, nameIndex := 29, descriptorIndex := 30, attributes := #[] }, { accessFlags := 74, nameIndex := 154, descriptorIndex := 155, attributes := #[] }, { accessFlags := 10, nameIndex := 217, descriptorIndex := 218, attributes := #[] }, { accessFlags := 10, nameIndex := 221, descriptorIndex := 222, attributes := #[] }, { accessFlags := 8, nameIndex := 562, descriptorIndex := 563, attributes := #[] }])
  fields := #[{ name := "in", type := (.object "java/io/InputStream"), accessFlags := 25, slot := 0, constantValue := 0 }, { name := "out", type := (.object "java/io/PrintStream"), accessFlags := 25, slot := 1, constantValue := 0 }, { name := "err", type := (.object "java/io/PrintStream"), accessFlags := 25, slot := 2, constantValue := 0 }, { name := "initialIn", type := (.object "java/io/InputStream"), accessFlags := 10, slot := 3, constantValue := 0 }, { name := "NEVER", type := .int, accessFlags := 26, slot := 4, constantValue := 0 }, { name := "MAYBE", type := .int, accessFlags := 26, slot := 5, constantValue := 0 }, { name := "allowSecurityManager", type := .int, accessFlags := 10, slot := 6, constantValue := 0 }, { name := "security", type := (.object "java/lang/SecurityManager"), accessFlags := 74, slot := 7, constantValue := 0 }, { name := "notSupportedJnuEncoding", type := (.object "java/lang/String"), accessFlags := 10, slot := 8, constantValue := 0 }, { name := "cons", type := (.object "java/io/Console"), accessFlags := 74, slot := 9, constantValue := 0 }, { name := "initialErrStream", type := (.object "java/io/PrintStream"), accessFlags := 74, slot := 10, constantValue := 0 }, { name := "props", type := (.object "java/util/Properties"), accessFlags := 10, slot := 11, constantValue := 0 }, { name := "lineSeparator", type := (.object "java/lang/String"), accessFlags := 10, slot := 12, constantValue := 0 }, { name := "bootLayer", type := (.object "java/lang/ModuleLayer"), accessFlags := 8, slot := 13, constantValue := 0 }]
  methods := #[k5m0, k5m1]
  instanceTypes := #[]
  staticTypes := #[(.object "java/io/InputStream"), (.object "java/io/PrintStream"), (.object "java/io/PrintStream"), (.object "java/io/InputStream"), .int, .int, .int, (.object "java/lang/SecurityManager"), (.object "java/lang/String"), (.object "java/io/Console"), (.object "java/io/PrintStream"), (.object "java/util/Properties"), (.object "java/lang/String"), (.object "java/lang/ModuleLayer")]
  resolved := Array.replicate 834 none
  statics := none }

def pool6 : Array CpInfo := pool [(1, u "java/lang/Cloneable"), (0, .class_ 1), (0, u "java/lang/Object"), (0, .class_ 3)] 3

/-- java/lang/Cloneable -/
def k6 : Class := { plain "java/lang/Cloneable" (some 0) with
  accessFlags := 1537
  interfaces := #[]
  cf := some (fileOf pool6 2 #[] #[] 1537 4 #[] #[])
  fields := #[]
  methods := #[]
  instanceTypes := #[]
  staticTypes := #[]
  resolved := Array.replicate 8 none
  statics := none }

def pool7 : Array CpInfo := pool [(1, u "java/io/Serializable"), (0, .class_ 1), (0, u "java/lang/Object"), (0, .class_ 3)] 3

/-- java/io/Serializable -/
def k7 : Class := { plain "java/io/Serializable" (some 0) with
  accessFlags := 1537
  interfaces := #[]
  cf := some (fileOf pool7 2 #[] #[] 1537 4 #[] #[])
  fields := #[]
  methods := #[]
  instanceTypes := #[]
  staticTypes := #[]
  resolved := Array.replicate 8 none
  statics := none }

/-- the primitive byte -/
def k8 : Class := { plain "byte" none with kind := .primitive 'B', accessFlags := 0x411 }
/-- [B -/
def k9 : Class := { plain "[B" (some 0) with kind := .array 8 .byte, interfaces := #[6, 7], accessFlags := 1041 }

/-- the primitive int -/
def k10 : Class := { plain "int" none with kind := .primitive 'I', accessFlags := 0x411 }
/-- [I -/
def k11 : Class := { plain "[I" (some 0) with kind := .array 10 .int, interfaces := #[6, 7], accessFlags := 1041 }

/-- [L[I; -/
def k12 : Class := { plain "[[I" (some 0) with kind := .array 11 (.array .int), interfaces := #[6, 7], accessFlags := 1041 }

def heap : Heap := #[{ cls := 2, slots := #[.ref 2], vm := .statics 2 },
  { cls := 12, slots := #[.null], vm := .none },
  { cls := 11, slots := #[], vm := .none }]
def classes : Array Class := #[k0, k1, k2, k3, k4, k5, k6, k7, k8, k9, k10, k11, k12]
def interned : List (Array UInt16 × Addr) := []
def slotsUsed : Nat := 2
def theMethod : MethodId := ⟨1, 1⟩
def args0 : Array Value := #[.int 5, .int 6, .int 7]
def aboutOver (below : List Frame) : State where
  vm := { classes := classes, interned := interned.toArray }
  heap := heap
  slotsUsed := slotsUsed
  threads := #[{ frames := .invoking theMethod args0 :: below }]
def below0 : List Frame := [.native { method := ⟨0, 0⟩, args := #[] }]
def about1 : State := aboutOver below0
def p0 : Program := .bare "" "" ""
def e0 : Env := launch0.env 0 0 0
theorem w_frames : about1.frames = Frame.invoking theMethod args0 :: below0 := rfl
set_option maxRecDepth 65536 in
theorem w_args : argsFit about1.vm theMethod args0 = true := by decide +kernel
set_option maxRecDepth 65536 in
theorem w_heap : heapFits about1 = true := by decide +kernel
set_option maxRecDepth 65536 in
theorem w_runnable : about1.curStatus? = some .runnable := by decide +kernel
set_option maxRecDepth 65536 in
theorem w_alone : about1.alone = true := by decide +kernel
set_option maxRecDepth 65536 in
theorem w_named : about1.methodNamed? x = some theMethod := by decide +kernel
set_option maxRecDepth 65536 in
theorem w_hears : about1.hears theMethod below0 = true := by decide +kernel
set_option maxRecDepth 65536 in
theorem w_ripe : about1.ripe theMethod args0 below0 = true := by decide +kernel
theorem w_running : about1.status = .running := rfl
set_option maxRecDepth 65536 in
theorem w_room : about1.hasRoom e0.platform room_1 = true :=
  launch0.hasRoom_least _ room_1 (by decide +kernel) (by decide +kernel) (by decide +kernel) (by decide +kernel) (by decide +kernel) (by decide +kernel)
theorem allAtoms_all (ts : List Jvm.Cond) (a : Array Jvm.Value) (st : Jvm.State) : (allAtoms ts).before a st = ts.all (fun c => c.before a st) := by
  induction ts with
  | nil => rfl
  | cons c t ih =>
    show (Jvm.Cond.and c (allAtoms t)).before a st = _
    rw [Jvm.Cond.before_and, ih, List.all_cons]
def words1 : List Jvm.Cond := Jvm.Cond.code x code maxLocals ret :: tables_1
/-- a 'code' word, met by the world's own term for the bytes: nothing is compared byte by byte -/
theorem code_word {y : MethodName} {bytes : ByteArray} {mx : Nat} {rt : Option FieldType} {a : Array Value} {s : State} {m : MethodId} {meth : Method} {c : Code} (h1 : s.methodNamed? y = some m) (h2 : s.vm.method? m = some meth) (h3 : meth.code = some c) (h4 : c.code = bytes)
    (h5 : (c.maxLocals == mx && c.exceptionTable.isEmpty && decide (c.maxStack ≤ mostOperands) && decide (meth.sig.returnType = rt) && !meth.locks && decide (parseMethodDescriptor y.desc = some meth.sig)) = true) : (Jvm.Cond.code y bytes mx rt).before a s = true := by
  simp only [Bool.and_eq_true, beq_iff_eq, Bool.not_eq_true', decide_eq_true_eq] at h5
  obtain ⟨⟨⟨⟨⟨g1, g2⟩, g3⟩, g4⟩, g5⟩, g6⟩ := h5
  simp [Cond.before, Cond.holds, Cond.value, h1, h2, h3, h4, g1, g2, g3, g4, g5, g6]
def isCode : Jvm.Cond → Bool
  | .code _ _ _ _ => true
  | _ => false
theorem all_split {L : List Jvm.Cond} {P : Jvm.Cond → Bool} (h1 : L.all (fun c => isCode c || P c) = true) (h2 : ∀ c ∈ L.filter isCode, P c = true) : L.all P = true := by
  refine List.all_eq_true.mpr fun c hc => ?_
  have h := List.all_eq_true.mp h1 c hc
  rcases Bool.eq_false_or_eq_true (isCode c) with hi | hi
  · exact h2 c (List.mem_filter.mpr ⟨hc, hi⟩)
  · simpa [hi] using h
set_option maxRecDepth 65536 in
theorem w_c0 : (Jvm.Cond.code x code maxLocals ret).before args0 about1 = true := code_word (m := ⟨1, 1⟩) (meth := k1m1) (c := k1c1) (by decide +kernel) rfl rfl rfl (by decide +kernel)
set_option maxRecDepth 65536 in
theorem w_c1 : (Jvm.Cond.code ({ cls := "unitloom/engine/Links", name := "<init>", desc := "(I)V" } : Jvm.MethodName) prog_8_method_1_code (2 : Nat) (Option.none : Option Jvm.ClassFile.FieldType)).before args0 about1 = true := code_word (m := ⟨2, 0⟩) (meth := k2m0) (c := k2c0) (by decide +kernel) rfl rfl rfl (by decide +kernel)
set_option maxRecDepth 65536 in
theorem w_c2 : (Jvm.Cond.code ({ cls := "java/lang/Object", name := "<init>", desc := "()V" } : Jvm.MethodName) object_method_1_code (1 : Nat) (Option.none : Option Jvm.ClassFile.FieldType)).before args0 about1 = true := code_word (m := ⟨0, 0⟩) (meth := k0m0) (c := k0c0) (by decide +kernel) rfl rfl rfl (by decide +kernel)
set_option maxRecDepth 65536 in
theorem w_c3 : (Jvm.Cond.code ({ cls := "java/util/Arrays", name := "fill", desc := "([Ljava/lang/Object;Ljava/lang/Object;)V" } : Jvm.MethodName) jdk_65_method_117_code (4 : Nat) (Option.none : Option Jvm.ClassFile.FieldType)).before args0 about1 = true := code_word (m := ⟨3, 1⟩) (meth := k3m1) (c := k3c1) (by decide +kernel) rfl rfl rfl (by decide +kernel)
set_option maxRecDepth 65536 in
theorem w_c4 : (Jvm.Cond.code ({ cls := "unitloom/engine/Links", name := "addEdge", desc := "(II)Z" } : Jvm.MethodName) prog_8_method_6_code (3 : Nat) (Option.some Jvm.ClassFile.FieldType.boolean)).before args0 about1 = true := code_word (m := ⟨2, 3⟩) (meth := k2m3) (c := k2c3) (by decide +kernel) rfl rfl rfl (by decide +kernel)
set_option maxRecDepth 65536 in
theorem w_c5 : (Jvm.Cond.code ({ cls := "unitloom/engine/Links", name := "addOneWay", desc := "(III)Z" } : Jvm.MethodName) prog_8_method_11_code (6 : Nat) (Option.some Jvm.ClassFile.FieldType.boolean)).before args0 about1 = true := code_word (m := ⟨2, 6⟩) (meth := k2m6) (c := k2c6) (by decide +kernel) rfl rfl rfl (by decide +kernel)
set_option maxRecDepth 65536 in
theorem w_c6 : (Jvm.Cond.code ({ cls := "unitloom/engine/Links", name := "index", desc := "(II)I" } : Jvm.MethodName) prog_8_method_10_code (5 : Nat) (Option.some Jvm.ClassFile.FieldType.int)).before args0 about1 = true := code_word (m := ⟨2, 5⟩) (meth := k2m5) (c := k2c5) (by decide +kernel) rfl rfl rfl (by decide +kernel)
set_option maxRecDepth 65536 in
theorem w_c7 : (Jvm.Cond.code ({ cls := "java/lang/Math", name := "max", desc := "(II)I" } : Jvm.MethodName) jdk_29_method_65_code (2 : Nat) (Option.some Jvm.ClassFile.FieldType.int)).before args0 about1 = true := code_word (m := ⟨4, 1⟩) (meth := k4m1) (c := k4c1) (by decide +kernel) rfl rfl rfl (by decide +kernel)
set_option maxRecDepth 65536 in
theorem w_c8 : (Jvm.Cond.code ({ cls := "java/util/Arrays", name := "copyOf", desc := "([II)[I" } : Jvm.MethodName) jdk_65_method_123_code (3 : Nat) (Option.some (Jvm.ClassFile.FieldType.array Jvm.ClassFile.FieldType.int))).before args0 about1 = true := code_word (m := ⟨3, 2⟩) (meth := k3m2) (c := k3c2) (by decide +kernel) rfl rfl rfl (by decide +kernel)
set_option maxRecDepth 65536 in
theorem w_c9 : (Jvm.Cond.code ({ cls := "java/lang/Math", name := "min", desc := "(II)I" } : Jvm.MethodName) jdk_29_method_69_code (2 : Nat) (Option.some Jvm.ClassFile.FieldType.int)).before args0 about1 = true := code_word (m := ⟨4, 2⟩) (meth := k4m2) (c := k4c2) (by decide +kernel) rfl rfl rfl (by decide +kernel)
set_option maxRecDepth 65536 in
theorem w_c10 : (Jvm.Cond.code ({ cls := "unitloom/engine/Links", name := "removeEdge", desc := "(II)Z" } : Jvm.MethodName) prog_8_method_7_code (3 : Nat) (Option.some Jvm.ClassFile.FieldType.boolean)).before args0 about1 = true := code_word (m := ⟨2, 4⟩) (meth := k2m4) (c := k2c4) (by decide +kernel) rfl rfl rfl (by decide +kernel)
set_option maxRecDepth 65536 in
theorem w_c11 : (Jvm.Cond.code ({ cls := "unitloom/engine/Links", name := "removeOneWay", desc := "(III)Z" } : Jvm.MethodName) prog_8_method_12_code (7 : Nat) (Option.some Jvm.ClassFile.FieldType.boolean)).before args0 about1 = true := code_word (m := ⟨2, 7⟩) (meth := k2m7) (c := k2c7) (by decide +kernel) rfl rfl rfl (by decide +kernel)
set_option maxRecDepth 65536 in
theorem w_c12 : (Jvm.Cond.code ({ cls := "unitloom/engine/Links", name := "edges", desc := "(II)I" } : Jvm.MethodName) prog_8_method_5_code (4 : Nat) (Option.some Jvm.ClassFile.FieldType.int)).before args0 about1 = true := code_word (m := ⟨2, 2⟩) (meth := k2m2) (c := k2c2) (by decide +kernel) rfl rfl rfl (by decide +kernel)
set_option maxRecDepth 65536 in
theorem w_c13 : (Jvm.Cond.code ({ cls := "unitloom/engine/Links", name := "count", desc := "(I)I" } : Jvm.MethodName) prog_8_method_2_code (2 : Nat) (Option.some Jvm.ClassFile.FieldType.int)).before args0 about1 = true := code_word (m := ⟨2, 1⟩) (meth := k2m1) (c := k2c1) (by decide +kernel) rfl rfl rfl (by decide +kernel)
def codes1 : List Jvm.Cond := [Jvm.Cond.code x code maxLocals ret, Jvm.Cond.code ({ cls := "unitloom/engine/Links", name := "<init>", desc := "(I)V" } : Jvm.MethodName) prog_8_method_1_code (2 : Nat) (Option.none : Option Jvm.ClassFile.FieldType), Jvm.Cond.code ({ cls := "java/lang/Object", name := "<init>", desc := "()V" } : Jvm.MethodName) object_method_1_code (1 : Nat) (Option.none : Option Jvm.ClassFile.FieldType), Jvm.Cond.code ({ cls := "java/util/Arrays", name := "fill", desc := "([Ljava/lang/Object;Ljava/lang/Object;)V" } : Jvm.MethodName) jdk_65_method_117_code (4 : Nat) (Option.none : Option Jvm.ClassFile.FieldType), Jvm.Cond.code ({ cls := "unitloom/engine/Links", name := "addEdge", desc := "(II)Z" } : Jvm.MethodName) prog_8_method_6_code (3 : Nat) (Option.some Jvm.ClassFile.FieldType.boolean), Jvm.Cond.code ({ cls := "unitloom/engine/Links", name := "addOneWay", desc := "(III)Z" } : Jvm.MethodName) prog_8_method_11_code (6 : Nat) (Option.some Jvm.ClassFile.FieldType.boolean), Jvm.Cond.code ({ cls := "unitloom/engine/Links", name := "index", desc := "(II)I" } : Jvm.MethodName) prog_8_method_10_code (5 : Nat) (Option.some Jvm.ClassFile.FieldType.int), Jvm.Cond.code ({ cls := "java/lang/Math", name := "max", desc := "(II)I" } : Jvm.MethodName) jdk_29_method_65_code (2 : Nat) (Option.some Jvm.ClassFile.FieldType.int), Jvm.Cond.code ({ cls := "java/util/Arrays", name := "copyOf", desc := "([II)[I" } : Jvm.MethodName) jdk_65_method_123_code (3 : Nat) (Option.some (Jvm.ClassFile.FieldType.array Jvm.ClassFile.FieldType.int)), Jvm.Cond.code ({ cls := "java/lang/Math", name := "min", desc := "(II)I" } : Jvm.MethodName) jdk_29_method_69_code (2 : Nat) (Option.some Jvm.ClassFile.FieldType.int), Jvm.Cond.code ({ cls := "unitloom/engine/Links", name := "removeEdge", desc := "(II)Z" } : Jvm.MethodName) prog_8_method_7_code (3 : Nat) (Option.some Jvm.ClassFile.FieldType.boolean), Jvm.Cond.code ({ cls := "unitloom/engine/Links", name := "removeOneWay", desc := "(III)Z" } : Jvm.MethodName) prog_8_method_12_code (7 : Nat) (Option.some Jvm.ClassFile.FieldType.boolean), Jvm.Cond.code ({ cls := "unitloom/engine/Links", name := "edges", desc := "(II)I" } : Jvm.MethodName) prog_8_method_5_code (4 : Nat) (Option.some Jvm.ClassFile.FieldType.int), Jvm.Cond.code ({ cls := "unitloom/engine/Links", name := "count", desc := "(I)I" } : Jvm.MethodName) prog_8_method_2_code (2 : Nat) (Option.some Jvm.ClassFile.FieldType.int)]
set_option maxRecDepth 65536 in
theorem codes_eq : words1.filter isCode = codes1 := rfl
theorem w_codes : ∀ c ∈ words1.filter isCode, c.before args0 about1 = true := by
  rw [codes_eq]
  intro c hc
  simp only [codes1, List.mem_cons, List.not_mem_nil, or_false] at hc
  rcases hc with rfl | rfl | rfl | rfl | rfl | rfl | rfl | rfl | rfl | rfl | rfl | rfl | rfl | rfl
  · exact w_c0
  · exact w_c1
  · exact w_c2
  · exact w_c3
  · exact w_c4
  · exact w_c5
  · exact w_c6
  · exact w_c7
  · exact w_c8
  · exact w_c9
  · exact w_c10
  · exact w_c11
  · exact w_c12
  · exact w_c13
set_option maxRecDepth 65536 in
theorem w_t1 : (words1.take 24).all (fun c => isCode c || c.before args0 about1) = true := by decide +kernel
set_option maxRecDepth 65536 in
theorem w_t2 : ((words1.drop 24).take 24).all (fun c => isCode c || c.before args0 about1) = true := by decide +kernel
set_option maxRecDepth 65536 in
theorem w_t3 : (((words1.drop 24).drop 24).take 24).all (fun c => isCode c || c.before args0 about1) = true := by decide +kernel
set_option maxRecDepth 65536 in
theorem w_t4 : (((words1.drop 24).drop 24).drop 24).all (fun c => isCode c || c.before args0 about1) = true := by decide +kernel
theorem w_tables : (allAtoms (Jvm.Cond.code x code maxLocals ret :: tables_1)).before args0 about1 = true := by
  rw [allAtoms_all]
  show words1.all (fun c => c.before args0 about1) = true
  refine all_split ?_ w_codes
  rw [← List.take_append_drop 24 words1, List.all_append, w_t1, ← List.take_append_drop 24 (words1.drop 24), List.all_append, w_t2, ← List.take_append_drop 24 ((words1.drop 24).drop 24), List.all_append, w_t3, w_t4]
  rfl
set_option maxRecDepth 65536 in
theorem w_case : (Jvm.Cond.and given_1 narrow_1).before args0 about1 = true := by decide +kernel
theorem w_applies : (headSpec (Jvm.Cond.code x code maxLocals ret :: tables_1) room_1).applies x e0.platform about1 = true :=
  (Spec.applies_iff w_frames).mpr ⟨w_running, w_runnable, w_alone, w_named, w_hears, w_ripe, w_room, w_tables⟩
theorem atStart : AtStart classFile x code maxLocals ret World_1 tables_1 room_1 Calls_1 rest_1 Pre_1 launch0 p0 e0 about1 theMethod args0 below0 :=
  ⟨lists_1, trivial, launch0.admits_env _ _ _, launch0.least_env, fairChoices_fair.cas, fairChoices_fair.clock, w_frames, w_args, w_heap, w_applies, trivial, trivial, w_case⟩
end start1
theorem witness_1 : WitnessClaimed_1 := ⟨start1.p0, start1.e0, start1.about1, start1.theMethod, start1.args0, start1.below0, start1.atStart⟩
end Jvm.Pilot.@@N@@
