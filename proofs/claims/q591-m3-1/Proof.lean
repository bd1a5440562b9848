import JvmDerived
import JvmDerived.Pilot.@@N@@Statement
import JvmDerived.Pilot.@@N@@Code
set_option linter.unusedVariables false
set_option linter.unusedSimpArgs false

namespace Jvm.OwnKit
open Sem ClassFile Op Lib Jvm.Stand Jvm.Free Jvm.LawKit Jvm.RoadKit
section Kit
variable {p : Program} {l : Launch} {e : Env} {R : Room} {s : State} {m : MethodId} {args : Array Value} {below : List Frame} {meth : Method} {c : Code} {T : State} {locs : List Loc} {cells slots : Nat} {Z : State} {a0 : Array Value} {h : Heap} {own nm : String} {bytes : ByteArray} {maxL : Nat} {ret : Option FieldType} {P : Outcome → State → Prop} {pc pc' : Nat} {Ls Ls' : Array Slot} {rest : List Value}
/-- from here the run ends, and P holds of its end -/
def Go (p : Program) (e : Env) (below : List Frame) (P : Outcome → State → Prop) (T0 : State) : Prop := ∃ t o, Steps p.tables e below T0 t ∧ t.status = .running ∧ Ended t below o ∧ P o t
theorem Go.on {T1 T2 : State} (st : ∀ t, Steps p.tables e below T2 t → Steps p.tables e below T1 t) (k : Go p e below P T2) : Go p e below P T1 := by
  obtain ⟨t, o, h1, h2⟩ := k; exact ⟨t, o, st t h1, h2⟩
/-- what a walk knows of the method that it walks -/
def Ctx (p : Program) (s : State) (m : MethodId) (meth : Method) (c : Code) (Z : State) (own nm : String) (bytes : ByteArray) (maxL : Nat) (ret : Option FieldType) : Prop :=
  p.tables.exec = Jvm.exec ∧ c.code = bytes ∧ c.maxLocals = maxL ∧ s.vm.findClass own = some m.cls ∧ meth.name = nm ∧ meth.sig.returnType = ret ∧ meth.locks = false ∧ Z.Warmed39 s.vm
/-- what a body's end says -/
def OEnds (s : State) (Q : Option Value → Heap → List Loc → Prop) (k n : Nat) (o : Outcome) (t : State) : Prop := ∃ v L, o = .returned v ∧ Q v t.heap L ∧ FrameEnd s o t L k n
/-- a contract: called with the arguments 'as' at the heap h0 it returns as Q says -/
abbrev OMeets (l : Launch) (Z : State) (y : MethodName) (bytes : ByteArray) (maxL : Nat) (ret : Option FieldType) (ws : List Jvm.Cond) (rm : Room) (as : Array Value) (h0 : Heap) (Q : Option Value → Heap → List Loc → Prop) : Prop :=
  MetFree l y (head1 (Jvm.Cond.code y bytes maxL ret :: ws) rm) (fun a U => a = as ∧ Z.Warmed39 U.vm ∧ U.heap = h0) (fun _ _ _ _ _ => True) (fun _ U o U' => ∃ v L, o = .returned v ∧ Q v U'.heap L ∧ FrameEnd U o U' L rm.cells rm.slots)
/-- it returns r, writes nothing and makes nothing -/
def PureQ (r : Option Value) (h0 : Heap) (v : Option Value) (h : Heap) (L : List Loc) : Prop := v = r ∧ L = [] ∧ h = h0
theorem OMeets.of {y : MethodName} {ws : List Jvm.Cond} {rm : Room} {as : Array Value} {h0 : Heap} {Q : Option Value → Heap → List Loc → Prop} (hpn : plainFor y = true) (ls : Array Slot) (hent : ∀ m, entryFrame m as maxL = mkF m 0 ls [])
    (body : ∀ p e s m below meth c s₁, Ctx p s m meth c Z y.cls y.name bytes maxL ret → Stand p l e rm s m as below meth c s₁ [] 0 0 → s₁.heap = h0 → Go p e below (OEnds s Q rm.cells rm.slots) (s₁.setTop (mkF m 0 ls []))) : OMeets l Z y bytes maxL ret ws rm as h0 Q := by
  refine MetFree.of_bodySF hpn hisR ?_
  intro p e s m args below meth c s₁ Bd hml0 hP hK
  obtain ⟨rfl, hZ, hh⟩ := hP
  have e0 : s₁.heap = h0 := by rw [← hh, Bd.state]; rfl
  have X0 := Stand.of_body Bd
  have B : Ctx p s m meth c Z y.cls y.name bytes maxL ret := ⟨Bd.exec, Bd.bytes, hml0, findClass_of_methodNamed Bd.named, (name_of_methodNamed Bd.named Bd.method).1, Bd.returns, Bd.notSynchronized, hZ⟩
  obtain ⟨t, o, h1, h2, h3, h4⟩ := body p e s m below meth c s₁ B X0 e0
  exact ⟨t, o, castTop (hent m) h1, h2, h3, h4⟩
/-! the single steps -/

theorem s_iloadN (B : Ctx p s m meth c Z own nm bytes maxL ret) (X : Stand p l e R s m args below meth c T locs cells slots) {k0 : Fin 4} {v : Int32} (hd : decode bytes pc = .ok (.iload_n k0, 1)) (hl : Ls[k0.val]? = some (.val (.int v))) (hp : pc + 1 = pc') (k : Go p e below P (T.setTop (mkF m pc' Ls (.int v :: rest)))) : Go p e below P (T.setTop (mkF m pc Ls (rest))) := by
  subst hp; exact Go.on (fun t => XS.iloadN X.here B.1 rfl (hb B.2.1 hd) hl) k
theorem s_iload (B : Ctx p s m meth c Z own nm bytes maxL ret) (X : Stand p l e R s m args below meth c T locs cells slots) {k0 : Nat} {v : Int32} (hd : decode bytes pc = .ok (.iload k0, 2)) (hl : Ls[k0]? = some (.val (.int v))) (hp : pc + 2 = pc') (k : Go p e below P (T.setTop (mkF m pc' Ls (.int v :: rest)))) : Go p e below P (T.setTop (mkF m pc Ls (rest))) := by
  subst hp; exact Go.on (fun t => XS.iload X.here B.1 rfl (hb B.2.1 hd) hl) k
theorem s_istoreN (B : Ctx p s m meth c Z own nm bytes maxL ret) (X : Stand p l e R s m args below meth c T locs cells slots) {k0 : Fin 4} {v : Int32} (hd : decode bytes pc = .ok (.istore_n k0, 1)) (hl : storeLocals Ls k0.val (.int v) = some Ls') (hp : pc + 1 = pc') (k : Go p e below P (T.setTop (mkF m pc' Ls' (rest)))) : Go p e below P (T.setTop (mkF m pc Ls (.int v :: rest))) := by
  subst hp; exact Go.on (fun t => XS.istoreN X.here B.1 rfl (hb B.2.1 hd) rfl hl) k
theorem s_istore (B : Ctx p s m meth c Z own nm bytes maxL ret) (X : Stand p l e R s m args below meth c T locs cells slots) {k0 : Nat} {v : Int32} (hd : decode bytes pc = .ok (.istore k0, 2)) (hl : storeLocals Ls k0 (.int v) = some Ls') (hp : pc + 2 = pc') (k : Go p e below P (T.setTop (mkF m pc' Ls' (rest)))) : Go p e below P (T.setTop (mkF m pc Ls (.int v :: rest))) := by
  subst hp; exact Go.on (fun t => XS.istore X.here B.1 rfl (hb B.2.1 hd) rfl hl) k
theorem s_lloadN (B : Ctx p s m meth c Z own nm bytes maxL ret) (X : Stand p l e R s m args below meth c T locs cells slots) {k0 : Fin 4} {v : Int64} (hd : decode bytes pc = .ok (.lload_n k0, 1)) (hl : Ls[k0.val]? = some (.val (.long v))) (hp : pc + 1 = pc') (k : Go p e below P (T.setTop (mkF m pc' Ls (.long v :: rest)))) : Go p e below P (T.setTop (mkF m pc Ls (rest))) := by
  subst hp; exact Go.on (fun t => XS.lloadN X.here B.1 rfl (hb B.2.1 hd) hl) k
theorem s_lload (B : Ctx p s m meth c Z own nm bytes maxL ret) (X : Stand p l e R s m args below meth c T locs cells slots) {k0 : Nat} {v : Int64} (hd : decode bytes pc = .ok (.lload k0, 2)) (hl : Ls[k0]? = some (.val (.long v))) (hp : pc + 2 = pc') (k : Go p e below P (T.setTop (mkF m pc' Ls (.long v :: rest)))) : Go p e below P (T.setTop (mkF m pc Ls (rest))) := by
  subst hp; exact Go.on (fun t => XS.lload X.here B.1 rfl (hb B.2.1 hd) hl) k
theorem s_lstoreN (B : Ctx p s m meth c Z own nm bytes maxL ret) (X : Stand p l e R s m args below meth c T locs cells slots) {k0 : Fin 4} {v : Int64} (hd : decode bytes pc = .ok (.lstore_n k0, 1)) (hl : storeLocals Ls k0.val (.long v) = some Ls') (hp : pc + 1 = pc') (k : Go p e below P (T.setTop (mkF m pc' Ls' (rest)))) : Go p e below P (T.setTop (mkF m pc Ls (.long v :: rest))) := by
  subst hp; exact Go.on (fun t => XS.lstoreN X.here B.1 rfl (hb B.2.1 hd) rfl hl) k
theorem s_lstore (B : Ctx p s m meth c Z own nm bytes maxL ret) (X : Stand p l e R s m args below meth c T locs cells slots) {k0 : Nat} {v : Int64} (hd : decode bytes pc = .ok (.lstore k0, 2)) (hl : storeLocals Ls k0 (.long v) = some Ls') (hp : pc + 2 = pc') (k : Go p e below P (T.setTop (mkF m pc' Ls' (rest)))) : Go p e below P (T.setTop (mkF m pc Ls (.long v :: rest))) := by
  subst hp; exact Go.on (fun t => XS.lstore X.here B.1 rfl (hb B.2.1 hd) rfl hl) k
theorem s_aloadN (B : Ctx p s m meth c Z own nm bytes maxL ret) (X : Stand p l e R s m args below meth c T locs cells slots) {k0 : Fin 4} {v : Value} (hd : decode bytes pc = .ok (.aload_n k0, 1)) (hl : Ls[k0.val]? = some (.val v)) (hv : v.isRef = true) (hp : pc + 1 = pc') (k : Go p e below P (T.setTop (mkF m pc' Ls (v :: rest)))) : Go p e below P (T.setTop (mkF m pc Ls (rest))) := by
  subst hp; exact Go.on (fun t => XS.aloadN X.here B.1 rfl (hb B.2.1 hd) hl hv) k
theorem s_aload (B : Ctx p s m meth c Z own nm bytes maxL ret) (X : Stand p l e R s m args below meth c T locs cells slots) {k0 : Nat} {v : Value} (hd : decode bytes pc = .ok (.aload k0, 2)) (hl : Ls[k0]? = some (.val v)) (hv : v.isRef = true) (hp : pc + 2 = pc') (k : Go p e below P (T.setTop (mkF m pc' Ls (v :: rest)))) : Go p e below P (T.setTop (mkF m pc Ls (rest))) := by
  subst hp; exact Go.on (fun t => XS.aload X.here B.1 rfl (hb B.2.1 hd) hl hv) k
theorem s_astoreN (B : Ctx p s m meth c Z own nm bytes maxL ret) (X : Stand p l e R s m args below meth c T locs cells slots) {k0 : Fin 4} {v : Value} (hd : decode bytes pc = .ok (.astore_n k0, 1)) (hv : v.isRef = true) (hl : storeLocals Ls k0.val v = some Ls') (hp : pc + 1 = pc') (k : Go p e below P (T.setTop (mkF m pc' Ls' (rest)))) : Go p e below P (T.setTop (mkF m pc Ls (v :: rest))) := by
  subst hp; exact Go.on (fun t => XS.astoreN X.here B.1 rfl (hb B.2.1 hd) rfl hv hl) k
theorem s_astore (B : Ctx p s m meth c Z own nm bytes maxL ret) (X : Stand p l e R s m args below meth c T locs cells slots) {k0 : Nat} {v : Value} (hd : decode bytes pc = .ok (.astore k0, 2)) (hv : v.isRef = true) (hl : storeLocals Ls k0 v = some Ls') (hp : pc + 2 = pc') (k : Go p e below P (T.setTop (mkF m pc' Ls' (rest)))) : Go p e below P (T.setTop (mkF m pc Ls (v :: rest))) := by
  subst hp; exact Go.on (fun t => XS.astore X.here B.1 rfl (hb B.2.1 hd) rfl hv hl) k
theorem s_iconst (B : Ctx p s m meth c Z own nm bytes maxL ret) (X : Stand p l e R s m args below meth c T locs cells slots) {i : Int} {v : Int32} (hd : decode bytes pc = .ok (.iconst i, 1)) (hv : Int32.ofInt i = v) (hp : pc + 1 = pc') (k : Go p e below P (T.setTop (mkF m pc' Ls (.int v :: rest)))) : Go p e below P (T.setTop (mkF m pc Ls (rest))) := by
  subst hp; subst hv; exact Go.on (fun t => XS.iconst X.here B.1 rfl (hb B.2.1 hd)) k
theorem s_bipush (B : Ctx p s m meth c Z own nm bytes maxL ret) (X : Stand p l e R s m args below meth c T locs cells slots) {i : Int} {v : Int32} (hd : decode bytes pc = .ok (.bipush i, 2)) (hv : (Int8.ofInt i).toInt32 = v) (hp : pc + 2 = pc') (k : Go p e below P (T.setTop (mkF m pc' Ls (.int v :: rest)))) : Go p e below P (T.setTop (mkF m pc Ls (rest))) := by
  subst hp; subst hv; exact Go.on (fun t => XS.bipush X.here B.1 rfl (hb B.2.1 hd)) k
theorem s_sipush (B : Ctx p s m meth c Z own nm bytes maxL ret) (X : Stand p l e R s m args below meth c T locs cells slots) {i : Int} {v : Int32} (hd : decode bytes pc = .ok (.sipush i, 3)) (hv : (Int16.ofInt i).toInt32 = v) (hp : pc + 3 = pc') (k : Go p e below P (T.setTop (mkF m pc' Ls (.int v :: rest)))) : Go p e below P (T.setTop (mkF m pc Ls (rest))) := by
  subst hp; subst hv; exact Go.on (fun t => XS.sipush X.here B.1 rfl (hb B.2.1 hd)) k
theorem s_lconst (B : Ctx p s m meth c Z own nm bytes maxL ret) (X : Stand p l e R s m args below meth c T locs cells slots) {i : Fin 2} {v : Int64} (hd : decode bytes pc = .ok (.lconst i, 1)) (hv : Int64.ofNat i = v) (hp : pc + 1 = pc') (k : Go p e below P (T.setTop (mkF m pc' Ls (.long v :: rest)))) : Go p e below P (T.setTop (mkF m pc Ls (rest))) := by
  subst hp; subst hv; exact Go.on (fun t => XS.lconst X.here B.1 rfl (hb B.2.1 hd)) k
theorem s_aconst_null (B : Ctx p s m meth c Z own nm bytes maxL ret) (X : Stand p l e R s m args below meth c T locs cells slots)  (hd : decode bytes pc = .ok (.aconst_null, 1))  (hp : pc + 1 = pc') (k : Go p e below P (T.setTop (mkF m pc' Ls (.null :: rest)))) : Go p e below P (T.setTop (mkF m pc Ls (rest))) := by
  subst hp; exact Go.on (fun t => XS.aconstNull X.here B.1 rfl (hb B.2.1 hd)) k
theorem s_iadd (B : Ctx p s m meth c Z own nm bytes maxL ret) (X : Stand p l e R s m args below meth c T locs cells slots) {x : Int32} {y : Int32} {v : Int32} (hd : decode bytes pc = .ok (.iadd, 1)) (hv : x + y = v)  (hp : pc + 1 = pc') (k : Go p e below P (T.setTop (mkF m pc' Ls (.int v :: rest)))) : Go p e below P (T.setTop (mkF m pc Ls (.int y :: .int x :: rest))) := by
  subst hp; subst hv; exact Go.on (fun t => XS.iadd X.here B.1 rfl (hb B.2.1 hd) rfl ) k
theorem s_isub (B : Ctx p s m meth c Z own nm bytes maxL ret) (X : Stand p l e R s m args below meth c T locs cells slots) {x : Int32} {y : Int32} {v : Int32} (hd : decode bytes pc = .ok (.isub, 1)) (hv : x - y = v)  (hp : pc + 1 = pc') (k : Go p e below P (T.setTop (mkF m pc' Ls (.int v :: rest)))) : Go p e below P (T.setTop (mkF m pc Ls (.int y :: .int x :: rest))) := by
  subst hp; subst hv; exact Go.on (fun t => XS.isub X.here B.1 rfl (hb B.2.1 hd) rfl ) k
theorem s_imul (B : Ctx p s m meth c Z own nm bytes maxL ret) (X : Stand p l e R s m args below meth c T locs cells slots) {x : Int32} {y : Int32} {v : Int32} (hd : decode bytes pc = .ok (.imul, 1)) (hv : x * y = v)  (hp : pc + 1 = pc') (k : Go p e below P (T.setTop (mkF m pc' Ls (.int v :: rest)))) : Go p e below P (T.setTop (mkF m pc Ls (.int y :: .int x :: rest))) := by
  subst hp; subst hv; exact Go.on (fun t => XS.imul X.here B.1 rfl (hb B.2.1 hd) rfl ) k
theorem s_iand (B : Ctx p s m meth c Z own nm bytes maxL ret) (X : Stand p l e R s m args below meth c T locs cells slots) {x : Int32} {y : Int32} {v : Int32} (hd : decode bytes pc = .ok (.iand, 1)) (hv : x &&& y = v)  (hp : pc + 1 = pc') (k : Go p e below P (T.setTop (mkF m pc' Ls (.int v :: rest)))) : Go p e below P (T.setTop (mkF m pc Ls (.int y :: .int x :: rest))) := by
  subst hp; subst hv; exact Go.on (fun t => XS.iand X.here B.1 rfl (hb B.2.1 hd) rfl ) k
theorem s_ior (B : Ctx p s m meth c Z own nm bytes maxL ret) (X : Stand p l e R s m args below meth c T locs cells slots) {x : Int32} {y : Int32} {v : Int32} (hd : decode bytes pc = .ok (.ior, 1)) (hv : x ||| y = v)  (hp : pc + 1 = pc') (k : Go p e below P (T.setTop (mkF m pc' Ls (.int v :: rest)))) : Go p e below P (T.setTop (mkF m pc Ls (.int y :: .int x :: rest))) := by
  subst hp; subst hv; exact Go.on (fun t => XS.ior X.here B.1 rfl (hb B.2.1 hd) rfl ) k
theorem s_ixor (B : Ctx p s m meth c Z own nm bytes maxL ret) (X : Stand p l e R s m args below meth c T locs cells slots) {x : Int32} {y : Int32} {v : Int32} (hd : decode bytes pc = .ok (.ixor, 1)) (hv : x ^^^ y = v)  (hp : pc + 1 = pc') (k : Go p e below P (T.setTop (mkF m pc' Ls (.int v :: rest)))) : Go p e below P (T.setTop (mkF m pc Ls (.int y :: .int x :: rest))) := by
  subst hp; subst hv; exact Go.on (fun t => XS.ixor X.here B.1 rfl (hb B.2.1 hd) rfl ) k
theorem s_ladd (B : Ctx p s m meth c Z own nm bytes maxL ret) (X : Stand p l e R s m args below meth c T locs cells slots) {x : Int64} {y : Int64} {v : Int64} (hd : decode bytes pc = .ok (.ladd, 1)) (hv : x + y = v)  (hp : pc + 1 = pc') (k : Go p e below P (T.setTop (mkF m pc' Ls (.long v :: rest)))) : Go p e below P (T.setTop (mkF m pc Ls (.long y :: .long x :: rest))) := by
  subst hp; subst hv; exact Go.on (fun t => XS.ladd X.here B.1 rfl (hb B.2.1 hd) rfl ) k
theorem s_lsub (B : Ctx p s m meth c Z own nm bytes maxL ret) (X : Stand p l e R s m args below meth c T locs cells slots) {x : Int64} {y : Int64} {v : Int64} (hd : decode bytes pc = .ok (.lsub, 1)) (hv : x - y = v)  (hp : pc + 1 = pc') (k : Go p e below P (T.setTop (mkF m pc' Ls (.long v :: rest)))) : Go p e below P (T.setTop (mkF m pc Ls (.long y :: .long x :: rest))) := by
  subst hp; subst hv; exact Go.on (fun t => XS.lsub X.here B.1 rfl (hb B.2.1 hd) rfl ) k
theorem s_lmul (B : Ctx p s m meth c Z own nm bytes maxL ret) (X : Stand p l e R s m args below meth c T locs cells slots) {x : Int64} {y : Int64} {v : Int64} (hd : decode bytes pc = .ok (.lmul, 1)) (hv : x * y = v)  (hp : pc + 1 = pc') (k : Go p e below P (T.setTop (mkF m pc' Ls (.long v :: rest)))) : Go p e below P (T.setTop (mkF m pc Ls (.long y :: .long x :: rest))) := by
  subst hp; subst hv; exact Go.on (fun t => XS.lmul X.here B.1 rfl (hb B.2.1 hd) rfl ) k
theorem s_land (B : Ctx p s m meth c Z own nm bytes maxL ret) (X : Stand p l e R s m args below meth c T locs cells slots) {x : Int64} {y : Int64} {v : Int64} (hd : decode bytes pc = .ok (.land, 1)) (hv : x &&& y = v)  (hp : pc + 1 = pc') (k : Go p e below P (T.setTop (mkF m pc' Ls (.long v :: rest)))) : Go p e below P (T.setTop (mkF m pc Ls (.long y :: .long x :: rest))) := by
  subst hp; subst hv; exact Go.on (fun t => XS.land X.here B.1 rfl (hb B.2.1 hd) rfl ) k
theorem s_lor (B : Ctx p s m meth c Z own nm bytes maxL ret) (X : Stand p l e R s m args below meth c T locs cells slots) {x : Int64} {y : Int64} {v : Int64} (hd : decode bytes pc = .ok (.lor, 1)) (hv : x ||| y = v)  (hp : pc + 1 = pc') (k : Go p e below P (T.setTop (mkF m pc' Ls (.long v :: rest)))) : Go p e below P (T.setTop (mkF m pc Ls (.long y :: .long x :: rest))) := by
  subst hp; subst hv; exact Go.on (fun t => XS.lor X.here B.1 rfl (hb B.2.1 hd) rfl ) k
theorem s_lxor (B : Ctx p s m meth c Z own nm bytes maxL ret) (X : Stand p l e R s m args below meth c T locs cells slots) {x : Int64} {y : Int64} {v : Int64} (hd : decode bytes pc = .ok (.lxor, 1)) (hv : x ^^^ y = v)  (hp : pc + 1 = pc') (k : Go p e below P (T.setTop (mkF m pc' Ls (.long v :: rest)))) : Go p e below P (T.setTop (mkF m pc Ls (.long y :: .long x :: rest))) := by
  subst hp; subst hv; exact Go.on (fun t => XS.lxor X.here B.1 rfl (hb B.2.1 hd) rfl ) k
theorem s_idiv (B : Ctx p s m meth c Z own nm bytes maxL ret) (X : Stand p l e R s m args below meth c T locs cells slots) {x : Int32} {y : Int32} {v : Int32} (hd : decode bytes pc = .ok (.idiv, 1)) (hv : x / y = v) (hy : y ≠ 0) (hp : pc + 1 = pc') (k : Go p e below P (T.setTop (mkF m pc' Ls (.int v :: rest)))) : Go p e below P (T.setTop (mkF m pc Ls (.int y :: .int x :: rest))) := by
  subst hp; subst hv; exact Go.on (fun t => XS.idiv X.here B.1 rfl (hb B.2.1 hd) rfl hy) k
theorem s_ldiv (B : Ctx p s m meth c Z own nm bytes maxL ret) (X : Stand p l e R s m args below meth c T locs cells slots) {x : Int64} {y : Int64} {v : Int64} (hd : decode bytes pc = .ok (.ldiv, 1)) (hv : x / y = v) (hy : y ≠ 0) (hp : pc + 1 = pc') (k : Go p e below P (T.setTop (mkF m pc' Ls (.long v :: rest)))) : Go p e below P (T.setTop (mkF m pc Ls (.long y :: .long x :: rest))) := by
  subst hp; subst hv; exact Go.on (fun t => XS.ldiv X.here B.1 rfl (hb B.2.1 hd) rfl hy) k
theorem s_irem (B : Ctx p s m meth c Z own nm bytes maxL ret) (X : Stand p l e R s m args below meth c T locs cells slots) {x y v : Int32} (hd : decode bytes pc = .ok (.irem, 1)) (hv : x % y = v) (hy : y ≠ 0) (hp : pc + 1 = pc') (k : Go p e below P (T.setTop (mkF m pc' Ls (.int v :: rest)))) : Go p e below P (T.setTop (mkF m pc Ls (.int y :: .int x :: rest))) := by
  subst hp; subst hv; exact Go.on (fun t => iremM X B.1 rfl (hb B.2.1 hd) rfl hy) k
theorem s_ishl (B : Ctx p s m meth c Z own nm bytes maxL ret) (X : Stand p l e R s m args below meth c T locs cells slots) {x : Int32} {y : Int32} {v : Int32} (hd : decode bytes pc = .ok (.ishl, 1)) (hv : x <<< (y &&& 31) = v)  (hp : pc + 1 = pc') (k : Go p e below P (T.setTop (mkF m pc' Ls (.int v :: rest)))) : Go p e below P (T.setTop (mkF m pc Ls (.int y :: .int x :: rest))) := by
  subst hp; subst hv; exact Go.on (fun t => XS.ishl X.here B.1 rfl (hb B.2.1 hd) rfl ) k
theorem s_ishr (B : Ctx p s m meth c Z own nm bytes maxL ret) (X : Stand p l e R s m args below meth c T locs cells slots) {x : Int32} {y : Int32} {v : Int32} (hd : decode bytes pc = .ok (.ishr, 1)) (hv : x >>> (y &&& 31) = v)  (hp : pc + 1 = pc') (k : Go p e below P (T.setTop (mkF m pc' Ls (.int v :: rest)))) : Go p e below P (T.setTop (mkF m pc Ls (.int y :: .int x :: rest))) := by
  subst hp; subst hv; exact Go.on (fun t => XS.ishr X.here B.1 rfl (hb B.2.1 hd) rfl ) k
theorem s_iushr (B : Ctx p s m meth c Z own nm bytes maxL ret) (X : Stand p l e R s m args below meth c T locs cells slots) {x : Int32} {y : Int32} {v : Int32} (hd : decode bytes pc = .ok (.iushr, 1)) (hv : (x.toUInt32 >>> (y &&& 31).toUInt32).toInt32 = v)  (hp : pc + 1 = pc') (k : Go p e below P (T.setTop (mkF m pc' Ls (.int v :: rest)))) : Go p e below P (T.setTop (mkF m pc Ls (.int y :: .int x :: rest))) := by
  subst hp; subst hv; exact Go.on (fun t => XS.iushr X.here B.1 rfl (hb B.2.1 hd) rfl ) k
theorem s_lshl (B : Ctx p s m meth c Z own nm bytes maxL ret) (X : Stand p l e R s m args below meth c T locs cells slots) {x : Int64} {y : Int32} {v : Int64} (hd : decode bytes pc = .ok (.lshl, 1)) (hv : x <<< (y &&& 0x3f).toInt64 = v)  (hp : pc + 1 = pc') (k : Go p e below P (T.setTop (mkF m pc' Ls (.long v :: rest)))) : Go p e below P (T.setTop (mkF m pc Ls (.int y :: .long x :: rest))) := by
  subst hp; subst hv; exact Go.on (fun t => XS.lshl X.here B.1 rfl (hb B.2.1 hd) rfl ) k
theorem s_lshr (B : Ctx p s m meth c Z own nm bytes maxL ret) (X : Stand p l e R s m args below meth c T locs cells slots) {x : Int64} {y : Int32} {v : Int64} (hd : decode bytes pc = .ok (.lshr, 1)) (hv : x >>> (y &&& 0x3f).toInt64 = v)  (hp : pc + 1 = pc') (k : Go p e below P (T.setTop (mkF m pc' Ls (.long v :: rest)))) : Go p e below P (T.setTop (mkF m pc Ls (.int y :: .long x :: rest))) := by
  subst hp; subst hv; exact Go.on (fun t => XS.lshr X.here B.1 rfl (hb B.2.1 hd) rfl ) k
theorem s_lushr (B : Ctx p s m meth c Z own nm bytes maxL ret) (X : Stand p l e R s m args below meth c T locs cells slots) {x : Int64} {y : Int32} {v : Int64} (hd : decode bytes pc = .ok (.lushr, 1)) (hv : (x.toUInt64 >>> (y &&& 0x3f).toInt64.toUInt64).toInt64 = v)  (hp : pc + 1 = pc') (k : Go p e below P (T.setTop (mkF m pc' Ls (.long v :: rest)))) : Go p e below P (T.setTop (mkF m pc Ls (.int y :: .long x :: rest))) := by
  subst hp; subst hv; exact Go.on (fun t => XS.lushr X.here B.1 rfl (hb B.2.1 hd) rfl ) k
theorem s_i2b (B : Ctx p s m meth c Z own nm bytes maxL ret) (X : Stand p l e R s m args below meth c T locs cells slots) {x : Int32} {v : Int32} (hd : decode bytes pc = .ok (.i2b, 1)) (hv : x.toInt8.toInt32 = v) (hp : pc + 1 = pc') (k : Go p e below P (T.setTop (mkF m pc' Ls (.int v :: rest)))) : Go p e below P (T.setTop (mkF m pc Ls (.int x :: rest))) := by
  subst hp; subst hv; exact Go.on (fun t => XS.i2b X.here B.1 rfl (hb B.2.1 hd) rfl) k
theorem s_i2c (B : Ctx p s m meth c Z own nm bytes maxL ret) (X : Stand p l e R s m args below meth c T locs cells slots) {x : Int32} {v : Int32} (hd : decode bytes pc = .ok (.i2c, 1)) (hv : x.toUInt32.toUInt16.toUInt32.toInt32 = v) (hp : pc + 1 = pc') (k : Go p e below P (T.setTop (mkF m pc' Ls (.int v :: rest)))) : Go p e below P (T.setTop (mkF m pc Ls (.int x :: rest))) := by
  subst hp; subst hv; exact Go.on (fun t => XS.i2c X.here B.1 rfl (hb B.2.1 hd) rfl) k
theorem s_i2s (B : Ctx p s m meth c Z own nm bytes maxL ret) (X : Stand p l e R s m args below meth c T locs cells slots) {x : Int32} {v : Int32} (hd : decode bytes pc = .ok (.i2s, 1)) (hv : x.toInt16.toInt32 = v) (hp : pc + 1 = pc') (k : Go p e below P (T.setTop (mkF m pc' Ls (.int v :: rest)))) : Go p e below P (T.setTop (mkF m pc Ls (.int x :: rest))) := by
  subst hp; subst hv; exact Go.on (fun t => XS.i2s X.here B.1 rfl (hb B.2.1 hd) rfl) k
theorem s_i2l (B : Ctx p s m meth c Z own nm bytes maxL ret) (X : Stand p l e R s m args below meth c T locs cells slots) {x : Int32} {v : Int64} (hd : decode bytes pc = .ok (.i2l, 1)) (hv : x.toInt64 = v) (hp : pc + 1 = pc') (k : Go p e below P (T.setTop (mkF m pc' Ls (.long v :: rest)))) : Go p e below P (T.setTop (mkF m pc Ls (.int x :: rest))) := by
  subst hp; subst hv; exact Go.on (fun t => XS.i2l X.here B.1 rfl (hb B.2.1 hd) rfl) k
theorem s_l2i (B : Ctx p s m meth c Z own nm bytes maxL ret) (X : Stand p l e R s m args below meth c T locs cells slots) {x : Int64} {v : Int32} (hd : decode bytes pc = .ok (.l2i, 1)) (hv : x.toInt32 = v) (hp : pc + 1 = pc') (k : Go p e below P (T.setTop (mkF m pc' Ls (.int v :: rest)))) : Go p e below P (T.setTop (mkF m pc Ls (.long x :: rest))) := by
  subst hp; subst hv; exact Go.on (fun t => XS.l2i X.here B.1 rfl (hb B.2.1 hd) rfl) k
theorem s_ineg (B : Ctx p s m meth c Z own nm bytes maxL ret) (X : Stand p l e R s m args below meth c T locs cells slots) {x : Int32} {v : Int32} (hd : decode bytes pc = .ok (.ineg, 1)) (hv : -x = v) (hp : pc + 1 = pc') (k : Go p e below P (T.setTop (mkF m pc' Ls (.int v :: rest)))) : Go p e below P (T.setTop (mkF m pc Ls (.int x :: rest))) := by
  subst hp; subst hv; exact Go.on (fun t => XS.ineg X.here B.1 rfl (hb B.2.1 hd) rfl) k
theorem s_lneg (B : Ctx p s m meth c Z own nm bytes maxL ret) (X : Stand p l e R s m args below meth c T locs cells slots) {x : Int64} {v : Int64} (hd : decode bytes pc = .ok (.lneg, 1)) (hv : -x = v) (hp : pc + 1 = pc') (k : Go p e below P (T.setTop (mkF m pc' Ls (.long v :: rest)))) : Go p e below P (T.setTop (mkF m pc Ls (.long x :: rest))) := by
  subst hp; subst hv; exact Go.on (fun t => XS.lneg X.here B.1 rfl (hb B.2.1 hd) rfl) k
theorem s_lcmp (B : Ctx p s m meth c Z own nm bytes maxL ret) (X : Stand p l e R s m args below meth c T locs cells slots) {x y : Int64} (hd : decode bytes pc = .ok (.lcmp, 1))  (hp : pc + 1 = pc') (k : Go p e below P (T.setTop (mkF m pc' Ls (.int (lcmpW x y) :: rest)))) : Go p e below P (T.setTop (mkF m pc Ls (.long y :: .long x :: rest))) := by
  subst hp; exact Go.on (fun t => XS.lcmp X.here B.1 rfl (hb B.2.1 hd) rfl) k
theorem s_dup (B : Ctx p s m meth c Z own nm bytes maxL ret) (X : Stand p l e R s m args below meth c T locs cells slots) {v : Value} (hd : decode bytes pc = .ok (.dup, 1)) (hc : v.category = 1) (hp : pc + 1 = pc') (k : Go p e below P (T.setTop (mkF m pc' Ls (v :: v :: rest)))) : Go p e below P (T.setTop (mkF m pc Ls (v :: rest))) := by
  subst hp; exact Go.on (fun t => XS.dup X.here B.1 rfl (hb B.2.1 hd) rfl hc) k
theorem s_pop (B : Ctx p s m meth c Z own nm bytes maxL ret) (X : Stand p l e R s m args below meth c T locs cells slots) {v : Value} (hd : decode bytes pc = .ok (.pop, 1)) (hc : v.category = 1) (hp : pc + 1 = pc') (k : Go p e below P (T.setTop (mkF m pc' Ls (rest)))) : Go p e below P (T.setTop (mkF m pc Ls (v :: rest))) := by
  subst hp; exact Go.on (fun t => XS.pop X.here B.1 rfl (hb B.2.1 hd) rfl hc) k
theorem s_swap (B : Ctx p s m meth c Z own nm bytes maxL ret) (X : Stand p l e R s m args below meth c T locs cells slots) {v w : Value} (hd : decode bytes pc = .ok (.swap, 1)) (hc : v.category = 1) (hc2 : w.category = 1) (hp : pc + 1 = pc') (k : Go p e below P (T.setTop (mkF m pc' Ls (w :: v :: rest)))) : Go p e below P (T.setTop (mkF m pc Ls (v :: w :: rest))) := by
  subst hp; exact Go.on (fun t => XS.swap X.here B.1 rfl (hb B.2.1 hd) rfl hc hc2) k
theorem s_dup_x1 (B : Ctx p s m meth c Z own nm bytes maxL ret) (X : Stand p l e R s m args below meth c T locs cells slots) {v w : Value} (hd : decode bytes pc = .ok (.dup_x1, 1)) (hc : v.category = 1) (hc2 : w.category = 1) (hp : pc + 1 = pc') (k : Go p e below P (T.setTop (mkF m pc' Ls (v :: w :: v :: rest)))) : Go p e below P (T.setTop (mkF m pc Ls (v :: w :: rest))) := by
  subst hp; exact Go.on (fun t => XS.dupX1 X.here B.1 rfl (hb B.2.1 hd) rfl hc hc2) k
theorem s_dup2 (B : Ctx p s m meth c Z own nm bytes maxL ret) (X : Stand p l e R s m args below meth c T locs cells slots) {v w : Value} (hd : decode bytes pc = .ok (.dup2, 1)) (hc : v.category = 1) (hc2 : w.category = 1) (hp : pc + 1 = pc') (k : Go p e below P (T.setTop (mkF m pc' Ls (v :: w :: v :: w :: rest)))) : Go p e below P (T.setTop (mkF m pc Ls (v :: w :: rest))) := by
  subst hp; exact Go.on (fun t => XT.dup2 X.here B.1 rfl (hb B.2.1 hd) rfl hc hc2) k
theorem s_iinc (B : Ctx p s m meth c Z own nm bytes maxL ret) (X : Stand p l e R s m args below meth c T locs cells slots) {k0 : Nat} {i : Int} {x v : Int32} (hd : decode bytes pc = .ok (.iinc k0 i, 3)) (hl : Ls[k0]? = some (.val (.int x))) (hv : x + Int32.ofInt i = v) (hl' : storeLocals Ls k0 (.int v) = some Ls') (hp : pc + 3 = pc') (k : Go p e below P (T.setTop (mkF m pc' Ls' (rest)))) : Go p e below P (T.setTop (mkF m pc Ls (rest))) := by
  subst hp; subst hv; exact Go.on (fun t => XS.iinc X.here B.1 rfl (hb B.2.1 hd) hl hl') k
theorem s_goto (B : Ctx p s m meth c Z own nm bytes maxL ret) (X : Stand p l e R s m args below meth c T locs cells slots)  {o : Int} (hd : decode bytes pc = .ok (.goto o, 3))  (ho : 0 ≤ (pc : Int) + o) (hp : ((pc : Int) + o).toNat = pc') (k : Go p e below P (T.setTop (mkF m pc' Ls (rest)))) : Go p e below P (T.setTop (mkF m pc Ls (rest))) := Go.on (fun t => XS.goto X.here B.1 rfl rfl (hb B.2.1 hd) ho hp) k
theorem s_ifY (B : Ctx p s m meth c Z own nm bytes maxL ret) (X : Stand p l e R s m args below meth c T locs cells slots) {cd : ClassFile.Cond} {x : Int32} {o : Int} (hd : decode bytes pc = .ok (.ifCond cd o, 3)) (hc : ifCond.holds cd x = true) (ho : 0 ≤ (pc : Int) + o) (hp : ((pc : Int) + o).toNat = pc') (k : Go p e below P (T.setTop (mkF m pc' Ls (rest)))) : Go p e below P (T.setTop (mkF m pc Ls (.int x :: rest))) := Go.on (fun t => XS.ifYes X.here B.1 rfl rfl (hb B.2.1 hd) rfl hc ho hp) k
theorem s_ifN (B : Ctx p s m meth c Z own nm bytes maxL ret) (X : Stand p l e R s m args below meth c T locs cells slots) {cd : ClassFile.Cond} {x : Int32} {o : Int} (hd : decode bytes pc = .ok (.ifCond cd o, 3)) (hc : ifCond.holds cd x = false) (hp : pc + 3 = pc') (k : Go p e below P (T.setTop (mkF m pc' Ls (rest)))) : Go p e below P (T.setTop (mkF m pc Ls (.int x :: rest))) := by
  subst hp; exact Go.on (fun t => XS.ifNo X.here B.1 rfl (hb B.2.1 hd) rfl hc) k
theorem s_icmpY (B : Ctx p s m meth c Z own nm bytes maxL ret) (X : Stand p l e R s m args below meth c T locs cells slots) {cd : ClassFile.Cond} {x y : Int32} {o : Int} (hd : decode bytes pc = .ok (.if_icmp cd o, 3)) (hc : if_icmp.holds cd x y = true) (ho : 0 ≤ (pc : Int) + o) (hp : ((pc : Int) + o).toNat = pc') (k : Go p e below P (T.setTop (mkF m pc' Ls (rest)))) : Go p e below P (T.setTop (mkF m pc Ls (.int y :: .int x :: rest))) := Go.on (fun t => XS.icmpYes X.here B.1 rfl rfl (hb B.2.1 hd) rfl hc ho hp) k
theorem s_icmpN (B : Ctx p s m meth c Z own nm bytes maxL ret) (X : Stand p l e R s m args below meth c T locs cells slots) {cd : ClassFile.Cond} {x y : Int32} {o : Int} (hd : decode bytes pc = .ok (.if_icmp cd o, 3)) (hc : if_icmp.holds cd x y = false) (hp : pc + 3 = pc') (k : Go p e below P (T.setTop (mkF m pc' Ls (rest)))) : Go p e below P (T.setTop (mkF m pc Ls (.int y :: .int x :: rest))) := by
  subst hp; exact Go.on (fun t => XS.icmpNo X.here B.1 rfl (hb B.2.1 hd) rfl hc) k
theorem s_ifnullY (B : Ctx p s m meth c Z own nm bytes maxL ret) (X : Stand p l e R s m args below meth c T locs cells slots)  {o : Int} (hd : decode bytes pc = .ok (.ifnull o, 3))  (ho : 0 ≤ (pc : Int) + o) (hp : ((pc : Int) + o).toNat = pc') (k : Go p e below P (T.setTop (mkF m pc' Ls (rest)))) : Go p e below P (T.setTop (mkF m pc Ls (.null :: rest))) := Go.on (fun t => XS.ifnullYes X.here B.1 rfl rfl (hb B.2.1 hd) rfl ho hp) k
theorem s_ifnullN (B : Ctx p s m meth c Z own nm bytes maxL ret) (X : Stand p l e R s m args below meth c T locs cells slots) {b : Addr} {o : Int} (hd : decode bytes pc = .ok (.ifnull o, 3))  (hp : pc + 3 = pc') (k : Go p e below P (T.setTop (mkF m pc' Ls (rest)))) : Go p e below P (T.setTop (mkF m pc Ls (.ref b :: rest))) := by
  subst hp; exact Go.on (fun t => XS.ifnullNo X.here B.1 rfl (hb B.2.1 hd) rfl) k
theorem s_ifnonnullY (B : Ctx p s m meth c Z own nm bytes maxL ret) (X : Stand p l e R s m args below meth c T locs cells slots) {b : Addr} {o : Int} (hd : decode bytes pc = .ok (.ifnonnull o, 3))  (ho : 0 ≤ (pc : Int) + o) (hp : ((pc : Int) + o).toNat = pc') (k : Go p e below P (T.setTop (mkF m pc' Ls (rest)))) : Go p e below P (T.setTop (mkF m pc Ls (.ref b :: rest))) := Go.on (fun t => XS.ifnonnullYes X.here B.1 rfl rfl (hb B.2.1 hd) rfl ho hp) k
theorem s_ifnonnullN (B : Ctx p s m meth c Z own nm bytes maxL ret) (X : Stand p l e R s m args below meth c T locs cells slots)  {o : Int} (hd : decode bytes pc = .ok (.ifnonnull o, 3))  (hp : pc + 3 = pc') (k : Go p e below P (T.setTop (mkF m pc' Ls (rest)))) : Go p e below P (T.setTop (mkF m pc Ls (.null :: rest))) := by
  subst hp; exact Go.on (fun t => XS.ifnonnullNo X.here B.1 rfl (hb B.2.1 hd) rfl) k
theorem b_icmp_eq (B : Ctx p s m meth c Z own nm bytes maxL ret) (X : Stand p l e R s m args below meth c T locs cells slots) {x y : Int32} {o : Int} {py pn : Nat} (hd : decode bytes pc = .ok (.if_icmp .eq o, 3)) (ho : 0 ≤ (pc : Int) + o) (hy : ((pc : Int) + o).toNat = py) (hn : pc + 3 = pn) (k1 : x = y → Go p e below P (T.setTop (mkF m py Ls (rest)))) (k2 : ¬ x = y → Go p e below P (T.setTop (mkF m pn Ls (rest)))) : Go p e below P (T.setTop (mkF m pc Ls (.int y :: .int x :: rest))) := by
  by_cases q : x = y
  · exact s_icmpY B X hd (teq q).1 ho hy (k1 q)
  · exact s_icmpN B X hd (feq q).1 hn (k2 q)
theorem b_if_eq (B : Ctx p s m meth c Z own nm bytes maxL ret) (X : Stand p l e R s m args below meth c T locs cells slots) {x : Int32} {o : Int} {py pn : Nat} (hd : decode bytes pc = .ok (.ifCond .eq o, 3)) (ho : 0 ≤ (pc : Int) + o) (hy : ((pc : Int) + o).toNat = py) (hn : pc + 3 = pn) (k1 : x = 0 → Go p e below P (T.setTop (mkF m py Ls (rest)))) (k2 : ¬ x = 0 → Go p e below P (T.setTop (mkF m pn Ls (rest)))) : Go p e below P (T.setTop (mkF m pc Ls (.int x :: rest))) := by
  by_cases q : x = 0
  · exact s_ifY B X hd ((if0 _ _).trans (teq q).1) ho hy (k1 q)
  · exact s_ifN B X hd ((if0 _ _).trans (feq q).1) hn (k2 q)
theorem b_icmp_ne (B : Ctx p s m meth c Z own nm bytes maxL ret) (X : Stand p l e R s m args below meth c T locs cells slots) {x y : Int32} {o : Int} {py pn : Nat} (hd : decode bytes pc = .ok (.if_icmp .ne o, 3)) (ho : 0 ≤ (pc : Int) + o) (hy : ((pc : Int) + o).toNat = py) (hn : pc + 3 = pn) (k1 : ¬ x = y → Go p e below P (T.setTop (mkF m py Ls (rest)))) (k2 : x = y → Go p e below P (T.setTop (mkF m pn Ls (rest)))) : Go p e below P (T.setTop (mkF m pc Ls (.int y :: .int x :: rest))) := by
  by_cases q : x = y
  · exact s_icmpN B X hd (teq q).2 hn (k2 q)
  · exact s_icmpY B X hd (feq q).2 ho hy (k1 q)
theorem b_if_ne (B : Ctx p s m meth c Z own nm bytes maxL ret) (X : Stand p l e R s m args below meth c T locs cells slots) {x : Int32} {o : Int} {py pn : Nat} (hd : decode bytes pc = .ok (.ifCond .ne o, 3)) (ho : 0 ≤ (pc : Int) + o) (hy : ((pc : Int) + o).toNat = py) (hn : pc + 3 = pn) (k1 : ¬ x = 0 → Go p e below P (T.setTop (mkF m py Ls (rest)))) (k2 : x = 0 → Go p e below P (T.setTop (mkF m pn Ls (rest)))) : Go p e below P (T.setTop (mkF m pc Ls (.int x :: rest))) := by
  by_cases q : x = 0
  · exact s_ifN B X hd ((if0 _ _).trans (teq q).2) hn (k2 q)
  · exact s_ifY B X hd ((if0 _ _).trans (feq q).2) ho hy (k1 q)
theorem b_icmp_lt (B : Ctx p s m meth c Z own nm bytes maxL ret) (X : Stand p l e R s m args below meth c T locs cells slots) {x y : Int32} {o : Int} {py pn : Nat} (hd : decode bytes pc = .ok (.if_icmp .lt o, 3)) (ho : 0 ≤ (pc : Int) + o) (hy : ((pc : Int) + o).toNat = py) (hn : pc + 3 = pn) (k1 : x < y → Go p e below P (T.setTop (mkF m py Ls (rest)))) (k2 : ¬ x < y → Go p e below P (T.setTop (mkF m pn Ls (rest)))) : Go p e below P (T.setTop (mkF m pc Ls (.int y :: .int x :: rest))) := by
  by_cases q : x < y
  · exact s_icmpY B X hd (tlt q).1 ho hy (k1 q)
  · exact s_icmpN B X hd (flt q).1 hn (k2 q)
theorem b_if_lt (B : Ctx p s m meth c Z own nm bytes maxL ret) (X : Stand p l e R s m args below meth c T locs cells slots) {x : Int32} {o : Int} {py pn : Nat} (hd : decode bytes pc = .ok (.ifCond .lt o, 3)) (ho : 0 ≤ (pc : Int) + o) (hy : ((pc : Int) + o).toNat = py) (hn : pc + 3 = pn) (k1 : x < 0 → Go p e below P (T.setTop (mkF m py Ls (rest)))) (k2 : ¬ x < 0 → Go p e below P (T.setTop (mkF m pn Ls (rest)))) : Go p e below P (T.setTop (mkF m pc Ls (.int x :: rest))) := by
  by_cases q : x < 0
  · exact s_ifY B X hd ((if0 _ _).trans (tlt q).1) ho hy (k1 q)
  · exact s_ifN B X hd ((if0 _ _).trans (flt q).1) hn (k2 q)
theorem b_icmp_ge (B : Ctx p s m meth c Z own nm bytes maxL ret) (X : Stand p l e R s m args below meth c T locs cells slots) {x y : Int32} {o : Int} {py pn : Nat} (hd : decode bytes pc = .ok (.if_icmp .ge o, 3)) (ho : 0 ≤ (pc : Int) + o) (hy : ((pc : Int) + o).toNat = py) (hn : pc + 3 = pn) (k1 : ¬ x < y → Go p e below P (T.setTop (mkF m py Ls (rest)))) (k2 : x < y → Go p e below P (T.setTop (mkF m pn Ls (rest)))) : Go p e below P (T.setTop (mkF m pc Ls (.int y :: .int x :: rest))) := by
  by_cases q : x < y
  · exact s_icmpN B X hd (tlt q).2.1 hn (k2 q)
  · exact s_icmpY B X hd (flt q).2.1 ho hy (k1 q)
theorem b_if_ge (B : Ctx p s m meth c Z own nm bytes maxL ret) (X : Stand p l e R s m args below meth c T locs cells slots) {x : Int32} {o : Int} {py pn : Nat} (hd : decode bytes pc = .ok (.ifCond .ge o, 3)) (ho : 0 ≤ (pc : Int) + o) (hy : ((pc : Int) + o).toNat = py) (hn : pc + 3 = pn) (k1 : ¬ x < 0 → Go p e below P (T.setTop (mkF m py Ls (rest)))) (k2 : x < 0 → Go p e below P (T.setTop (mkF m pn Ls (rest)))) : Go p e below P (T.setTop (mkF m pc Ls (.int x :: rest))) := by
  by_cases q : x < 0
  · exact s_ifN B X hd ((if0 _ _).trans (tlt q).2.1) hn (k2 q)
  · exact s_ifY B X hd ((if0 _ _).trans (flt q).2.1) ho hy (k1 q)
theorem b_icmp_gt (B : Ctx p s m meth c Z own nm bytes maxL ret) (X : Stand p l e R s m args below meth c T locs cells slots) {x y : Int32} {o : Int} {py pn : Nat} (hd : decode bytes pc = .ok (.if_icmp .gt o, 3)) (ho : 0 ≤ (pc : Int) + o) (hy : ((pc : Int) + o).toNat = py) (hn : pc + 3 = pn) (k1 : y < x → Go p e below P (T.setTop (mkF m py Ls (rest)))) (k2 : ¬ y < x → Go p e below P (T.setTop (mkF m pn Ls (rest)))) : Go p e below P (T.setTop (mkF m pc Ls (.int y :: .int x :: rest))) := by
  by_cases q : y < x
  · exact s_icmpY B X hd (tlt q).2.2.1 ho hy (k1 q)
  · exact s_icmpN B X hd (flt q).2.2.1 hn (k2 q)
theorem b_if_gt (B : Ctx p s m meth c Z own nm bytes maxL ret) (X : Stand p l e R s m args below meth c T locs cells slots) {x : Int32} {o : Int} {py pn : Nat} (hd : decode bytes pc = .ok (.ifCond .gt o, 3)) (ho : 0 ≤ (pc : Int) + o) (hy : ((pc : Int) + o).toNat = py) (hn : pc + 3 = pn) (k1 : 0 < x → Go p e below P (T.setTop (mkF m py Ls (rest)))) (k2 : ¬ 0 < x → Go p e below P (T.setTop (mkF m pn Ls (rest)))) : Go p e below P (T.setTop (mkF m pc Ls (.int x :: rest))) := by
  by_cases q : 0 < x
  · exact s_ifY B X hd ((if0 _ _).trans (tlt q).2.2.1) ho hy (k1 q)
  · exact s_ifN B X hd ((if0 _ _).trans (flt q).2.2.1) hn (k2 q)
theorem b_icmp_le (B : Ctx p s m meth c Z own nm bytes maxL ret) (X : Stand p l e R s m args below meth c T locs cells slots) {x y : Int32} {o : Int} {py pn : Nat} (hd : decode bytes pc = .ok (.if_icmp .le o, 3)) (ho : 0 ≤ (pc : Int) + o) (hy : ((pc : Int) + o).toNat = py) (hn : pc + 3 = pn) (k1 : ¬ y < x → Go p e below P (T.setTop (mkF m py Ls (rest)))) (k2 : y < x → Go p e below P (T.setTop (mkF m pn Ls (rest)))) : Go p e below P (T.setTop (mkF m pc Ls (.int y :: .int x :: rest))) := by
  by_cases q : y < x
  · exact s_icmpN B X hd (tlt q).2.2.2 hn (k2 q)
  · exact s_icmpY B X hd (flt q).2.2.2 ho hy (k1 q)
theorem b_if_le (B : Ctx p s m meth c Z own nm bytes maxL ret) (X : Stand p l e R s m args below meth c T locs cells slots) {x : Int32} {o : Int} {py pn : Nat} (hd : decode bytes pc = .ok (.ifCond .le o, 3)) (ho : 0 ≤ (pc : Int) + o) (hy : ((pc : Int) + o).toNat = py) (hn : pc + 3 = pn) (k1 : ¬ 0 < x → Go p e below P (T.setTop (mkF m py Ls (rest)))) (k2 : 0 < x → Go p e below P (T.setTop (mkF m pn Ls (rest)))) : Go p e below P (T.setTop (mkF m pc Ls (.int x :: rest))) := by
  by_cases q : 0 < x
  · exact s_ifN B X hd ((if0 _ _).trans (tlt q).2.2.2) hn (k2 q)
  · exact s_ifY B X hd ((if0 _ _).trans (flt q).2.2.2) ho hy (k1 q)
theorem b_lcmp_eq (B : Ctx p s m meth c Z own nm bytes maxL ret) (X : Stand p l e R s m args below meth c T locs cells slots) {x y : Int64} {pc0 : Nat} {o : Int} {py pn : Nat} (hd0 : decode bytes pc0 = .ok (.lcmp, 1)) (hp0 : pc0 + 1 = pc) (hd : decode bytes pc = .ok (.ifCond .eq o, 3)) (ho : 0 ≤ (pc : Int) + o) (hy : ((pc : Int) + o).toNat = py) (hn : pc + 3 = pn) (k1 : x = y → Go p e below P (T.setTop (mkF m py Ls (rest)))) (k2 : ¬ x = y → Go p e below P (T.setTop (mkF m pn Ls (rest)))) : Go p e below P (T.setTop (mkF m pc0 Ls (.long y :: .long x :: rest))) := by
  by_cases q : x = y
  · exact s_lcmp B X hd0 hp0 (s_ifY B X hd ((if0 _ _).trans (teq ((lw_eq x y).mpr q)).1) ho hy (k1 q))
  · exact s_lcmp B X hd0 hp0 (s_ifN B X hd ((if0 _ _).trans (feq (fun z => q ((lw_eq x y).mp z))).1) hn (k2 q))
theorem b_lcmp_ne (B : Ctx p s m meth c Z own nm bytes maxL ret) (X : Stand p l e R s m args below meth c T locs cells slots) {x y : Int64} {pc0 : Nat} {o : Int} {py pn : Nat} (hd0 : decode bytes pc0 = .ok (.lcmp, 1)) (hp0 : pc0 + 1 = pc) (hd : decode bytes pc = .ok (.ifCond .ne o, 3)) (ho : 0 ≤ (pc : Int) + o) (hy : ((pc : Int) + o).toNat = py) (hn : pc + 3 = pn) (k1 : ¬ x = y → Go p e below P (T.setTop (mkF m py Ls (rest)))) (k2 : x = y → Go p e below P (T.setTop (mkF m pn Ls (rest)))) : Go p e below P (T.setTop (mkF m pc0 Ls (.long y :: .long x :: rest))) := by
  by_cases q : x = y
  · exact s_lcmp B X hd0 hp0 (s_ifN B X hd ((if0 _ _).trans (teq ((lw_eq x y).mpr q)).2) hn (k2 q))
  · exact s_lcmp B X hd0 hp0 (s_ifY B X hd ((if0 _ _).trans (feq (fun z => q ((lw_eq x y).mp z))).2) ho hy (k1 q))
theorem b_lcmp_lt (B : Ctx p s m meth c Z own nm bytes maxL ret) (X : Stand p l e R s m args below meth c T locs cells slots) {x y : Int64} {pc0 : Nat} {o : Int} {py pn : Nat} (hd0 : decode bytes pc0 = .ok (.lcmp, 1)) (hp0 : pc0 + 1 = pc) (hd : decode bytes pc = .ok (.ifCond .lt o, 3)) (ho : 0 ≤ (pc : Int) + o) (hy : ((pc : Int) + o).toNat = py) (hn : pc + 3 = pn) (k1 : x < y → Go p e below P (T.setTop (mkF m py Ls (rest)))) (k2 : ¬ x < y → Go p e below P (T.setTop (mkF m pn Ls (rest)))) : Go p e below P (T.setTop (mkF m pc0 Ls (.long y :: .long x :: rest))) := by
  by_cases q : x < y
  · exact s_lcmp B X hd0 hp0 (s_ifY B X hd ((if0 _ _).trans (tlt ((lw_lt x y).mpr q)).1) ho hy (k1 q))
  · exact s_lcmp B X hd0 hp0 (s_ifN B X hd ((if0 _ _).trans (flt (fun z => q ((lw_lt x y).mp z))).1) hn (k2 q))
theorem b_lcmp_ge (B : Ctx p s m meth c Z own nm bytes maxL ret) (X : Stand p l e R s m args below meth c T locs cells slots) {x y : Int64} {pc0 : Nat} {o : Int} {py pn : Nat} (hd0 : decode bytes pc0 = .ok (.lcmp, 1)) (hp0 : pc0 + 1 = pc) (hd : decode bytes pc = .ok (.ifCond .ge o, 3)) (ho : 0 ≤ (pc : Int) + o) (hy : ((pc : Int) + o).toNat = py) (hn : pc + 3 = pn) (k1 : ¬ x < y → Go p e below P (T.setTop (mkF m py Ls (rest)))) (k2 : x < y → Go p e below P (T.setTop (mkF m pn Ls (rest)))) : Go p e below P (T.setTop (mkF m pc0 Ls (.long y :: .long x :: rest))) := by
  by_cases q : x < y
  · exact s_lcmp B X hd0 hp0 (s_ifN B X hd ((if0 _ _).trans (tlt ((lw_lt x y).mpr q)).2.1) hn (k2 q))
  · exact s_lcmp B X hd0 hp0 (s_ifY B X hd ((if0 _ _).trans (flt (fun z => q ((lw_lt x y).mp z))).2.1) ho hy (k1 q))
theorem b_lcmp_gt (B : Ctx p s m meth c Z own nm bytes maxL ret) (X : Stand p l e R s m args below meth c T locs cells slots) {x y : Int64} {pc0 : Nat} {o : Int} {py pn : Nat} (hd0 : decode bytes pc0 = .ok (.lcmp, 1)) (hp0 : pc0 + 1 = pc) (hd : decode bytes pc = .ok (.ifCond .gt o, 3)) (ho : 0 ≤ (pc : Int) + o) (hy : ((pc : Int) + o).toNat = py) (hn : pc + 3 = pn) (k1 : y < x → Go p e below P (T.setTop (mkF m py Ls (rest)))) (k2 : ¬ y < x → Go p e below P (T.setTop (mkF m pn Ls (rest)))) : Go p e below P (T.setTop (mkF m pc0 Ls (.long y :: .long x :: rest))) := by
  by_cases q : y < x
  · exact s_lcmp B X hd0 hp0 (s_ifY B X hd ((if0 _ _).trans (tlt ((lw_gt x y).mpr q)).2.2.1) ho hy (k1 q))
  · exact s_lcmp B X hd0 hp0 (s_ifN B X hd ((if0 _ _).trans (flt (fun z => q ((lw_gt x y).mp z))).2.2.1) hn (k2 q))
theorem b_lcmp_le (B : Ctx p s m meth c Z own nm bytes maxL ret) (X : Stand p l e R s m args below meth c T locs cells slots) {x y : Int64} {pc0 : Nat} {o : Int} {py pn : Nat} (hd0 : decode bytes pc0 = .ok (.lcmp, 1)) (hp0 : pc0 + 1 = pc) (hd : decode bytes pc = .ok (.ifCond .le o, 3)) (ho : 0 ≤ (pc : Int) + o) (hy : ((pc : Int) + o).toNat = py) (hn : pc + 3 = pn) (k1 : ¬ y < x → Go p e below P (T.setTop (mkF m py Ls (rest)))) (k2 : y < x → Go p e below P (T.setTop (mkF m pn Ls (rest)))) : Go p e below P (T.setTop (mkF m pc0 Ls (.long y :: .long x :: rest))) := by
  by_cases q : y < x
  · exact s_lcmp B X hd0 hp0 (s_ifN B X hd ((if0 _ _).trans (tlt ((lw_gt x y).mpr q)).2.2.2) hn (k2 q))
  · exact s_lcmp B X hd0 hp0 (s_ifY B X hd ((if0 _ _).trans (flt (fun z => q ((lw_gt x y).mp z))).2.2.2) ho hy (k1 q))
theorem b_acmp_eq (B : Ctx p s m meth c Z own nm bytes maxL ret) (X : Stand p l e R s m args below meth c T locs cells slots) {a b : Addr} {o : Int} {py pn : Nat} (hd : decode bytes pc = .ok (.if_acmp .eq o, 3)) (ho : 0 ≤ (pc : Int) + o) (hy : ((pc : Int) + o).toNat = py) (hn : pc + 3 = pn) (k1 : a = b → Go p e below P (T.setTop (mkF m py Ls (rest)))) (k2 : ¬ a = b → Go p e below P (T.setTop (mkF m pn Ls (rest)))) : Go p e below P (T.setTop (mkF m pc Ls (.ref b :: .ref a :: rest))) := by
  by_cases q : a = b
  · exact Go.on (fun t => Jvm.RoadKit.acmp X B.1 rfl rfl rfl (same := true) rfl (hb B.2.1 hd) rfl (decide_eq_true (congrArg Value.ref q)) ho (by simp [acV, hy])) (k1 q)
  · exact Go.on (fun t => Jvm.RoadKit.acmp X B.1 rfl rfl rfl (same := false) rfl (hb B.2.1 hd) rfl (decide_eq_false fun z => q (Value.ref.inj z)) ho (by simp [acV, hn])) (k2 q)
theorem b_acmp_ne (B : Ctx p s m meth c Z own nm bytes maxL ret) (X : Stand p l e R s m args below meth c T locs cells slots) {a b : Addr} {o : Int} {py pn : Nat} (hd : decode bytes pc = .ok (.if_acmp .ne o, 3)) (ho : 0 ≤ (pc : Int) + o) (hy : ((pc : Int) + o).toNat = py) (hn : pc + 3 = pn) (k1 : ¬ a = b → Go p e below P (T.setTop (mkF m py Ls (rest)))) (k2 : a = b → Go p e below P (T.setTop (mkF m pn Ls (rest)))) : Go p e below P (T.setTop (mkF m pc Ls (.ref b :: .ref a :: rest))) := by
  by_cases q : a = b
  · exact Go.on (fun t => Jvm.RoadKit.acmp X B.1 rfl rfl rfl (same := true) rfl (hb B.2.1 hd) rfl (decide_eq_true (congrArg Value.ref q)) ho (by simp [acV, hn])) (k2 q)
  · exact Go.on (fun t => Jvm.RoadKit.acmp X B.1 rfl rfl rfl (same := false) rfl (hb B.2.1 hd) rfl (decide_eq_false fun z => q (Value.ref.inj z)) ho (by simp [acV, hy])) (k1 q)
theorem b_ifnull (B : Ctx p s m meth c Z own nm bytes maxL ret) (X : Stand p l e R s m args below meth c T locs cells slots) {v : Value} {o : Int} {py pn : Nat} (hv : v.isRef = true) (hd : decode bytes pc = .ok (.ifnull o, 3)) (ho : 0 ≤ (pc : Int) + o) (hy : ((pc : Int) + o).toNat = py) (hn : pc + 3 = pn) (k1 : v = .null → Go p e below P (T.setTop (mkF m py Ls (rest)))) (k2 : ¬ v = .null → Go p e below P (T.setTop (mkF m pn Ls (rest)))) : Go p e below P (T.setTop (mkF m pc Ls (v :: rest))) := by
  rcases ref_cases hv with rfl | ⟨a, rfl⟩
  · exact s_ifnullY B X hd ho hy (k1 rfl)
  · exact s_ifnullN B X hd hn (k2 nofun)
theorem b_ifnonnull (B : Ctx p s m meth c Z own nm bytes maxL ret) (X : Stand p l e R s m args below meth c T locs cells slots) {v : Value} {o : Int} {py pn : Nat} (hv : v.isRef = true) (hd : decode bytes pc = .ok (.ifnonnull o, 3)) (ho : 0 ≤ (pc : Int) + o) (hy : ((pc : Int) + o).toNat = py) (hn : pc + 3 = pn) (k1 : ¬ v = .null → Go p e below P (T.setTop (mkF m py Ls (rest)))) (k2 : v = .null → Go p e below P (T.setTop (mkF m pn Ls (rest)))) : Go p e below P (T.setTop (mkF m pc Ls (v :: rest))) := by
  rcases ref_cases hv with rfl | ⟨a, rfl⟩
  · exact s_ifnonnullN B X hd hn (k2 rfl)
  · exact s_ifnonnullY B X hd ho hy (k1 nofun)
theorem s_ldc (B : Ctx p s m meth c Z own nm bytes maxL ret) (X : Stand p l e R s m args below meth c T locs cells slots) {i : Nat} {v : Int32} (w : (Jvm.Cond.constant own i v).before a0 Z = true) (hd : decode bytes pc = .ok (.ldc i, 2)) (hp : pc + 2 = pc') (k : Go p e below P (T.setTop (mkF m pc' Ls (.int v :: rest)))) : Go p e below P (T.setTop (mkF m pc Ls (rest))) := by
  subst hp; exact Go.on (fun t => X.ldcI B.1 B.2.2.2.1 (mv B.2.2.2.2.2.2.2 w) rfl (hb B.2.1 hd)) k
theorem s_ldc2 (B : Ctx p s m meth c Z own nm bytes maxL ret) (X : Stand p l e R s m args below meth c T locs cells slots) {i : Nat} {v : Int64} (w : (Jvm.Cond.constantLong own i v).before a0 Z = true) (hd : decode bytes pc = .ok (.ldc2_w i, 3)) (hp : pc + 3 = pc') (k : Go p e below P (T.setTop (mkF m pc' Ls (.long v :: rest)))) : Go p e below P (T.setTop (mkF m pc Ls (rest))) := by
  subst hp; exact Go.on (fun t => X.ldc2J B.1 B.2.2.2.1 (mv B.2.2.2.2.2.2.2 w) rfl (hb B.2.1 hd)) k
theorem s_getS (B : Ctx p s m meth c Z own nm bytes maxL ret) (X : Stand p l e R s m args below meth c T locs cells slots) {i : Nat} {R0 O n d : String} {v : Value} (eT : T.heap = h) (w : (Jvm.Cond.fieldLink own i R0 n d).before a0 Z = true) (via : Via Z R0 O n d) (F : Sta Z h O n d v) (hd : decode bytes pc = .ok (.getstatic i, 3)) (hp : pc + 3 = pc') (k : ∀ T', Stand p l e R s m args below meth c T' locs cells slots → T'.heap = h → Go p e below P (T'.setTop (mkF m pc' Ls (v :: rest)))) : Go p e below P (T.setTop (mkF m pc Ls (rest))) := by
  subst hp
  obtain ⟨T', X', e', st⟩ := getS X B.1 B.2.2.2.2.2.2.2 (host := "") B.2.2.2.1 w via eT F (g := mkF m pc Ls rest) rfl (hb B.2.1 hd)
  exact Go.on st (k T' X' e')
theorem s_getF (B : Ctx p s m meth c Z own nm bytes maxL ret) (X : Stand p l e R s m args below meth c T locs cells slots) {i : Nat} {R0 O n d host : String} {a : Addr} {v : Value} (eT : T.heap = h) (w : (Jvm.Cond.fieldLink own i R0 n d).before a0 Z = true ∨ (Jvm.Cond.fieldLinkNest own i R0 n d host).before a0 Z = true) (via : Via Z R0 O n d) (F : Fld Z h a O n d v) (hd : decode bytes pc = .ok (.getfield i, 3)) (hp : pc + 3 = pc') (k : ∀ T', Stand p l e R s m args below meth c T' locs cells slots → T'.heap = h → Go p e below P (T'.setTop (mkF m pc' Ls (v :: rest)))) : Go p e below P (T.setTop (mkF m pc Ls (.ref a :: rest))) := by
  subst hp
  obtain ⟨T', X', e', st⟩ := getF X B.1 B.2.2.2.2.2.2.2 B.2.2.2.1 w via eT F (g := mkF m pc Ls (.ref a :: rest)) rfl rfl (hb B.2.1 hd)
  exact Go.on st (k T' X' e')
theorem r_nar (B : Ctx p s m meth c Z own nm bytes maxL ret) (X : Stand p l e R s m args below meth c T locs cells slots) {Q : Option Value → Heap → List Loc → Prop} {kc kn : Nat} {z : Int32} {t : FieldType} (ht : t = .boolean ∨ t = .byte ∨ t = .char ∨ t = .short) (hr : ret = some t) (hd : decode bytes pc = .ok (.ireturn, 1)) (hq : Q (some (.int (nar t z))) T.heap locs) (hc : cells ≤ kc) (hs : slots ≤ kn) : Go p e below (OEnds s Q kc kn) (T.setTop (mkF m pc Ls (.int z :: rest))) := by
  obtain ⟨fs, hl, hrun, hended, hW, hsame⟩ := X.leave (v := (some (.int (nar t z)))) (fun h => by rw [B.2.2.2.2.2.1, hr] at h; first | rfl | cases h) B.2.2.2.2.2.2.1
  exact ⟨_, _, retN X B.1 (by rw [B.2.2.2.2.2.1, hr]) ht (hb B.2.1 hd) hl, hrun, hended, _, _, rfl, hq, ⟨_, rfl⟩, hW, hsame.mono hc hs⟩
theorem r_int (B : Ctx p s m meth c Z own nm bytes maxL ret) (X : Stand p l e R s m args below meth c T locs cells slots) {Q : Option Value → Heap → List Loc → Prop} {kc kn : Nat} {z : Int32} (hr : ret = some .int) (hd : decode bytes pc = .ok (.ireturn, 1)) (hq : Q (some (.int z)) T.heap locs) (hc : cells ≤ kc) (hs : slots ≤ kn) : Go p e below (OEnds s Q kc kn) (T.setTop (mkF m pc Ls (.int z :: rest))) := by
  obtain ⟨fs, hl, hrun, hended, hW, hsame⟩ := X.leave (v := (some (.int z))) (fun h => by rw [B.2.2.2.2.2.1, hr] at h; first | rfl | cases h) B.2.2.2.2.2.2.1
  exact ⟨_, _, retOut X B.1 (t := .int) (by rw [B.2.2.2.2.2.1, hr]) rfl (Or.inl ⟨rfl, Or.inl rfl, _, rfl⟩) (hb B.2.1 hd) hl, hrun, hended, _, _, rfl, hq, ⟨_, rfl⟩, hW, hsame.mono hc hs⟩
theorem r_long (B : Ctx p s m meth c Z own nm bytes maxL ret) (X : Stand p l e R s m args below meth c T locs cells slots) {Q : Option Value → Heap → List Loc → Prop} {kc kn : Nat} {z : Int64} (hr : ret = some .long) (hd : decode bytes pc = .ok (.lreturn, 1)) (hq : Q (some (.long z)) T.heap locs) (hc : cells ≤ kc) (hs : slots ≤ kn) : Go p e below (OEnds s Q kc kn) (T.setTop (mkF m pc Ls (.long z :: rest))) := by
  obtain ⟨fs, hl, hrun, hended, hW, hsame⟩ := X.leave (v := (some (.long z))) (fun h => by rw [B.2.2.2.2.2.1, hr] at h; first | rfl | cases h) B.2.2.2.2.2.2.1
  exact ⟨_, _, retOut X B.1 (t := .long) (by rw [B.2.2.2.2.2.1, hr]) rfl (Or.inr (Or.inl ⟨rfl, rfl, _, rfl⟩)) (hb B.2.1 hd) hl, hrun, hended, _, _, rfl, hq, ⟨_, rfl⟩, hW, hsame.mono hc hs⟩
theorem r_ref (B : Ctx p s m meth c Z own nm bytes maxL ret) (X : Stand p l e R s m args below meth c T locs cells slots) {Q : Option Value → Heap → List Loc → Prop} {kc kn : Nat} {v : Value} {t : FieldType} (ht : t.isReference = true) (hn : narrow t v = v) (hv : v.isRef = true) (hr : ret = some t) (hd : decode bytes pc = .ok (.areturn, 1)) (hq : Q (some v) T.heap locs) (hc : cells ≤ kc) (hs : slots ≤ kn) : Go p e below (OEnds s Q kc kn) (T.setTop (mkF m pc Ls (v :: rest))) := by
  obtain ⟨fs, hl, hrun, hended, hW, hsame⟩ := X.leave (v := (some v)) (fun h => by rw [B.2.2.2.2.2.1, hr] at h; first | rfl | cases h) B.2.2.2.2.2.2.1
  exact ⟨_, _, retOut X B.1 (t := t) (by rw [B.2.2.2.2.2.1, hr]) hn (Or.inr (Or.inr (Or.inr (Or.inr ⟨rfl, ht, hv⟩)))) (hb B.2.1 hd) hl, hrun, hended, _, _, rfl, hq, ⟨_, rfl⟩, hW, hsame.mono hc hs⟩
theorem r_void (B : Ctx p s m meth c Z own nm bytes maxL ret) (X : Stand p l e R s m args below meth c T locs cells slots) {Q : Option Value → Heap → List Loc → Prop} {kc kn : Nat} (hr : ret = none) (hd : decode bytes pc = .ok (.return_, 1)) (hq : Q none T.heap locs) (hc : cells ≤ kc) (hs : slots ≤ kn) : Go p e below (OEnds s Q kc kn) (T.setTop (mkF m pc Ls [])) := by
  obtain ⟨fs, hl, hrun, hended, hW, hsame⟩ := X.leave (v := none) (fun _ => rfl) B.2.2.2.2.2.2.1
  exact ⟨_, _, X.returnOut B.1 (by rw [B.2.2.2.2.2.1, hr]) (hb B.2.1 hd) hl, hrun, hended, _, _, rfl, hq, ⟨_, rfl⟩, hW, hsame.mono hc hs⟩
theorem c_virtual (B : Ctx p s m meth c Z own nm bytes maxL ret) (X : Stand p l e R s m args below meth c T locs cells slots) {y : MethodName} {bs : ByteArray} {mx : Nat} {rt : Option FieldType} {rm : Room} {i W : Nat} {argsL under : List Value} {Q : Option Value → Heap → List Loc → Prop} {st : List Value} {C : String} {b : Addr} (eT : T.heap = h) (w1 : (Jvm.Cond.methodLink own i y).before a0 Z = true) (w2 : (Jvm.Cond.declares y).before a0 Z = true) (w3 : (Jvm.Cond.selects C y y).before a0 Z = true) (w4 : (Jvm.Cond.instanceMethod y).before a0 Z = true) (wc : (Jvm.Cond.code y bs mx rt).before a0 Z = true) (wz : (Jvm.Cond.initialized y.cls).before a0 Z = true) (hy : y.cls ≠ "java/lang/invoke/MethodHandle" ∧ y.cls ≠ "java/lang/invoke/VarHandle") (hM : OMeets l Z y bs mx rt [] rm (.ref b :: argsL).toArray h Q) (E : Exa Z h b C) (hlen : ∀ sig, parseMethodDescriptor y.desc = some sig → argsL.length = sig.parameters.length) (hst : st = argsL.reverse ++ .ref b :: under) (hW : (under.map fun v => v.category).sum = W) (hf : rm.frames + 1 ≤ R.frames) (hlo : W + (mx + 11) + rm.locals ≤ R.locals) (hce : cells + rm.cells ≤ R.cells) (hsl : slots + rm.slots ≤ R.slots) (hsz : Ls.size = maxL) (hd : decode bytes pc = .ok (.invokevirtual i, 3)) (hp : pc + 3 = pc') (k : ∀ v T' L, Stand p l e R s m args below meth c T' (locs ++ L) (cells + rm.cells) (slots + rm.slots) → Q v T'.heap L → Go p e below P (T'.setTop (mkF m pc' Ls (v.toList ++ under)))) : Go p e below P (T.setTop (mkF m pc Ls st)) := by
  subst hp hst
  obtain ⟨cq, kq, qa, qb, qc⟩ := isOf B.2.2.2.2.2.2.2 eT E
  obtain ⟨v, _, ⟨T', L', k', n'⟩, -, X', ⟨Lc, hQ, l', y', z'⟩, st'⟩ := X.virtualBack B.1 (y := y) B.2.2.2.1 (mvT B.2.2.2.2.2.2.2 w1) (mvT B.2.2.2.2.2.2.2 w2) (notFace_of_selects (args := #[]) (mvT B.2.2.2.2.2.2.2 w3)) (mvT B.2.2.2.2.2.2.2 w3) (mvT B.2.2.2.2.2.2.2 w4) hy (z := y) (backOf (W := W) hM B.2.2.2.2.2.2.2 wc wz hf hlo) qa qc (g := mkF m pc Ls (argsL.reverse ++ .ref b :: under)) rfl (by rw [B.2.2.1]; exact hsz) (Steps.refl _) (argsL := argsL) (rest := under) hlen rfl (by show 2 * 0 + _ ≤ _; rw [Nat.mul_zero, Nat.zero_add]; exact Nat.le_of_eq hW) (hb B.2.1 hd) (fun _ _ => ⟨rfl, eT, hce, hsl⟩)
  dsimp only [Pt.U, Pt.locs, Pt.cells, Pt.slots] at X' l' y' z' st' hQ
  subst l' y' z'
  exact Go.on (fun t q => st'.trans q) (k v T' Lc X' hQ)
theorem c_static (B : Ctx p s m meth c Z own nm bytes maxL ret) (X : Stand p l e R s m args below meth c T locs cells slots) {y : MethodName} {bs : ByteArray} {mx : Nat} {rt : Option FieldType} {rm : Room} {i W : Nat} {argsL under : List Value} {Q : Option Value → Heap → List Loc → Prop} {st : List Value} (eT : T.heap = h) (w1 : (Jvm.Cond.methodLink own i y).before a0 Z = true) (w2 : (Jvm.Cond.static y).before a0 Z = true) (wc : (Jvm.Cond.code y bs mx rt).before a0 Z = true) (wz : (Jvm.Cond.initialized y.cls).before a0 Z = true) (hy : y.cls ≠ "java/lang/invoke/MethodHandle" ∧ y.cls ≠ "java/lang/invoke/VarHandle") (hM : OMeets l Z y bs mx rt [] rm argsL.toArray h Q) (hlen : ∀ sig, parseMethodDescriptor y.desc = some sig → argsL.length = sig.parameters.length) (hst : st = argsL.reverse ++ under) (hW : (under.map fun v => v.category).sum = W) (hf : rm.frames + 1 ≤ R.frames) (hlo : W + (mx + 11) + rm.locals ≤ R.locals) (hce : cells + rm.cells ≤ R.cells) (hsl : slots + rm.slots ≤ R.slots) (hsz : Ls.size = maxL) (hd : decode bytes pc = .ok (.invokestatic i, 3)) (hp : pc + 3 = pc') (k : ∀ v T' L, Stand p l e R s m args below meth c T' (locs ++ L) (cells + rm.cells) (slots + rm.slots) → Q v T'.heap L → Go p e below P (T'.setTop (mkF m pc' Ls (v.toList ++ under)))) : Go p e below P (T.setTop (mkF m pc Ls st)) := by
  subst hp hst
  obtain ⟨v, _, ⟨T', L', k', n'⟩, -, X', ⟨Lc, hQ, l', y', z'⟩, st'⟩ := Jvm.LawKit.callS X B.1 (y := y) B.2.2.2.1 (mvT B.2.2.2.2.2.2.2 w1) (mvT B.2.2.2.2.2.2.2 w2) (mvT B.2.2.2.2.2.2.2 wz) (mvT B.2.2.2.2.2.2.2 wc) hy (backOf (W := W) hM B.2.2.2.2.2.2.2 wc wz hf hlo) (g := mkF m pc Ls (argsL.reverse ++ under)) rfl (by rw [B.2.2.1]; exact hsz) (argsL := argsL) (rest := under) hlen rfl (by show 2 * 0 + _ ≤ _; rw [Nat.mul_zero, Nat.zero_add]; exact Nat.le_of_eq hW) (hb B.2.1 hd) (fun _ _ => ⟨rfl, eT, hce, hsl⟩)
  dsimp only [Pt.U, Pt.locs, Pt.cells, Pt.slots] at X' l' y' z' st' hQ
  subst l' y' z'
  exact Go.on st' (k v T' Lc X' hQ)
theorem c_init (B : Ctx p s m meth c Z own nm bytes maxL ret) (X : Stand p l e R s m args below meth c T locs cells slots) {y : MethodName} {bs : ByteArray} {mx : Nat} {rm : Room} {i W : Nat} {argsL under : List Value} {Q : Option Value → Heap → List Loc → Prop} {st : List Value} {b : Addr} (eT : T.heap = h) (hy1 : y.name = "<init>") (w1 : (Jvm.Cond.methodLink own i y).before a0 Z = true) (w2 : (Jvm.Cond.instanceMethod y).before a0 Z = true) (wc : (Jvm.Cond.code y bs mx none).before a0 Z = true) (wz : (Jvm.Cond.initialized y.cls).before a0 Z = true) (hy : y.cls ≠ "java/lang/invoke/MethodHandle" ∧ y.cls ≠ "java/lang/invoke/VarHandle") (hM : OMeets l Z y bs mx none [] rm (.ref b :: argsL).toArray h Q) (hlen : ∀ sig, parseMethodDescriptor y.desc = some sig → argsL.length = sig.parameters.length) (hst : st = argsL.reverse ++ .ref b :: under) (hW : (under.map fun v => v.category).sum = W) (hf : rm.frames + 1 ≤ R.frames) (hlo : W + (mx + 11) + rm.locals ≤ R.locals) (hce : cells + rm.cells ≤ R.cells) (hsl : slots + rm.slots ≤ R.slots) (hsz : Ls.size = maxL) (hd : decode bytes pc = .ok (.invokespecial i, 3)) (hp : pc + 3 = pc') (k : ∀ v T' L, Stand p l e R s m args below meth c T' (locs ++ L) (cells + rm.cells) (slots + rm.slots) → Q v T'.heap L → Go p e below P (T'.setTop (mkF m pc' Ls (v.toList ++ under)))) : Go p e below P (T.setTop (mkF m pc Ls st)) := by
  subst hp hst
  obtain ⟨v, _, ⟨T', L', k', n'⟩, -, X', ⟨Lc, hQ, l', y', z'⟩, st'⟩ := X.specialBack B.1 (y := y) hy1 B.2.2.2.1 (mvT B.2.2.2.2.2.2.2 w1) (mvT B.2.2.2.2.2.2.2 w2) (mvT B.2.2.2.2.2.2.2 wc) hy (backOf (W := W) hM B.2.2.2.2.2.2.2 wc wz hf hlo) (g := mkF m pc Ls (argsL.reverse ++ .ref b :: under)) rfl (by rw [B.2.2.1]; exact hsz) (Steps.refl _) (a := b) (argsL := argsL) (rest := under) hlen rfl (by show 2 * 0 + _ ≤ _; rw [Nat.mul_zero, Nat.zero_add]; exact Nat.le_of_eq hW) (hb B.2.1 hd) (fun _ _ => ⟨rfl, eT, hce, hsl⟩)
  dsimp only [Pt.U, Pt.locs, Pt.cells, Pt.slots] at X' l' y' z' st' hQ
  subst l' y' z'
  exact Go.on (fun t q => st'.trans q) (k v T' Lc X' hQ)
theorem p_virtual (B : Ctx p s m meth c Z own nm bytes maxL ret) (X : Stand p l e R s m args below meth c T locs cells slots) {y : MethodName} {bs : ByteArray} {mx : Nat} {rt : Option FieldType} {rm : Room} {i W : Nat} {argsL under : List Value} {st : List Value} {C : String} {b : Addr} {r : Option Value} (eT : T.heap = h) (w1 : (Jvm.Cond.methodLink own i y).before a0 Z = true) (w2 : (Jvm.Cond.declares y).before a0 Z = true) (w3 : (Jvm.Cond.selects C y y).before a0 Z = true) (w4 : (Jvm.Cond.instanceMethod y).before a0 Z = true) (wc : (Jvm.Cond.code y bs mx rt).before a0 Z = true) (wz : (Jvm.Cond.initialized y.cls).before a0 Z = true) (hy : y.cls ≠ "java/lang/invoke/MethodHandle" ∧ y.cls ≠ "java/lang/invoke/VarHandle") (hM : OMeets l Z y bs mx rt [] rm (.ref b :: argsL).toArray h (PureQ r h)) (E : Exa Z h b C) (hlen : ∀ sig, parseMethodDescriptor y.desc = some sig → argsL.length = sig.parameters.length) (hst : st = argsL.reverse ++ .ref b :: under) (hW : (under.map fun v => v.category).sum = W) (hf : rm.frames + 1 ≤ R.frames) (hlo : W + (mx + 11) + rm.locals ≤ R.locals) (hce : rm.cells = 0) (hsl : rm.slots = 0) (hc0 : cells ≤ R.cells) (hs0 : slots ≤ R.slots) (hsz : Ls.size = maxL) (hd : decode bytes pc = .ok (.invokevirtual i, 3)) (hp : pc + 3 = pc') (k : ∀ T', Stand p l e R s m args below meth c T' locs cells slots → T'.heap = h → Go p e below P (T'.setTop (mkF m pc' Ls (r.toList ++ under)))) : Go p e below P (T.setTop (mkF m pc Ls st)) := by
  refine c_virtual B X eT w1 w2 w3 w4 wc wz hy hM E hlen hst hW hf hlo (by omega) (by omega) hsz hd hp ?_
  intro v T' L X' hQ
  obtain ⟨rfl, rfl, e'⟩ := hQ
  rw [hce, hsl, List.append_nil] at X'
  exact k T' X' e'
theorem p_static (B : Ctx p s m meth c Z own nm bytes maxL ret) (X : Stand p l e R s m args below meth c T locs cells slots) {y : MethodName} {bs : ByteArray} {mx : Nat} {rt : Option FieldType} {rm : Room} {i W : Nat} {argsL under : List Value} {st : List Value}  {r : Option Value} (eT : T.heap = h) (w1 : (Jvm.Cond.methodLink own i y).before a0 Z = true) (w2 : (Jvm.Cond.static y).before a0 Z = true) (wc : (Jvm.Cond.code y bs mx rt).before a0 Z = true) (wz : (Jvm.Cond.initialized y.cls).before a0 Z = true) (hy : y.cls ≠ "java/lang/invoke/MethodHandle" ∧ y.cls ≠ "java/lang/invoke/VarHandle") (hM : OMeets l Z y bs mx rt [] rm argsL.toArray h (PureQ r h))  (hlen : ∀ sig, parseMethodDescriptor y.desc = some sig → argsL.length = sig.parameters.length) (hst : st = argsL.reverse ++ under) (hW : (under.map fun v => v.category).sum = W) (hf : rm.frames + 1 ≤ R.frames) (hlo : W + (mx + 11) + rm.locals ≤ R.locals) (hce : rm.cells = 0) (hsl : rm.slots = 0) (hc0 : cells ≤ R.cells) (hs0 : slots ≤ R.slots) (hsz : Ls.size = maxL) (hd : decode bytes pc = .ok (.invokestatic i, 3)) (hp : pc + 3 = pc') (k : ∀ T', Stand p l e R s m args below meth c T' locs cells slots → T'.heap = h → Go p e below P (T'.setTop (mkF m pc' Ls (r.toList ++ under)))) : Go p e below P (T.setTop (mkF m pc Ls st)) := by
  refine c_static B X eT w1 w2 wc wz hy hM hlen hst hW hf hlo (by omega) (by omega) hsz hd hp ?_
  intro v T' L X' hQ
  obtain ⟨rfl, rfl, e'⟩ := hQ
  rw [hce, hsl, List.append_nil] at X'
  exact k T' X' e'
theorem p_init (B : Ctx p s m meth c Z own nm bytes maxL ret) (X : Stand p l e R s m args below meth c T locs cells slots) {y : MethodName} {bs : ByteArray} {mx : Nat} {rm : Room} {i W : Nat} {argsL under : List Value} {st : List Value} {b : Addr} (eT : T.heap = h) (hy1 : y.name = "<init>") (w1 : (Jvm.Cond.methodLink own i y).before a0 Z = true) (w2 : (Jvm.Cond.instanceMethod y).before a0 Z = true) (wc : (Jvm.Cond.code y bs mx none).before a0 Z = true) (wz : (Jvm.Cond.initialized y.cls).before a0 Z = true) (hy : y.cls ≠ "java/lang/invoke/MethodHandle" ∧ y.cls ≠ "java/lang/invoke/VarHandle") (hM : OMeets l Z y bs mx none [] rm (.ref b :: argsL).toArray h (PureQ none h)) (hlen : ∀ sig, parseMethodDescriptor y.desc = some sig → argsL.length = sig.parameters.length) (hst : st = argsL.reverse ++ .ref b :: under) (hW : (under.map fun v => v.category).sum = W) (hf : rm.frames + 1 ≤ R.frames) (hlo : W + (mx + 11) + rm.locals ≤ R.locals) (hce : rm.cells = 0) (hsl : rm.slots = 0) (hc0 : cells ≤ R.cells) (hs0 : slots ≤ R.slots) (hsz : Ls.size = maxL) (hd : decode bytes pc = .ok (.invokespecial i, 3)) (hp : pc + 3 = pc') (k : ∀ T', Stand p l e R s m args below meth c T' locs cells slots → T'.heap = h → Go p e below P (T'.setTop (mkF m pc' Ls under))) : Go p e below P (T.setTop (mkF m pc Ls st)) := by
  refine c_init B X eT hy1 w1 w2 wc wz hy hM hlen hst hW hf hlo (by omega) (by omega) hsz hd hp ?_
  intro v T' L X' hQ
  obtain ⟨rfl, rfl, e'⟩ := hQ
  rw [hce, hsl, List.append_nil] at X'
  exact k T' X' e'
theorem c_virtualUp (B : Ctx p s m meth c Z own nm bytes maxL ret) (X : Stand p l e R s m args below meth c T locs cells slots) {y z : MethodName} {bs : ByteArray} {mx : Nat} {rt : Option FieldType} {rm : Room} {i W : Nat} {argsL under : List Value} {Q : Option Value → Heap → List Loc → Prop} {st : List Value} {C owner : String} {b : Addr} (eT : T.heap = h) (w1 : (Jvm.Cond.methodLink own i y).before a0 Z = true) (ws : (Jvm.Cond.sameMethod y.cls owner y.name y.desc).before a0 Z = true) (w2 : (Jvm.Cond.declares ⟨owner, y.name, y.desc⟩).before a0 Z = true) (w3 : (Jvm.Cond.selects C y z).before a0 Z = true) (w4 : (Jvm.Cond.instanceMethod z).before a0 Z = true) (wc : (Jvm.Cond.code z bs mx rt).before a0 Z = true) (wz : (Jvm.Cond.initialized z.cls).before a0 Z = true) (hy : owner ≠ "java/lang/invoke/MethodHandle" ∧ owner ≠ "java/lang/invoke/VarHandle") (hM : OMeets l Z z bs mx rt [] rm (.ref b :: argsL).toArray h Q) (E : Exa Z h b C) (hlen : ∀ sig, parseMethodDescriptor y.desc = some sig → argsL.length = sig.parameters.length) (hst : st = argsL.reverse ++ .ref b :: under) (hW : (under.map fun v => v.category).sum = W) (hf : rm.frames + 1 ≤ R.frames) (hlo : W + (mx + 11) + rm.locals ≤ R.locals) (hce : cells + rm.cells ≤ R.cells) (hsl : slots + rm.slots ≤ R.slots) (hsz : Ls.size = maxL) (hd : decode bytes pc = .ok (.invokevirtual i, 3)) (hp : pc + 3 = pc') (k : ∀ v T' L, Stand p l e R s m args below meth c T' (locs ++ L) (cells + rm.cells) (slots + rm.slots) → Q v T'.heap L → Go p e below P (T'.setTop (mkF m pc' Ls (v.toList ++ under)))) : Go p e below P (T.setTop (mkF m pc Ls st)) := by
  subst hp hst
  obtain ⟨cq, kq, qa, qb, qc⟩ := isOf B.2.2.2.2.2.2.2 eT E
  obtain ⟨v, _, ⟨T', L', k', n'⟩, -, X', ⟨Lc, hQ, l', y', z'⟩, st'⟩ := X.virtualBackUp B.1 (x := y) (y := z) B.2.2.2.1 (mvT B.2.2.2.2.2.2.2 w1) (mvT B.2.2.2.2.2.2.2 ws) (mvT B.2.2.2.2.2.2.2 w2) hy (mvT B.2.2.2.2.2.2.2 w3) (mvT B.2.2.2.2.2.2.2 w4) (backOf (W := W) hM B.2.2.2.2.2.2.2 wc wz hf hlo) qa qc (g := mkF m pc Ls (argsL.reverse ++ .ref b :: under)) rfl (by rw [B.2.2.1]; exact hsz) (Steps.refl _) (argsL := argsL) (rest := under) hlen rfl (by show 2 * 0 + _ ≤ _; rw [Nat.mul_zero, Nat.zero_add]; exact Nat.le_of_eq hW) (hb B.2.1 hd) (fun _ _ => ⟨rfl, eT, hce, hsl⟩)
  dsimp only [Pt.U, Pt.locs, Pt.cells, Pt.slots] at X' l' y' z' st' hQ
  subst l' y' z'
  exact Go.on (fun t q => st'.trans q) (k v T' Lc X' hQ)
theorem p_virtualUp (B : Ctx p s m meth c Z own nm bytes maxL ret) (X : Stand p l e R s m args below meth c T locs cells slots) {y z : MethodName} {bs : ByteArray} {mx : Nat} {rt : Option FieldType} {rm : Room} {i W : Nat} {argsL under : List Value} {st : List Value} {C owner : String} {b : Addr} {r : Option Value} (eT : T.heap = h) (w1 : (Jvm.Cond.methodLink own i y).before a0 Z = true) (ws : (Jvm.Cond.sameMethod y.cls owner y.name y.desc).before a0 Z = true) (w2 : (Jvm.Cond.declares ⟨owner, y.name, y.desc⟩).before a0 Z = true) (w3 : (Jvm.Cond.selects C y z).before a0 Z = true) (w4 : (Jvm.Cond.instanceMethod z).before a0 Z = true) (wc : (Jvm.Cond.code z bs mx rt).before a0 Z = true) (wz : (Jvm.Cond.initialized z.cls).before a0 Z = true) (hy : owner ≠ "java/lang/invoke/MethodHandle" ∧ owner ≠ "java/lang/invoke/VarHandle") (hM : OMeets l Z z bs mx rt [] rm (.ref b :: argsL).toArray h (PureQ r h)) (E : Exa Z h b C) (hlen : ∀ sig, parseMethodDescriptor y.desc = some sig → argsL.length = sig.parameters.length) (hst : st = argsL.reverse ++ .ref b :: under) (hW : (under.map fun v => v.category).sum = W) (hf : rm.frames + 1 ≤ R.frames) (hlo : W + (mx + 11) + rm.locals ≤ R.locals) (hce : rm.cells = 0) (hsl : rm.slots = 0) (hc0 : cells ≤ R.cells) (hs0 : slots ≤ R.slots) (hsz : Ls.size = maxL) (hd : decode bytes pc = .ok (.invokevirtual i, 3)) (hp : pc + 3 = pc') (k : ∀ T', Stand p l e R s m args below meth c T' locs cells slots → T'.heap = h → Go p e below P (T'.setTop (mkF m pc' Ls (r.toList ++ under)))) : Go p e below P (T.setTop (mkF m pc Ls st)) := by
  refine c_virtualUp B X eT w1 ws w2 w3 w4 wc wz hy hM E hlen hst hW hf hlo (by omega) (by omega) hsz hd hp ?_
  intro v T' L X' hQ
  obtain ⟨rfl, rfl, e'⟩ := hQ
  rw [hce, hsl, List.append_nil] at X'
  exact k T' X' e'
end Kit
end Jvm.OwnKit

namespace Jvm.OwnKit
open Sem ClassFile Op Lib Jvm.Stand Jvm.Free Jvm.LawKit Jvm.RoadKit
section Heap
variable {p : Program} {l : Launch} {e : Env} {R : Room} {s : State} {m : MethodId} {args : Array Value} {below : List Frame} {meth : Method} {c : Code} {T : State} {locs : List Loc} {cells slots : Nat} {Z : State} {a0 : Array Value} {h h' : Heap} {own nm : String} {bytes : ByteArray} {maxL : Nat} {ret : Option FieldType} {P : Outcome → State → Prop} {pc pc' : Nat} {Ls Ls' : Array Slot} {rest : List Value} {a b : Addr} {k : ClassId} {ty : FieldType} {n i : Nat} {f g : Nat → Value} {v w : Value} {sl : Nat} {ws : List Addr}
/-- an array at a: n places, place i holds f i -/
def Ary (Z : State) (h : Heap) (a : Addr) (k : ClassId) (ty : FieldType) (n : Nat) (f : Nat → Value) : Prop := ∃ c : Cell, Arr Z h a c ty ∧ c.cls = k ∧ c.slots.size = n ∧ n < 2 ^ 31 ∧ ∀ i, i < n → c.slots[i]? = some (f i)
def upd (f : Nat → Value) (j : Nat) (v : Value) : Nat → Value := fun i => if i = j then v else f i
def lst (L : List Value) (d : Value) : Nat → Value := fun i => L.getD i d
theorem Ary.lt (F : Ary Z h a k ty n f) : a < h.size := by obtain ⟨c, A, -⟩ := F; exact A.lt
theorem Ary.ext (E : Ext h h') (F : Ary Z h a k ty n f) : Ary Z h' a k ty n f := by obtain ⟨c, A, r⟩ := F; exact ⟨c, A.ext E, r⟩
theorem Ary.other (W : Wr h h' b sl v) (F : Ary Z h a k ty n f) (q : a ≠ b) : Ary Z h' a k ty n f := by obtain ⟨c, A, r⟩ := F; exact ⟨c, A.other W q, r⟩
theorem Ary.keep (F : Ary Z h a k ty n f) (K : Keep h h' ws) (q : a ∉ ws) : Ary Z h' a k ty n f := by obtain ⟨c, A, r⟩ := F; exact ⟨c, ⟨K.2.1 a c A.1 q, A.2⟩, r⟩
theorem Ary.congr (F : Ary Z h a k ty n f) (q : ∀ i, i < n → f i = g i) : Ary Z h a k ty n g := by obtain ⟨c, A, r1, r2, r3, r4⟩ := F; exact ⟨c, A, r1, r2, r3, fun i hi => by rw [r4 i hi, q i hi]⟩
theorem upd_lst {L : List Value} {d v : Value} {j : Nat} (hj : j < L.length) {L' : List Value} (e : L.set j v = L') : upd (lst L d) j v = lst L' d := by
  subst e; funext i
  simp only [upd, lst, List.getD_eq_getElem?_getD, List.getElem?_set]
  by_cases q : i = j
  · subst q; simp [hj]
  · simp [q, Ne.symm q]
theorem Ary.same {j : Nat} (W : Wr h h' a j v) (F : Ary Z h a k ty n f) : Ary Z h' a k ty n (upd f j v) := by
  obtain ⟨c, A, r1, r2, r3, r4⟩ := F
  obtain ⟨cell, w1, w2, w3, -⟩ := id W
  cases w1.symm.trans A.1
  refine ⟨_, A.same W, r1, by rw [sz_set]; exact r2, r3, fun i hi => ?_⟩
  by_cases q : i = j
  · subst q; simp [Cell.setSlot, upd, w3]
  · simp only [Cell.setSlot, upd, if_neg q]; rw [Array.getElem?_setIfInBounds_ne (Ne.symm q)]; exact r4 i hi
theorem Ary.of_new {x : Int32} {N : Nat} (A : Arr Z h a (newA k ty x) ty) (hx : ¬ x < 0) (hN : x.toNatClampNeg = N) : Ary Z h a k ty N (fun _ => defaultValue ty) := by
  subst hN
  refine ⟨_, A, rfl, sz_new _ _ _, (back32 hx).2, fun i hi => ?_⟩
  simp [newA, hi]
theorem Ary.of_rep (F : Ary Z h a k ty n (fun _ => v)) {L : List Value} (q : ∀ i, i < n → L.getD i v = v) : Ary Z h a k ty n (lst L v) := F.congr fun i hi => (q i hi).symm

theorem Ary.sto {C : String} {y : Addr} (F : Ary Z h a k ty n f) (O : Ovr Z k C) (I : Ins Z h y C true) : Sto Z h a (.ref y) := by obtain ⟨c, A, r, -⟩ := F; exact Sto.of A (r ▸ O) I
theorem Ary.full {L : List Value} {j : Nat} {L' : List Value} (F : Ary Z h a k ty n (upd (lst L w) j v)) (hj : j < L.length) (e : L.set j v = L') : Ary Z h a k ty n (lst L' w) := by rw [← upd_lst (d := w) hj e]; exact F
theorem Ary.stoA {C : String} {y : Addr} {t0 : FieldType} (F : Ary Z h a k ty n f) (O : OvrA Z k t0 C) (I : Ins Z h y C true) : Sto Z h a (.ref y) := by obtain ⟨c, A, r, -⟩ := F; exact Sto.ofVA A r O I
theorem old_le {n0 : Nat} (O : Old Z n0 h) : n0 ≤ h.size := O.1 ▸ O.2.1
theorem s_new (B : Ctx p s m meth c Z own nm bytes maxL ret) (X : Stand p l e R s m args below meth c T locs cells slots) {C : String} {i0 n0 : Nat} (eT : T.heap = h) (w : (Jvm.Cond.classLink own i0 C).before a0 Z = true) (wi : (Jvm.Cond.instantiable C n0).before a0 Z = true) (wz : (Jvm.Cond.initialized C).before a0 Z = true) (hc : cells + 1 ≤ R.cells) (hl : slots + n0 ≤ R.slots) (hd : decode bytes pc = .ok (.new i0, 3)) (hp : pc + 3 = pc') (k : ∀ T' h' a, a = h.size → Stand p l e R s m args below meth c T' locs (cells + 1) (slots + n0) → T'.heap = h' → Ext h h' → Exa Z h' a C → (∀ {O nm d : String} {ty : FieldType}, Laid Z a0 C O nm d → parseFieldDescriptor d = some ty → Fld Z h' a O nm d (defaultValue ty)) → Go p e below P (T'.setTop (mkF m pc' Ls (.ref a :: rest)))) : Go p e below P (T.setTop (mkF m pc Ls (rest))) := by
  subst hp
  obtain ⟨T', h', X', e', E, A, D, -, st⟩ := newO X B.1 B.2.2.2.2.2.2.2 B.2.2.2.1 w wi wz eT (g := mkF m pc Ls rest) rfl (hb B.2.1 hd) hc hl
  exact Go.on st (k T' h' _ rfl X' e' E A D)
theorem s_initO (B : Ctx p s m meth c Z own nm bytes maxL ret) (X : Stand p l e R s m args below meth c T locs cells slots) {i0 W : Nat} {a : Addr} (eT : T.heap = h) (w1 : (Jvm.Cond.methodLink own i0 Lib.objectInit).before a0 Z = true) (w2 : (Jvm.Cond.instanceMethod Lib.objectInit).before a0 Z = true) (w3 : (Jvm.Cond.code Lib.objectInit ⟨#[0xb1]⟩ 1 none).before a0 Z = true) (hW : (rest.map fun v => v.category).sum = W) (hf : 1 ≤ R.frames) (hl : W + 12 ≤ R.locals) (hsz : Ls.size = maxL) (hd : decode bytes pc = .ok (.invokespecial i0, 3)) (hp : pc + 3 = pc') (k : ∀ T', Stand p l e R s m args below meth c T' locs cells slots → T'.heap = h → Go p e below P (T'.setTop (mkF m pc' Ls (rest)))) : Go p e below P (T.setTop (mkF m pc Ls (.ref a :: rest))) := by
  subst hp
  obtain ⟨T', X', e', st⟩ := initO X B.1 B.2.2.2.2.2.2.2 B.2.2.2.1 w1 w2 w3 eT (g := mkF m pc Ls (.ref a :: rest)) rfl (by rw [B.2.2.1]; exact hsz) rfl (hb B.2.1 hd) hf (W := W) (by show 2 * 0 + _ ≤ _; rw [Nat.mul_zero, Nat.zero_add]; exact Nat.le_of_eq hW) hl
  exact Go.on st (k T' X' e')
theorem s_putF (B : Ctx p s m meth c Z own nm bytes maxL ret) (X : Stand p l e R s m args below meth c T locs cells slots) {i0 kk : Nat} {R0 O n d host C : String} {ty : FieldType} {a : Addr} {v old : Value} (eT : T.heap = h) (w : (Jvm.Cond.fieldLink own i0 R0 n d).before a0 Z = true ∨ (Jvm.Cond.fieldLinkNest own i0 R0 n d host).before a0 Z = true) (via : Via Z R0 O n d) (F : Fld Z h a O n d old) (E : Exa Z h a C) (L : (Jvm.Cond.lays C O n d).before a0 Z = true ∨ ((Jvm.Cond.laysFinal C O n d).before a0 Z = true ∧ own = O ∧ nm = "<init>")) (wi : (Jvm.Cond.instantiable C kk).before a0 Z = true) (hty : parseFieldDescriptor d = some ty) (hn : narrow ty v = v) (hf : fits ty v = true) (hd : decode bytes pc = .ok (.putfield i0, 3)) (hp : pc + 3 = pc') (k : ∀ T' h', Stand p l e R s m args below meth c T' (locs ++ [⟨a, Jvm.RoadKit.slotOf Z O n d⟩]) cells slots → T'.heap = h' → Wr h h' a (Jvm.RoadKit.slotOf Z O n d) v → Go p e below P (T'.setTop (mkF m pc' Ls (rest)))) : Go p e below P (T.setTop (mkF m pc Ls (v :: .ref a :: rest))) := by
  subst hp
  obtain ⟨T', h', X', e', W, st⟩ := putF X B.1 B.2.2.2.2.2.2.2 B.2.2.2.1 w via eT F E (L.imp id fun q => ⟨q.1, q.2.1, by rw [B.2.2.2.2.1]; exact q.2.2⟩) wi hty hn hf (g := mkF m pc Ls (v :: .ref a :: rest)) rfl rfl (hb B.2.1 hd)
  exact Go.on st (k T' h' X' e' W)
theorem s_putFN (B : Ctx p s m meth c Z own nm bytes maxL ret) (X : Stand p l e R s m args below meth c T locs cells slots) {i0 kk : Nat} {R0 O n d C : String} {ty : FieldType} {a : Addr} {v v' old : Value} (eT : T.heap = h) (w : (Jvm.Cond.fieldLink own i0 R0 n d).before a0 Z = true) (via : Via Z R0 O n d) (F : Fld Z h a O n d old) (E : Exa Z h a C) (L : (Jvm.Cond.lays C O n d).before a0 Z = true ∨ ((Jvm.Cond.laysFinal C O n d).before a0 Z = true ∧ own = O ∧ nm = "<init>")) (wi : (Jvm.Cond.instantiable C kk).before a0 Z = true) (hty : parseFieldDescriptor d = some ty) (hn : narrow ty v = v') (hf : fits ty v' = true) (hd : decode bytes pc = .ok (.putfield i0, 3)) (hp : pc + 3 = pc') (k : ∀ T' h', Stand p l e R s m args below meth c T' (locs ++ [⟨a, Jvm.RoadKit.slotOf Z O n d⟩]) cells slots → T'.heap = h' → Wr h h' a (Jvm.RoadKit.slotOf Z O n d) v' → Go p e below P (T'.setTop (mkF m pc' Ls (rest)))) : Go p e below P (T.setTop (mkF m pc Ls (v :: .ref a :: rest))) := by
  subst hp
  obtain ⟨T', h', X', e', W, st⟩ := putFN X B.1 B.2.2.2.2.2.2.2 B.2.2.2.1 w via eT F E (L.imp id fun q => ⟨q.1, q.2.1, by rw [B.2.2.2.2.1]; exact q.2.2⟩) wi hty hn hf (g := mkF m pc Ls (v :: .ref a :: rest)) rfl rfl (hb B.2.1 hd)
  exact Go.on st (k T' h' X' e' W)
theorem s_newP (B : Ctx p s m meth c Z own nm bytes maxL ret) (X : Stand p l e R s m args below meth c T locs cells slots) {aty : ArrayType} {x : Int32} {N : Nat} (eT : T.heap = h) (w : (Jvm.Cond.arrayClass (newarray.typeOf aty)).before a0 Z = true) (hn : ¬ x < 0) (hN : x.toNatClampNeg = N) {cap : Nat} (hcap : N ≤ cap) (hb8 : cap * 8 ≤ 536870912) (hc : cells + 1 ≤ R.cells) (hl : slots + cap ≤ R.slots) (hd : decode bytes pc = .ok (.newarray aty, 2)) (hp : pc + 2 = pc') (k : ∀ T' h' a kA, a = h.size → Stand p l e R s m args below meth c T' locs (cells + 1) (slots + cap) → T'.heap = h' → Ext h h' → Ary Z h' a kA (newarray.typeOf aty) N (fun _ => defaultValue (newarray.typeOf aty)) → Go p e below P (T'.setTop (mkF m pc' Ls (.ref a :: rest)))) : Go p e below P (T.setTop (mkF m pc Ls (.int x :: rest))) := by
  subst hp
  obtain ⟨T', h', cA, X', e', E, A, st⟩ := newP X B.1 B.2.2.2.2.2.2.2 w eT (g := mkF m pc Ls (.int x :: rest)) rfl (hb B.2.1 hd) rfl hn (cap := cap) (hN ▸ hcap) hb8 hc hl
  exact Go.on st (k T' h' _ cA rfl X' e' E (Ary.of_new A hn hN))
theorem s_newPE (B : Ctx p s m meth c Z own nm bytes maxL ret) (X : Stand p l e R s m args below meth c T locs cells slots) {aty : ArrayType} {x : Int32} {N : Nat} {ad : String} (eT : T.heap = h) (had : "[" ++ (newarray.typeOf aty).toString = ad) (w : (Jvm.Cond.arrayClass (newarray.typeOf aty)).before a0 Z = true) (hn : ¬ x < 0) (hN : x.toNatClampNeg = N) {cap : Nat} (hcap : N ≤ cap) (hb8 : cap * 8 ≤ 536870912) (hc : cells + 1 ≤ R.cells) (hl : slots + cap ≤ R.slots) (hd : decode bytes pc = .ok (.newarray aty, 2)) (hp : pc + 2 = pc') (k : ∀ T' h' a kA, a = h.size → Stand p l e R s m args below meth c T' locs (cells + 1) (slots + cap) → T'.heap = h' → Ext h h' → Ary Z h' a kA (newarray.typeOf aty) N (fun _ => defaultValue (newarray.typeOf aty)) → Exa Z h' a ad → Go p e below P (T'.setTop (mkF m pc' Ls (.ref a :: rest)))) : Go p e below P (T.setTop (mkF m pc Ls (.int x :: rest))) := by
  subst hp
  obtain ⟨T', h', cA, X', e', E, A, F, st⟩ := newPE X B.1 B.2.2.2.2.2.2.2 w eT (g := mkF m pc Ls (.int x :: rest)) rfl (hb B.2.1 hd) rfl hn (cap := cap) (hN ▸ hcap) hb8 hc hl had
  exact Go.on st (k T' h' _ cA rfl X' e' E (Ary.of_new A hn hN) F)
theorem s_newR (B : Ctx p s m meth c Z own nm bytes maxL ret) (X : Stand p l e R s m args below meth c T locs cells slots) {i0 : Nat} {C : String} {x : Int32} {N : Nat} (eT : T.heap = h) (w1 : (Jvm.Cond.classLink own i0 C).before a0 Z = true) (w2 : (Jvm.Cond.arrayOver (.object C)).before a0 Z = true) (hn : ¬ x < 0) (hN : x.toNatClampNeg = N) {cap : Nat} (hcap : N ≤ cap) (hb8 : cap * 8 ≤ 536870912) (hc : cells + 1 ≤ R.cells) (hl : slots + cap ≤ R.slots) (hd : decode bytes pc = .ok (.anewarray i0, 3)) (hp : pc + 3 = pc') (k : ∀ T' h' a kA, a = h.size → Stand p l e R s m args below meth c T' locs (cells + 1) (slots + cap) → T'.heap = h' → Ext h h' → Ary Z h' a kA (.object C) N (fun _ => .null) → Ovr Z kA C → Go p e below P (T'.setTop (mkF m pc' Ls (.ref a :: rest)))) : Go p e below P (T.setTop (mkF m pc Ls (.int x :: rest))) := by
  subst hp
  obtain ⟨T', h', cA, X', e', E, A, O, st⟩ := newR X B.1 B.2.2.2.2.2.2.2 B.2.2.2.1 w1 w2 eT (g := mkF m pc Ls (.int x :: rest)) rfl (hb B.2.1 hd) rfl hn (cap := cap) (hN ▸ hcap) hb8 hc hl
  exact Go.on st (k T' h' _ cA rfl X' e' E (Ary.of_new A hn hN) O)
theorem s_newRA (B : Ctx p s m meth c Z own nm bytes maxL ret) (X : Stand p l e R s m args below meth c T locs cells slots) {i0 : Nat} {C : String} {ty : FieldType} {x : Int32} {N : Nat} (eT : T.heap = h) (hC : (FieldType.array ty).toString = C) (w1 : (Jvm.Cond.classLink own i0 C).before a0 Z = true) (w2 : (Jvm.Cond.arrayOver (.array ty)).before a0 Z = true) (hn : ¬ x < 0) (hN : x.toNatClampNeg = N) {cap : Nat} (hcap : N ≤ cap) (hb8 : cap * 8 ≤ 536870912) (hc : cells + 1 ≤ R.cells) (hl : slots + cap ≤ R.slots) (hd : decode bytes pc = .ok (.anewarray i0, 3)) (hp : pc + 3 = pc') (k : ∀ T' h' a kA, a = h.size → Stand p l e R s m args below meth c T' locs (cells + 1) (slots + cap) → T'.heap = h' → Ext h h' → Ary Z h' a kA (.array ty) N (fun _ => .null) → OvrA Z kA ty C → Go p e below P (T'.setTop (mkF m pc' Ls (.ref a :: rest)))) : Go p e below P (T.setTop (mkF m pc Ls (.int x :: rest))) := by
  subst hp
  obtain ⟨T', h', cA, X', e', E, A, -, O, st⟩ := newRA X B.1 B.2.2.2.2.2.2.2 B.2.2.2.1 hC w1 w2 eT (g := mkF m pc Ls (.int x :: rest)) rfl (hb B.2.1 hd) rfl hn (cap := cap) (hN ▸ hcap) hb8 hc hl rfl
  exact Go.on st (k T' h' _ cA rfl X' e' E (Ary.of_new A hn hN) O)
theorem s_stI (B : Ctx p s m meth c Z own nm bytes maxL ret) (X : Stand p l e R s m args below meth c T locs cells slots) {a : Addr} {x : Int32} {j : Int32} {jn N : Nat} {f : Nat → Value} {kA : ClassId} (eT : T.heap = h) (A : Ary Z h a kA .int N f) (hj : ¬ j < 0) (hjn : j.toNatClampNeg = jn) (hlt : jn < N) (hd : decode bytes pc = .ok (.iastore, 1)) (hp : pc + 1 = pc') (k : ∀ T' h', Stand p l e R s m args below meth c T' (locs ++ [⟨a, jn⟩]) cells slots → T'.heap = h' → Wr h h' a jn (.int x) → Ary Z h' a kA .int N (upd f jn (.int x)) → Go p e below P (T'.setTop (mkF m pc' Ls (rest)))) : Go p e below P (T.setTop (mkF m pc Ls (.int x :: .int j :: .ref a :: rest))) := by
  subst hp
  subst hjn
  obtain ⟨cl, A1, q1, q2, q3, q4⟩ := id A
  obtain ⟨T', h', X', e', W, st⟩ := stI X B.1 B.2.2.2.2.2.2.2 eT A1 (j := j) (by rw [q2]; intro z; rcases z with z | z; exact hj z; omega) (g := mkF m pc Ls (.int x :: .int j :: .ref a :: rest)) rfl rfl (hb B.2.1 hd)
  exact Go.on st (k T' h' X' e' W (A.same W))
theorem s_stJ (B : Ctx p s m meth c Z own nm bytes maxL ret) (X : Stand p l e R s m args below meth c T locs cells slots) {a : Addr} {x : Int64} {j : Int32} {jn N : Nat} {f : Nat → Value} {kA : ClassId} (eT : T.heap = h) (A : Ary Z h a kA .long N f) (hj : ¬ j < 0) (hjn : j.toNatClampNeg = jn) (hlt : jn < N) (hd : decode bytes pc = .ok (.lastore, 1)) (hp : pc + 1 = pc') (k : ∀ T' h', Stand p l e R s m args below meth c T' (locs ++ [⟨a, jn⟩]) cells slots → T'.heap = h' → Wr h h' a jn (.long x) → Ary Z h' a kA .long N (upd f jn (.long x)) → Go p e below P (T'.setTop (mkF m pc' Ls (rest)))) : Go p e below P (T.setTop (mkF m pc Ls (.long x :: .int j :: .ref a :: rest))) := by
  subst hp
  subst hjn
  obtain ⟨cl, A1, q1, q2, q3, q4⟩ := id A
  obtain ⟨T', h', X', e', W, st⟩ := stJ X B.1 B.2.2.2.2.2.2.2 eT A1 (j := j) (by rw [q2]; intro z; rcases z with z | z; exact hj z; omega) (g := mkF m pc Ls (.long x :: .int j :: .ref a :: rest)) rfl rfl (hb B.2.1 hd)
  exact Go.on st (k T' h' X' e' W (A.same W))
theorem s_stB (B : Ctx p s m meth c Z own nm bytes maxL ret) (X : Stand p l e R s m args below meth c T locs cells slots) {a : Addr} {x : Int32} {j : Int32} {jn N : Nat} {f : Nat → Value} {kA : ClassId} (eT : T.heap = h) (A : Ary Z h a kA .byte N f) (hj : ¬ j < 0) (hjn : j.toNatClampNeg = jn) (hlt : jn < N) (hd : decode bytes pc = .ok (.bastore, 1)) (hp : pc + 1 = pc') (k : ∀ T' h', Stand p l e R s m args below meth c T' (locs ++ [⟨a, jn⟩]) cells slots → T'.heap = h' → Wr h h' a jn (.int (nar .byte x)) → Ary Z h' a kA .byte N (upd f jn (.int (nar .byte x))) → Go p e below P (T'.setTop (mkF m pc' Ls (rest)))) : Go p e below P (T.setTop (mkF m pc Ls (.int x :: .int j :: .ref a :: rest))) := by
  subst hp
  subst hjn
  obtain ⟨cl, A1, q1, q2, q3, q4⟩ := id A
  obtain ⟨T', h', X', e', W, st⟩ := stB X B.1 B.2.2.2.2.2.2.2 eT A1 (j := j) (by rw [q2]; intro z; rcases z with z | z; exact hj z; omega) (g := mkF m pc Ls (.int x :: .int j :: .ref a :: rest)) rfl rfl (hb B.2.1 hd)
  exact Go.on st (k T' h' X' e' W (A.same W))
theorem s_stZ (B : Ctx p s m meth c Z own nm bytes maxL ret) (X : Stand p l e R s m args below meth c T locs cells slots) {a : Addr} {x : Int32} {j : Int32} {jn N : Nat} {f : Nat → Value} {kA : ClassId} (eT : T.heap = h) (A : Ary Z h a kA .boolean N f) (hj : ¬ j < 0) (hjn : j.toNatClampNeg = jn) (hlt : jn < N) (hd : decode bytes pc = .ok (.bastore, 1)) (hp : pc + 1 = pc') (k : ∀ T' h', Stand p l e R s m args below meth c T' (locs ++ [⟨a, jn⟩]) cells slots → T'.heap = h' → Wr h h' a jn (.int (nar .boolean x)) → Ary Z h' a kA .boolean N (upd f jn (.int (nar .boolean x))) → Go p e below P (T'.setTop (mkF m pc' Ls (rest)))) : Go p e below P (T.setTop (mkF m pc Ls (.int x :: .int j :: .ref a :: rest))) := by
  subst hp
  subst hjn
  obtain ⟨cl, A1, q1, q2, q3, q4⟩ := id A
  obtain ⟨T', h', X', e', W, st⟩ := stZ X B.1 B.2.2.2.2.2.2.2 eT A1 (j := j) (by rw [q2]; intro z; rcases z with z | z; exact hj z; omega) (g := mkF m pc Ls (.int x :: .int j :: .ref a :: rest)) rfl rfl (hb B.2.1 hd)
  exact Go.on st (k T' h' X' e' W (A.same W))
theorem s_stC (B : Ctx p s m meth c Z own nm bytes maxL ret) (X : Stand p l e R s m args below meth c T locs cells slots) {a : Addr} {x : Int32} {j : Int32} {jn N : Nat} {f : Nat → Value} {kA : ClassId} (eT : T.heap = h) (A : Ary Z h a kA .char N f) (hj : ¬ j < 0) (hjn : j.toNatClampNeg = jn) (hlt : jn < N) (hd : decode bytes pc = .ok (.castore, 1)) (hp : pc + 1 = pc') (k : ∀ T' h', Stand p l e R s m args below meth c T' (locs ++ [⟨a, jn⟩]) cells slots → T'.heap = h' → Wr h h' a jn (.int (nar .char x)) → Ary Z h' a kA .char N (upd f jn (.int (nar .char x))) → Go p e below P (T'.setTop (mkF m pc' Ls (rest)))) : Go p e below P (T.setTop (mkF m pc Ls (.int x :: .int j :: .ref a :: rest))) := by
  subst hp
  subst hjn
  obtain ⟨cl, A1, q1, q2, q3, q4⟩ := id A
  obtain ⟨T', h', X', e', W, st⟩ := stC X B.1 B.2.2.2.2.2.2.2 eT A1 (j := j) (by rw [q2]; intro z; rcases z with z | z; exact hj z; omega) (g := mkF m pc Ls (.int x :: .int j :: .ref a :: rest)) rfl rfl (hb B.2.1 hd)
  exact Go.on st (k T' h' X' e' W (A.same W))
theorem s_stR (B : Ctx p s m meth c Z own nm bytes maxL ret) (X : Stand p l e R s m args below meth c T locs cells slots) {a : Addr} {v : Value} {ty : FieldType} {j : Int32} {jn N : Nat} {f : Nat → Value} {kA : ClassId} (eT : T.heap = h) (A : Ary Z h a kA ty N f) (hty : ty.isReference = true) (S : Sto Z h a v) (hj : ¬ j < 0) (hjn : j.toNatClampNeg = jn) (hlt : jn < N) (hd : decode bytes pc = .ok (.aastore, 1)) (hp : pc + 1 = pc') (k : ∀ T' h', Stand p l e R s m args below meth c T' (locs ++ [⟨a, jn⟩]) cells slots → T'.heap = h' → Wr h h' a jn v → Ary Z h' a kA ty N (upd f jn v) → Go p e below P (T'.setTop (mkF m pc' Ls (rest)))) : Go p e below P (T.setTop (mkF m pc Ls (v :: .int j :: .ref a :: rest))) := by
  subst hp
  subst hjn
  obtain ⟨cl, A1, q1, q2, q3, q4⟩ := id A
  obtain ⟨T', h', X', e', W, st⟩ := stR X B.1 B.2.2.2.2.2.2.2 eT A1 (j := j) (by rw [q2]; intro z; rcases z with z | z; exact hj z; omega) hty S (g := mkF m pc Ls (v :: .int j :: .ref a :: rest)) rfl rfl (hb B.2.1 hd)
  exact Go.on st (k T' h' X' e' W (A.same W))
theorem s_ldI (B : Ctx p s m meth c Z own nm bytes maxL ret) (X : Stand p l e R s m args below meth c T locs cells slots) {a : Addr} {v : Value} {j : Int32} {jn N : Nat} {f : Nat → Value} {kA : ClassId} (eT : T.heap = h) (A : Ary Z h a kA .int N f) (hj : ¬ j < 0) (hjn : j.toNatClampNeg = jn) (hlt : jn < N) (hv : f jn = v) (hd : decode bytes pc = .ok (.iaload, 1)) (hp : pc + 1 = pc') (k : Go p e below P (T.setTop (mkF m pc' Ls (v :: rest)))) : Go p e below P (T.setTop (mkF m pc Ls (.int j :: .ref a :: rest))) := by
  subst hp hjn hv
  obtain ⟨cl, A1, q1, q2, q3, q4⟩ := A
  exact Go.on (X.iaload B.1 (j := j) (by rw [eT]; exact A1.1) (State.isArrayOf_alike B.2.2.2.2.2.2.2.alike A1.2.1) A1.2.2 (by rw [q2]; intro z; rcases z with z | z; exact hj z; omega) (q4 _ hlt) (g := mkF m pc Ls (.int j :: .ref a :: rest)) rfl rfl (hb B.2.1 hd)) k
theorem s_ldJ (B : Ctx p s m meth c Z own nm bytes maxL ret) (X : Stand p l e R s m args below meth c T locs cells slots) {a : Addr} {v : Value} {j : Int32} {jn N : Nat} {f : Nat → Value} {kA : ClassId} (eT : T.heap = h) (A : Ary Z h a kA .long N f) (hj : ¬ j < 0) (hjn : j.toNatClampNeg = jn) (hlt : jn < N) (hv : f jn = v) (hd : decode bytes pc = .ok (.laload, 1)) (hp : pc + 1 = pc') (k : Go p e below P (T.setTop (mkF m pc' Ls (v :: rest)))) : Go p e below P (T.setTop (mkF m pc Ls (.int j :: .ref a :: rest))) := by
  subst hp hjn hv
  obtain ⟨cl, A1, q1, q2, q3, q4⟩ := A
  exact Go.on (X.laload B.1 (j := j) (by rw [eT]; exact A1.1) (State.isArrayOf_alike B.2.2.2.2.2.2.2.alike A1.2.1) A1.2.2 (by rw [q2]; intro z; rcases z with z | z; exact hj z; omega) (q4 _ hlt) (g := mkF m pc Ls (.int j :: .ref a :: rest)) rfl rfl (hb B.2.1 hd)) k
theorem s_ldB (B : Ctx p s m meth c Z own nm bytes maxL ret) (X : Stand p l e R s m args below meth c T locs cells slots) {a : Addr} {v : Value} {j : Int32} {jn N : Nat} {f : Nat → Value} {kA : ClassId} (eT : T.heap = h) (A : Ary Z h a kA .byte N f) (hj : ¬ j < 0) (hjn : j.toNatClampNeg = jn) (hlt : jn < N) (hv : f jn = v) (hd : decode bytes pc = .ok (.baload, 1)) (hp : pc + 1 = pc') (k : Go p e below P (T.setTop (mkF m pc' Ls (v :: rest)))) : Go p e below P (T.setTop (mkF m pc Ls (.int j :: .ref a :: rest))) := by
  subst hp hjn hv
  obtain ⟨cl, A1, q1, q2, q3, q4⟩ := A
  exact Go.on (X.baloadBytes B.1 (j := j) (by rw [eT]; exact A1.1) (State.isArrayOf_alike B.2.2.2.2.2.2.2.alike A1.2.1) A1.2.2 (by rw [q2]; intro z; rcases z with z | z; exact hj z; omega) (q4 _ hlt) (g := mkF m pc Ls (.int j :: .ref a :: rest)) rfl rfl (hb B.2.1 hd)) k
theorem s_ldZ (B : Ctx p s m meth c Z own nm bytes maxL ret) (X : Stand p l e R s m args below meth c T locs cells slots) {a : Addr} {v : Value} {j : Int32} {jn N : Nat} {f : Nat → Value} {kA : ClassId} (eT : T.heap = h) (A : Ary Z h a kA .boolean N f) (hj : ¬ j < 0) (hjn : j.toNatClampNeg = jn) (hlt : jn < N) (hv : f jn = v) (hd : decode bytes pc = .ok (.baload, 1)) (hp : pc + 1 = pc') (k : Go p e below P (T.setTop (mkF m pc' Ls (v :: rest)))) : Go p e below P (T.setTop (mkF m pc Ls (.int j :: .ref a :: rest))) := by
  subst hp hjn hv
  obtain ⟨cl, A1, q1, q2, q3, q4⟩ := A
  exact Go.on (X.baloadBooleans B.1 (j := j) (by rw [eT]; exact A1.1) (State.isArrayOf_alike B.2.2.2.2.2.2.2.alike A1.2.1) A1.2.2 (by rw [q2]; intro z; rcases z with z | z; exact hj z; omega) (q4 _ hlt) (g := mkF m pc Ls (.int j :: .ref a :: rest)) rfl rfl (hb B.2.1 hd)) k
theorem s_ldC (B : Ctx p s m meth c Z own nm bytes maxL ret) (X : Stand p l e R s m args below meth c T locs cells slots) {a : Addr} {v : Value} {j : Int32} {jn N : Nat} {f : Nat → Value} {kA : ClassId} (eT : T.heap = h) (A : Ary Z h a kA .char N f) (hj : ¬ j < 0) (hjn : j.toNatClampNeg = jn) (hlt : jn < N) (hv : f jn = v) (hd : decode bytes pc = .ok (.caload, 1)) (hp : pc + 1 = pc') (k : Go p e below P (T.setTop (mkF m pc' Ls (v :: rest)))) : Go p e below P (T.setTop (mkF m pc Ls (.int j :: .ref a :: rest))) := by
  subst hp hjn hv
  obtain ⟨cl, A1, q1, q2, q3, q4⟩ := A
  exact Go.on (X.caload B.1 (j := j) (by rw [eT]; exact A1.1) (State.isArrayOf_alike B.2.2.2.2.2.2.2.alike A1.2.1) A1.2.2 (by rw [q2]; intro z; rcases z with z | z; exact hj z; omega) (q4 _ hlt) (g := mkF m pc Ls (.int j :: .ref a :: rest)) rfl rfl (hb B.2.1 hd)) k
theorem s_ldR (B : Ctx p s m meth c Z own nm bytes maxL ret) (X : Stand p l e R s m args below meth c T locs cells slots) {a : Addr} {v : Value} {ty : FieldType} {j : Int32} {jn N : Nat} {f : Nat → Value} {kA : ClassId} (eT : T.heap = h) (A : Ary Z h a kA ty N f) (hty : ty.isReference = true) (hj : ¬ j < 0) (hjn : j.toNatClampNeg = jn) (hlt : jn < N) (hv : f jn = v) (hd : decode bytes pc = .ok (.aaload, 1)) (hp : pc + 1 = pc') (k : Go p e below P (T.setTop (mkF m pc' Ls (v :: rest)))) : Go p e below P (T.setTop (mkF m pc Ls (.int j :: .ref a :: rest))) := by
  subst hp hjn hv
  obtain ⟨cl, A1, q1, q2, q3, q4⟩ := A
  exact Go.on (X.aaload B.1 (j := j) (by rw [eT]; exact A1.1) (State.isArrayOf_alike B.2.2.2.2.2.2.2.alike A1.2.1) hty A1.2.2 (by rw [q2]; intro z; rcases z with z | z; exact hj z; omega) (q4 _ hlt) (g := mkF m pc Ls (.int j :: .ref a :: rest)) rfl rfl (hb B.2.1 hd)) k
theorem s_len (B : Ctx p s m meth c Z own nm bytes maxL ret) (X : Stand p l e R s m args below meth c T locs cells slots) {a : Addr} {v : Int32} {ty : FieldType} {N : Nat} {f : Nat → Value} {kA : ClassId} (eT : T.heap = h) (A : Ary Z h a kA ty N f) (hv : N.toInt32 = v) (hd : decode bytes pc = .ok (.arraylength, 1)) (hp : pc + 1 = pc') (k : Go p e below P (T.setTop (mkF m pc' Ls (.int v :: rest)))) : Go p e below P (T.setTop (mkF m pc Ls (.ref a :: rest))) := by
  subst hp hv
  obtain ⟨cl, A1, q1, q2, q3, q4⟩ := A
  subst q2
  exact Go.on (X.arraylength B.1 (by rw [eT]; exact A1.1) (State.isArrayOf_alike B.2.2.2.2.2.2.2.alike A1.2.1) (g := mkF m pc Ls (.ref a :: rest)) rfl rfl (hb B.2.1 hd)) k
theorem s_castY (B : Ctx p s m meth c Z own nm bytes maxL ret) (X : Stand p l e R s m args below meth c T locs cells slots) {i0 : Nat} {K : String} {a : Addr} (eT : T.heap = h) (w : (Jvm.Cond.classLink own i0 K).before a0 Z = true) (F : Ins Z h a K true) (hd : decode bytes pc = .ok (.checkcast i0, 3)) (hp : pc + 3 = pc') (k : ∀ T', Stand p l e R s m args below meth c T' locs cells slots → T'.heap = h → Go p e below P (T'.setTop (mkF m pc' Ls (.ref a :: rest)))) : Go p e below P (T.setTop (mkF m pc Ls (.ref a :: rest))) := by
  subst hp
  obtain ⟨T', X', e', st⟩ := castY X B.1 B.2.2.2.2.2.2.2 B.2.2.2.1 w eT F (g := mkF m pc Ls (.ref a :: rest)) rfl rfl (hb B.2.1 hd)
  exact Go.on st (k T' X' e')
theorem s_instY (B : Ctx p s m meth c Z own nm bytes maxL ret) (X : Stand p l e R s m args below meth c T locs cells slots) {i0 : Nat} {K : String} {a : Addr} (eT : T.heap = h) (w : (Jvm.Cond.classLink own i0 K).before a0 Z = true) (F : Ins Z h a K true) (hd : decode bytes pc = .ok (.instanceof i0, 3)) (hp : pc + 3 = pc') (k : ∀ T', Stand p l e R s m args below meth c T' locs cells slots → T'.heap = h → Go p e below P (T'.setTop (mkF m pc' Ls (.int 1 :: rest)))) : Go p e below P (T.setTop (mkF m pc Ls (.ref a :: rest))) := by
  subst hp
  obtain ⟨T', X', e', st⟩ := instY X B.1 B.2.2.2.2.2.2.2 B.2.2.2.1 w eT F (g := mkF m pc Ls (.ref a :: rest)) rfl rfl (hb B.2.1 hd)
  exact Go.on st (k T' X' e')
theorem s_tswIn (B : Ctx p s m meth c Z own nm bytes maxL ret) (X : Stand p l e R s m args below meth c T locs cells slots) {df lo hi : Int} {offs : Array Int} {len : Nat} {o : Int} {x : Int32} (hd : decode bytes pc = .ok (.tableswitch df lo hi offs, len)) (hin : ¬ (x.toInt < lo ∨ x.toInt > hi)) (hoff : offs[(x.toInt - lo).toNat]? = some o) (ho : 0 ≤ (pc : Int) + o) (hp : ((pc : Int) + o).toNat = pc') (k : Go p e below P (T.setTop (mkF m pc' Ls (rest)))) : Go p e below P (T.setTop (mkF m pc Ls (.int x :: rest))) := Go.on (fun t => XS.tswIn (g := mkF m pc Ls (.int x :: rest)) X.here B.1 rfl (pc0 := pc) rfl (hb B.2.1 hd) (i := x) (rest := rest) rfl hin hoff ho hp) k
theorem s_tswOut (B : Ctx p s m meth c Z own nm bytes maxL ret) (X : Stand p l e R s m args below meth c T locs cells slots) {df lo hi : Int} {offs : Array Int} {len : Nat} {x : Int32} (hd : decode bytes pc = .ok (.tableswitch df lo hi offs, len)) (hout : x.toInt < lo ∨ x.toInt > hi) (ho : 0 ≤ (pc : Int) + df) (hp : ((pc : Int) + df).toNat = pc') (k : Go p e below P (T.setTop (mkF m pc' Ls (rest)))) : Go p e below P (T.setTop (mkF m pc Ls (.int x :: rest))) := Go.on (fun t => XS.tswOut (g := mkF m pc Ls (.int x :: rest)) X.here B.1 rfl (pc0 := pc) rfl (hb B.2.1 hd) (i := x) (rest := rest) rfl hout ho hp) k
end Heap
end Jvm.OwnKit

namespace Jvm.OwnKit
open Sem ClassFile Op Lib Jvm.Stand Jvm.Free Jvm.LawKit Jvm.RoadKit
section Start
variable {args : Array Value} {s : State} {t u : Term}
theorem eqI_v {k : Int32} (h : (Jvm.Cond.eq t (.int k)).value args s none s [] = some true) : t.eval args s none [] s = some (.int k) := by
  cases ht : t.eval args s none [] s with
  | none => simp [Cond.value, ht] at h
  | some x => cases x <;> simp [Cond.value, ht, Term.eval] at h ⊢; exact h
theorem eqJ_v {k : Int64} (h : (Jvm.Cond.eq t (.long k)).value args s none s [] = some true) : t.eval args s none [] s = some (.long k) := by
  cases ht : t.eval args s none [] s with
  | none => simp [Cond.value, ht] at h
  | some x => cases x <;> simp [Cond.value, ht, Term.eval] at h ⊢; exact h
theorem eqR_v {a : Addr} (hu : u.eval args s none [] s = some (.ref a)) (h : (Jvm.Cond.eq t u).value args s none s [] = some true) : t.eval args s none [] s = some (.ref a) := by
  cases ht : t.eval args s none [] s with
  | none => simp [Cond.value, ht] at h
  | some x => cases x <;> simp [Cond.value, ht, hu] at h ⊢; exact h
end Start
end Jvm.OwnKit

namespace Jvm.OwnKit
open Sem ClassFile Op Lib Jvm.Stand Jvm.Free Jvm.LawKit Jvm.RoadKit
section Tab
variable {args : Array Value} {s : State} {t : Term} {a : Addr} {c : Cell} {ty : FieldType} {i n : Nat} {C : Jvm.Cond}
theorem tab_len {N : Int32} (ht : t.eval args s none [] s = some (.ref a)) (A : Arr s s.heap a c ty) (h : (Jvm.Cond.eq (.length t) (.int N)).value args s none s [] = some true) (hn : N.toNatClampNeg = n) : c.slots.size = n ∧ n < 2 ^ 31 := by
  have e := eqI_v h
  have hat := A.fin (Vm.Alike.refl s.vm)
  simp only [Term.eval, ht, Option.bind_eq_bind, Option.bind_some, hat] at e
  split at e
  · rename_i q
    have e2 : c.slots.size.toInt32 = N := by simpa using e
    have e3 := len_toInt q
    rw [e2] at e3
    have e4 : N.toNatClampNeg = c.slots.size := by simp only [Int32.toNatClampNeg]; rw [e3]; rfl
    rw [hn] at e4
    exact ⟨e4.symm, e4 ▸ q⟩
  · cases e
theorem tab_all (ht : t.eval args s none [] s = some (.ref a)) (A : Arr s s.heap a c ty) (h : (Jvm.Cond.all t C).value args s none s [] = some true) (hi : i < c.slots.size) : C.value args s none s [i] = some true := Cond.all_elim ht (A.fin (Vm.Alike.refl _)) h i hi
theorem tab_or {D : Jvm.Cond} (h : (Jvm.Cond.or C D).value args s none s [i] = some true) (hc : C.value args s none s [i] = some false) : D.value args s none s [i] = some true := by
  simp only [Cond.value, hc] at h; exact h
theorem tab_lo {k : Int32} (hi : i < 2 ^ 31) (q : k.toInt ≤ i) : (Jvm.Cond.lt (.index 0) (.int k)).value args s none s [i] = some false := by
  have e := len_toInt hi
  simp only [Cond.value, Term.index_eval, Term.int_eval]
  exact congrArg some (decide_eq_false fun z => by rw [Int32.lt_iff_toInt_lt, e] at z; omega)
theorem tab_hi {k : Int32} (hi : i < 2 ^ 31) (q : i < k.toInt) : (Jvm.Cond.le (.int k) (.index 0)).value args s none s [i] = some false := by
  have e := len_toInt hi
  simp only [Cond.value, Term.index_eval, Term.int_eval]
  exact congrArg some (decide_eq_false fun z => by rw [Int32.le_iff_toInt_le, e] at z; omega)
theorem tab_el {v : Value} {j : Term} (ht : t.eval args s none [i] s = some (.ref a)) (A : Arr s s.heap a c ty) (hi : i < 2 ^ 31) (h : (Term.elem t (.index 0)).eval args s none [i] s = some v) : c.slots[i]? = some v := by
  have e := (elem_in h ht (Term.index_eval i) A.1).2
  have e3 := len_toInt hi
  rwa [show i.toInt32.toNatClampNeg = i by simp only [Int32.toNatClampNeg]; rw [e3]; rfl] at e
theorem tab_at {v : Value} {k : Int32} (ht : t.eval args s none [] s = some (.ref a)) (A : Arr s s.heap a c ty) (h : (Term.elem t (.int k)).eval args s none [] s = some v) (hk : k.toNatClampNeg = i) : c.slots[i]? = some v := by
  have e := (elem_in h ht rfl A.1).2
  rwa [hk] at e
theorem eqI_i {k : Int32} {t : Term} (h : (Jvm.Cond.eq t (.int k)).value args s none s [i] = some true) : t.eval args s none [i] s = some (.int k) := by
  cases ht : t.eval args s none [i] s with
  | none => simp [Cond.value, ht] at h
  | some x => cases x <;> simp [Cond.value, ht, Term.eval] at h ⊢; exact h
theorem tab_nat (hi : i < 2 ^ 31) : i.toInt32.toNatClampNeg = i := by
  have e3 := len_toInt hi
  simp only [Int32.toNatClampNeg]; rw [e3]; rfl
theorem tab_sub {t : Term} {k : Int32} (h : (Jvm.Cond.eq t (.sub (.index 0) (.int k))).value args s none s [i] = some true) : ∃ z, t.eval args s none [i] s = some (.int z) ∧ z = i.toInt32 - k := by
  cases ht : t.eval args s none [i] s with
  | none => simp [Cond.value, ht] at h
  | some x => cases x <;> simp [Cond.value, ht, Term.eval] at h ⊢; exact h
theorem tab_lng {t : Term} (h : (Jvm.Cond.eq (.op1 .i2l t) (.op2 .ladd (.op1 .i2l (.index 0)) (.long 4))).value args s none s [i] = some true) : ∃ z, t.eval args s none [i] s = some (.int z) ∧ z.toInt64 = i.toInt32.toInt64 + 4 := by
  cases ht : t.eval args s none [i] s with
  | none => simp [Cond.value, ht, Term.eval] at h
  | some x => cases x <;> simp [Cond.value, ht, Term.eval, Unary.apply, Binary.apply] at h ⊢; exact h
theorem tab_neg {z k : Int32} {n : Int} {P : Prop} (hi : i < 2 ^ 31) (e : z = i.toInt32 - k) (hk : k.toInt = n) (h : 0 ≤ (i : Int) - n ∧ 0 ≤ n) (hP : P) : z = -1 ↔ ¬ P := by
  have e3 := len_toInt hi; have e4 := c_isub i.toInt32 k; have r := rng32 (i.toInt32 - k); have m : (-1 : Int32).toInt = -1 := by decide
  constructor
  · intro q; rw [q] at e; rw [← e, m, e3, hk] at e4; omega
  · intro q; exact absurd hP q
theorem tab_neg4 {z : Int32} {P : Prop} (hi : i < 2 ^ 31) (e : z.toInt64 = i.toInt32.toInt64 + 4) (hP : P) : z = -1 ↔ ¬ P := by
  have e3 := len_toInt hi; have e4 := c_ladd i.toInt32.toInt64 4; have m : (-1 : Int32).toInt64.toInt = -1 := by decide
  have m4 : (4 : Int64).toInt = 4 := by decide
  constructor
  · intro q; rw [q] at e; rw [← e, m, c_i2l, e3, m4] at e4; omega
  · intro q; exact absurd hP q
end Tab
end Jvm.OwnKit

namespace Jvm.OwnKit
open Sem ClassFile Op Lib Jvm.Stand Jvm.Free Jvm.LawKit Jvm.RoadKit
section Calls
variable {p : Program} {l : Launch} {e : Env} {R : Room} {s : State} {m : MethodId} {args : Array Value} {below : List Frame} {meth : Method} {c : Code} {T : State} {locs : List Loc} {cells slots : Nat} {Z : State} {a0 : Array Value} {h h' : Heap} {own nm : String} {bytes : ByteArray} {maxL : Nat} {ret : Option FieldType} {P : Outcome → State → Prop} {pc pc' : Nat} {Ls Ls' : Array Slot} {rest : List Value}
theorem c_private (B : Ctx p s m meth c Z own nm bytes maxL ret) (X : Stand p l e R s m args below meth c T locs cells slots) {y : MethodName} {bs : ByteArray} {mx : Nat} {rt : Option FieldType} {rm : Room} {i W : Nat} {argsL under : List Value} {Q : Option Value → Heap → List Loc → Prop} {st : List Value} {n0 : Nat} {b : Addr} (eT : T.heap = h) (w1 : (Jvm.Cond.methodLink own i y).before a0 Z = true) (wi : (Jvm.Cond.instantiable y.cls n0).before a0 Z = true) (wp : (Jvm.Cond.privateMethod y).before a0 Z = true) (w4 : (Jvm.Cond.instanceMethod y).before a0 Z = true) (wc : (Jvm.Cond.code y bs mx rt).before a0 Z = true) (wz : (Jvm.Cond.initialized y.cls).before a0 Z = true) (hy : y.cls ≠ "java/lang/invoke/MethodHandle" ∧ y.cls ≠ "java/lang/invoke/VarHandle") (hM : OMeets l Z y bs mx rt [] rm (.ref b :: argsL).toArray h Q) (E : Exa Z h b y.cls) (hlen : ∀ sig, parseMethodDescriptor y.desc = some sig → argsL.length = sig.parameters.length) (hst : st = argsL.reverse ++ .ref b :: under) (hW : (under.map fun v => v.category).sum = W) (hf : rm.frames + 1 ≤ R.frames) (hlo : W + (mx + 11) + rm.locals ≤ R.locals) (hce : cells + rm.cells ≤ R.cells) (hsl : slots + rm.slots ≤ R.slots) (hsz : Ls.size = maxL) (hd : decode bytes pc = .ok (.invokevirtual i, 3)) (hp : pc + 3 = pc') (k : ∀ v T' L, Stand p l e R s m args below meth c T' (locs ++ L) (cells + rm.cells) (slots + rm.slots) → Q v T'.heap L → Go p e below P (T'.setTop (mkF m pc' Ls (v.toList ++ under)))) : Go p e below P (T.setTop (mkF m pc Ls st)) := by
  subst hp hst
  obtain ⟨cq, qa, qc⟩ := E.cell
  obtain ⟨ci, ki, i1, i2, -, i4, -, -⟩ := Cond.instantiable_spec (mvT (args := args) B.2.2.2.2.2.2.2 wi)
  have hni : ki.isInterface = false := by
    cases hi : ki.isInterface
    · rfl
    · simp [hi] at i4
  have hpr := Cond.privateMethod_at (mvP (args := args) B.2.2.2.2.2.2.2 wp)
  obtain ⟨v, _, ⟨T', L', k', n'⟩, -, X', ⟨Lc, hQ, l', y', z'⟩, st'⟩ := X.privateBack B.1 (y := y) B.2.2.2.1 (mvT B.2.2.2.2.2.2.2 w1) (mvT B.2.2.2.2.2.2.2 w4) (selects_self_of_private i1 i2 hni hpr (mvT B.2.2.2.2.2.2.2 w4) hy) hpr (mvT B.2.2.2.2.2.2.2 wc) hy (backOf (W := W) hM B.2.2.2.2.2.2.2 wc wz hf hlo) (g := mkF m pc Ls (argsL.reverse ++ .ref b :: under)) rfl (by rw [B.2.2.1]; exact hsz) (Steps.refl _) (by rw [eT]; exact qa) qc (argsL := argsL) (rest := under) hlen rfl (by show 2 * 0 + _ ≤ _; rw [Nat.mul_zero, Nat.zero_add]; exact Nat.le_of_eq hW) (hb B.2.1 hd) (fun _ _ => ⟨rfl, eT, hce, hsl⟩)
  dsimp only [Pt.U, Pt.locs, Pt.cells, Pt.slots] at X' l' y' z' st' hQ
  subst l' y' z'
  exact Go.on (fun t q => st'.trans q) (k v T' Lc X' hQ)
theorem p_private (B : Ctx p s m meth c Z own nm bytes maxL ret) (X : Stand p l e R s m args below meth c T locs cells slots) {y : MethodName} {bs : ByteArray} {mx : Nat} {rt : Option FieldType} {rm : Room} {i W : Nat} {argsL under : List Value} {st : List Value} {n0 : Nat} {b : Addr} {r : Option Value} (eT : T.heap = h) (w1 : (Jvm.Cond.methodLink own i y).before a0 Z = true) (wi : (Jvm.Cond.instantiable y.cls n0).before a0 Z = true) (wp : (Jvm.Cond.privateMethod y).before a0 Z = true) (w4 : (Jvm.Cond.instanceMethod y).before a0 Z = true) (wc : (Jvm.Cond.code y bs mx rt).before a0 Z = true) (wz : (Jvm.Cond.initialized y.cls).before a0 Z = true) (hy : y.cls ≠ "java/lang/invoke/MethodHandle" ∧ y.cls ≠ "java/lang/invoke/VarHandle") (hM : OMeets l Z y bs mx rt [] rm (.ref b :: argsL).toArray h (PureQ r h)) (E : Exa Z h b y.cls) (hlen : ∀ sig, parseMethodDescriptor y.desc = some sig → argsL.length = sig.parameters.length) (hst : st = argsL.reverse ++ .ref b :: under) (hW : (under.map fun v => v.category).sum = W) (hf : rm.frames + 1 ≤ R.frames) (hlo : W + (mx + 11) + rm.locals ≤ R.locals) (hce : rm.cells = 0) (hsl : rm.slots = 0) (hc0 : cells ≤ R.cells) (hs0 : slots ≤ R.slots) (hsz : Ls.size = maxL) (hd : decode bytes pc = .ok (.invokevirtual i, 3)) (hp : pc + 3 = pc') (k : ∀ T', Stand p l e R s m args below meth c T' locs cells slots → T'.heap = h → Go p e below P (T'.setTop (mkF m pc' Ls (r.toList ++ under)))) : Go p e below P (T.setTop (mkF m pc Ls st)) := by
  refine c_private B X eT w1 wi wp w4 wc wz hy hM E hlen hst hW hf hlo (by omega) (by omega) hsz hd hp ?_
  intro v T' L X' hQ
  obtain ⟨rfl, rfl, e'⟩ := hQ
  rw [hce, hsl, List.append_nil] at X'
  exact k T' X' e'
theorem c_iface (B : Ctx p s m meth c Z own nm bytes maxL ret) (X : Stand p l e R s m args below meth c T locs cells slots) {y z : MethodName} {bs : ByteArray} {mx : Nat} {rt : Option FieldType} {rm : Room} {i W : Nat} {argsL under : List Value} {Q : Option Value → Heap → List Loc → Prop} {st : List Value} {C : String} {cnt : Nat} {b : Addr} (eT : T.heap = h) (w1 : (Jvm.Cond.methodLink own i y).before a0 Z = true) (w2 : (Jvm.Cond.declares y).before a0 Z = true) (w3 : (Jvm.Cond.interfaceMethod y.cls y.cls y.name y.desc).before a0 Z = true) (w4 : (Jvm.Cond.selects C y z).before a0 Z = true) (w5 : (Jvm.Cond.instanceMethod z).before a0 Z = true) (w6 : (Jvm.Cond.publicMethod z).before a0 Z = true) (w7 : (Jvm.Cond.unhidden C y.name y.desc).before a0 Z = true) (w8 : (Jvm.Cond.castable C y.cls).before a0 Z = true) (wc : (Jvm.Cond.code z bs mx rt).before a0 Z = true) (wz : (Jvm.Cond.initialized z.cls).before a0 Z = true) (hy : y.cls ≠ "java/lang/invoke/MethodHandle" ∧ y.cls ≠ "java/lang/invoke/VarHandle") (hM : OMeets l Z z bs mx rt [] rm (.ref b :: argsL).toArray h Q) (E : Exa Z h b C) (hlen : ∀ sig, parseMethodDescriptor y.desc = some sig → argsL.length = sig.parameters.length) (hst : st = argsL.reverse ++ .ref b :: under) (hW : (under.map fun v => v.category).sum = W) (hf : rm.frames + 1 ≤ R.frames) (hlo : W + (mx + 11) + rm.locals ≤ R.locals) (hce : cells + rm.cells ≤ R.cells) (hsl : slots + rm.slots ≤ R.slots) (hsz : Ls.size = maxL) (hd : decode bytes pc = .ok (.invokeinterface i cnt, 5)) (hp : pc + 5 = pc') (k : ∀ v T' L, Stand p l e R s m args below meth c T' (locs ++ L) (cells + rm.cells) (slots + rm.slots) → Q v T'.heap L → Go p e below P (T'.setTop (mkF m pc' Ls (v.toList ++ under)))) : Go p e below P (T.setTop (mkF m pc Ls st)) := by
  subst hp hst
  obtain ⟨cq, kq, qa, qb, qc⟩ := isOf B.2.2.2.2.2.2.2 eT E
  obtain ⟨v, _, ⟨T', L', k', n'⟩, -, X', ⟨Lc, hQ, l', y', z'⟩, st'⟩ := X.interfaceBack B.1 (xi := y) (y := z) B.2.2.2.1 (mvT B.2.2.2.2.2.2.2 w1) (mvT B.2.2.2.2.2.2.2 w2) (mvT B.2.2.2.2.2.2.2 w3 (by simp [Cond.onTables, Cond.keepsFace, Cond.keeps, Cond.steady, Cond.faceAtom, hy.1, hy.2])) (mvT B.2.2.2.2.2.2.2 w4) (mvT B.2.2.2.2.2.2.2 w5) (mvT B.2.2.2.2.2.2.2 w6) (mvT B.2.2.2.2.2.2.2 w7) (mvT B.2.2.2.2.2.2.2 w8) hy (backOf (W := W) hM B.2.2.2.2.2.2.2 wc wz hf hlo) qa qb qc (g := mkF m pc Ls (argsL.reverse ++ .ref b :: under)) rfl (by rw [B.2.2.1]; exact hsz) (Steps.refl _) (argsL := argsL) (rest := under) hlen rfl (by show 2 * 0 + _ ≤ _; rw [Nat.mul_zero, Nat.zero_add]; exact Nat.le_of_eq hW) (hb B.2.1 hd) (fun _ _ => ⟨rfl, eT, hce, hsl⟩)
  dsimp only [Pt.U, Pt.locs, Pt.cells, Pt.slots] at X' l' y' z' st' hQ
  subst l' y' z'
  exact Go.on (fun t q => st'.trans q) (k v T' Lc X' hQ)
theorem p_iface (B : Ctx p s m meth c Z own nm bytes maxL ret) (X : Stand p l e R s m args below meth c T locs cells slots) {y z : MethodName} {bs : ByteArray} {mx : Nat} {rt : Option FieldType} {rm : Room} {i W : Nat} {argsL under : List Value} {st : List Value} {C : String} {cnt : Nat} {b : Addr} {r : Option Value} (eT : T.heap = h) (w1 : (Jvm.Cond.methodLink own i y).before a0 Z = true) (w2 : (Jvm.Cond.declares y).before a0 Z = true) (w3 : (Jvm.Cond.interfaceMethod y.cls y.cls y.name y.desc).before a0 Z = true) (w4 : (Jvm.Cond.selects C y z).before a0 Z = true) (w5 : (Jvm.Cond.instanceMethod z).before a0 Z = true) (w6 : (Jvm.Cond.publicMethod z).before a0 Z = true) (w7 : (Jvm.Cond.unhidden C y.name y.desc).before a0 Z = true) (w8 : (Jvm.Cond.castable C y.cls).before a0 Z = true) (wc : (Jvm.Cond.code z bs mx rt).before a0 Z = true) (wz : (Jvm.Cond.initialized z.cls).before a0 Z = true) (hy : y.cls ≠ "java/lang/invoke/MethodHandle" ∧ y.cls ≠ "java/lang/invoke/VarHandle") (hM : OMeets l Z z bs mx rt [] rm (.ref b :: argsL).toArray h (PureQ r h)) (E : Exa Z h b C) (hlen : ∀ sig, parseMethodDescriptor y.desc = some sig → argsL.length = sig.parameters.length) (hst : st = argsL.reverse ++ .ref b :: under) (hW : (under.map fun v => v.category).sum = W) (hf : rm.frames + 1 ≤ R.frames) (hlo : W + (mx + 11) + rm.locals ≤ R.locals) (hce : rm.cells = 0) (hsl : rm.slots = 0) (hc0 : cells ≤ R.cells) (hs0 : slots ≤ R.slots) (hsz : Ls.size = maxL) (hd : decode bytes pc = .ok (.invokeinterface i cnt, 5)) (hp : pc + 5 = pc') (k : ∀ T', Stand p l e R s m args below meth c T' locs cells slots → T'.heap = h → Go p e below P (T'.setTop (mkF m pc' Ls (r.toList ++ under)))) : Go p e below P (T.setTop (mkF m pc Ls st)) := by
  refine c_iface B X eT w1 w2 w3 w4 w5 w6 w7 w8 wc wz hy hM E hlen hst hW hf hlo (by omega) (by omega) hsz hd hp ?_
  intro v T' L X' hQ
  obtain ⟨rfl, rfl, e'⟩ := hQ
  rw [hce, hsl, List.append_nil] at X'
  exact k T' X' e'
end Calls
end Jvm.OwnKit

namespace Jvm.Pilot.@@N@@
open Jvm Jvm.ClassFile Sem Op Lib Jvm.Free Jvm.Stand Jvm.LawKit Jvm.RoadKit Jvm.OwnKit Bundle Jvm.Pilot.@@N@@.Jvm.D
theorem tw0 {Z : State} {a0 : Array Value} (hw : ∀ d ∈ tables_1, d.before a0 Z = true) : (Jvm.Cond.classLink "com/example/lichen/lichen/solver/WaysNeverPinLaw" (7 : Nat) "java/util/ArrayList").before a0 Z = true := hw _ (List.mem_of_getElem? (i := 0) rfl)
theorem tw1 {Z : State} {a0 : Array Value} (hw : ∀ d ∈ tables_1, d.before a0 Z = true) : (Jvm.Cond.instantiable "java/util/ArrayList" (3 : Nat)).before a0 Z = true := hw _ (List.mem_of_getElem? (i := 1) rfl)
theorem tw2 {Z : State} {a0 : Array Value} (hw : ∀ d ∈ tables_1, d.before a0 Z = true) : (Jvm.Cond.initialized "java/util/ArrayList").before a0 Z = true := hw _ (List.mem_of_getElem? (i := 2) rfl)
theorem tw3 {Z : State} {a0 : Array Value} (hw : ∀ d ∈ tables_1, d.before a0 Z = true) : (Jvm.Cond.methodLink "com/example/lichen/lichen/solver/WaysNeverPinLaw" (9 : Nat) ({ cls := "java/util/ArrayList", name := "<init>", desc := "()V" } : Jvm.MethodName)).before a0 Z = true := hw _ (List.mem_of_getElem? (i := 3) rfl)
theorem tw4 {Z : State} {a0 : Array Value} (hw : ∀ d ∈ tables_1, d.before a0 Z = true) : (Jvm.Cond.instanceMethod ({ cls := "java/util/ArrayList", name := "<init>", desc := "()V" } : Jvm.MethodName)).before a0 Z = true := hw _ (List.mem_of_getElem? (i := 4) rfl)
theorem tw5 {Z : State} {a0 : Array Value} (hw : ∀ d ∈ tables_1, d.before a0 Z = true) : (Jvm.Cond.code ({ cls := "java/util/ArrayList", name := "<init>", desc := "()V" } : Jvm.MethodName) jdk_38_method_2_code (1 : Nat) (Option.none : Option Jvm.ClassFile.FieldType)).before a0 Z = true := hw _ (List.mem_of_getElem? (i := 5) rfl)
theorem tw6 {Z : State} {a0 : Array Value} (hw : ∀ d ∈ tables_1, d.before a0 Z = true) : (Jvm.Cond.methodLink "java/util/ArrayList" (1 : Nat) ({ cls := "java/util/AbstractList", name := "<init>", desc := "()V" } : Jvm.MethodName)).before a0 Z = true := hw _ (List.mem_of_getElem? (i := 6) rfl)
theorem tw7 {Z : State} {a0 : Array Value} (hw : ∀ d ∈ tables_1, d.before a0 Z = true) : (Jvm.Cond.instanceMethod ({ cls := "java/util/AbstractList", name := "<init>", desc := "()V" } : Jvm.MethodName)).before a0 Z = true := hw _ (List.mem_of_getElem? (i := 7) rfl)
theorem tw10 {Z : State} {a0 : Array Value} (hw : ∀ d ∈ tables_1, d.before a0 Z = true) : (Jvm.Cond.initialized "java/util/AbstractList").before a0 Z = true := hw _ (List.mem_of_getElem? (i := 10) rfl)
theorem tw11 {Z : State} {a0 : Array Value} (hw : ∀ d ∈ tables_1, d.before a0 Z = true) : (Jvm.Cond.code ({ cls := "java/util/AbstractList", name := "<init>", desc := "()V" } : Jvm.MethodName) jdk_39_method_1_code (1 : Nat) (Option.none : Option Jvm.ClassFile.FieldType)).before a0 Z = true := hw _ (List.mem_of_getElem? (i := 11) rfl)
theorem tw12 {Z : State} {a0 : Array Value} (hw : ∀ d ∈ tables_1, d.before a0 Z = true) : (Jvm.Cond.methodLink "java/util/AbstractList" (1 : Nat) ({ cls := "java/util/AbstractCollection", name := "<init>", desc := "()V" } : Jvm.MethodName)).before a0 Z = true := hw _ (List.mem_of_getElem? (i := 12) rfl)
theorem tw13 {Z : State} {a0 : Array Value} (hw : ∀ d ∈ tables_1, d.before a0 Z = true) : (Jvm.Cond.instanceMethod ({ cls := "java/util/AbstractCollection", name := "<init>", desc := "()V" } : Jvm.MethodName)).before a0 Z = true := hw _ (List.mem_of_getElem? (i := 13) rfl)
theorem tw16 {Z : State} {a0 : Array Value} (hw : ∀ d ∈ tables_1, d.before a0 Z = true) : (Jvm.Cond.initialized "java/util/AbstractCollection").before a0 Z = true := hw _ (List.mem_of_getElem? (i := 16) rfl)
theorem tw17 {Z : State} {a0 : Array Value} (hw : ∀ d ∈ tables_1, d.before a0 Z = true) : (Jvm.Cond.code ({ cls := "java/util/AbstractCollection", name := "<init>", desc := "()V" } : Jvm.MethodName) jdk_22_method_1_code (1 : Nat) (Option.none : Option Jvm.ClassFile.FieldType)).before a0 Z = true := hw _ (List.mem_of_getElem? (i := 17) rfl)
theorem tw18 {Z : State} {a0 : Array Value} (hw : ∀ d ∈ tables_1, d.before a0 Z = true) : (Jvm.Cond.methodLink "java/util/AbstractCollection" (1 : Nat) ({ cls := "java/lang/Object", name := "<init>", desc := "()V" } : Jvm.MethodName)).before a0 Z = true := hw _ (List.mem_of_getElem? (i := 18) rfl)
theorem tw19 {Z : State} {a0 : Array Value} (hw : ∀ d ∈ tables_1, d.before a0 Z = true) : (Jvm.Cond.instanceMethod ({ cls := "java/lang/Object", name := "<init>", desc := "()V" } : Jvm.MethodName)).before a0 Z = true := hw _ (List.mem_of_getElem? (i := 19) rfl)
theorem tw20 {Z : State} {a0 : Array Value} (hw : ∀ d ∈ tables_1, d.before a0 Z = true) : (Jvm.Cond.code ({ cls := "java/lang/Object", name := "<init>", desc := "()V" } : Jvm.MethodName) object_method_1_code (1 : Nat) (Option.none : Option Jvm.ClassFile.FieldType)).before a0 Z = true := hw _ (List.mem_of_getElem? (i := 20) rfl)
theorem tw21 {Z : State} {a0 : Array Value} (hw : ∀ d ∈ tables_1, d.before a0 Z = true) : (Jvm.Cond.fieldLink "java/util/AbstractList" (7 : Nat) "java/util/AbstractList" "modCount" "I").before a0 Z = true := hw _ (List.mem_of_getElem? (i := 21) rfl)
theorem tw22 {Z : State} {a0 : Array Value} (hw : ∀ d ∈ tables_1, d.before a0 Z = true) : (Jvm.Cond.lays "java/util/ArrayList" "java/util/AbstractList" "modCount" "I").before a0 Z = true := hw _ (List.mem_of_getElem? (i := 22) rfl)
theorem tw23 {Z : State} {a0 : Array Value} (hw : ∀ d ∈ tables_1, d.before a0 Z = true) : (Jvm.Cond.fieldLink "java/util/ArrayList" (39 : Nat) "java/util/ArrayList" "DEFAULTCAPACITY_EMPTY_ELEMENTDATA" "[Ljava/lang/Object;").before a0 Z = true := hw _ (List.mem_of_getElem? (i := 23) rfl)
theorem tw24 {Z : State} {a0 : Array Value} (hw : ∀ d ∈ tables_1, d.before a0 Z = true) : (Jvm.Cond.fieldLink "java/util/ArrayList" (9 : Nat) "java/util/ArrayList" "elementData" "[Ljava/lang/Object;").before a0 Z = true := hw _ (List.mem_of_getElem? (i := 24) rfl)
theorem tw25 {Z : State} {a0 : Array Value} (hw : ∀ d ∈ tables_1, d.before a0 Z = true) : (Jvm.Cond.lays "java/util/ArrayList" "java/util/ArrayList" "elementData" "[Ljava/lang/Object;").before a0 Z = true := hw _ (List.mem_of_getElem? (i := 25) rfl)
theorem tw26 {Z : State} {a0 : Array Value} (hw : ∀ d ∈ tables_1, d.before a0 Z = true) : (Jvm.Cond.methodLink "com/example/lichen/lichen/solver/WaysNeverPinLaw" (19 : Nat) ({ cls := "java/lang/Integer", name := "valueOf", desc := "(I)Ljava/lang/Integer;" } : Jvm.MethodName)).before a0 Z = true := hw _ (List.mem_of_getElem? (i := 26) rfl)
theorem tw27 {Z : State} {a0 : Array Value} (hw : ∀ d ∈ tables_1, d.before a0 Z = true) : (Jvm.Cond.static ({ cls := "java/lang/Integer", name := "valueOf", desc := "(I)Ljava/lang/Integer;" } : Jvm.MethodName)).before a0 Z = true := hw _ (List.mem_of_getElem? (i := 27) rfl)
theorem tw28 {Z : State} {a0 : Array Value} (hw : ∀ d ∈ tables_1, d.before a0 Z = true) : (Jvm.Cond.initialized "java/lang/Integer").before a0 Z = true := hw _ (List.mem_of_getElem? (i := 28) rfl)
theorem tw29 {Z : State} {a0 : Array Value} (hw : ∀ d ∈ tables_1, d.before a0 Z = true) : (Jvm.Cond.code ({ cls := "java/lang/Integer", name := "valueOf", desc := "(I)Ljava/lang/Integer;" } : Jvm.MethodName) jdk_33_method_22_code (1 : Nat) (Option.some (Jvm.ClassFile.FieldType.object "java/lang/Integer"))).before a0 Z = true := hw _ (List.mem_of_getElem? (i := 29) rfl)
theorem tw30 {Z : State} {a0 : Array Value} (hw : ∀ d ∈ tables_1, d.before a0 Z = true) : (Jvm.Cond.fieldLink "java/lang/Integer" (191 : Nat) "java/lang/Integer$IntegerCache" "high" "I").before a0 Z = true := hw _ (List.mem_of_getElem? (i := 30) rfl)
theorem tw31 {Z : State} {a0 : Array Value} (hw : ∀ d ∈ tables_1, d.before a0 Z = true) : (Jvm.Cond.initialized "java/lang/Integer$IntegerCache").before a0 Z = true := hw _ (List.mem_of_getElem? (i := 31) rfl)
theorem tw32 {Z : State} {a0 : Array Value} (hw : ∀ d ∈ tables_1, d.before a0 Z = true) : (Jvm.Cond.fieldLink "java/lang/Integer" (195 : Nat) "java/lang/Integer$IntegerCache" "cache" "[Ljava/lang/Integer;").before a0 Z = true := hw _ (List.mem_of_getElem? (i := 32) rfl)
theorem tw33 {Z : State} {a0 : Array Value} (hw : ∀ d ∈ tables_1, d.before a0 Z = true) : (Jvm.Cond.methodLink "com/example/lichen/lichen/solver/WaysNeverPinLaw" (15 : Nat) ({ cls := "java/util/ArrayList", name := "add", desc := "(Ljava/lang/Object;)Z" } : Jvm.MethodName)).before a0 Z = true := hw _ (List.mem_of_getElem? (i := 33) rfl)
theorem tw34 {Z : State} {a0 : Array Value} (hw : ∀ d ∈ tables_1, d.before a0 Z = true) : (Jvm.Cond.declares ({ cls := "java/util/ArrayList", name := "add", desc := "(Ljava/lang/Object;)Z" } : Jvm.MethodName)).before a0 Z = true := hw _ (List.mem_of_getElem? (i := 34) rfl)
theorem tw35 {Z : State} {a0 : Array Value} (hw : ∀ d ∈ tables_1, d.before a0 Z = true) : (Jvm.Cond.instanceMethod ({ cls := "java/util/ArrayList", name := "add", desc := "(Ljava/lang/Object;)Z" } : Jvm.MethodName)).before a0 Z = true := hw _ (List.mem_of_getElem? (i := 35) rfl)
theorem tw36 {Z : State} {a0 : Array Value} (hw : ∀ d ∈ tables_1, d.before a0 Z = true) : (Jvm.Cond.selects "java/util/ArrayList" ({ cls := "java/util/ArrayList", name := "add", desc := "(Ljava/lang/Object;)Z" } : Jvm.MethodName) ({ cls := "java/util/ArrayList", name := "add", desc := "(Ljava/lang/Object;)Z" } : Jvm.MethodName)).before a0 Z = true := hw _ (List.mem_of_getElem? (i := 36) rfl)
theorem tw37 {Z : State} {a0 : Array Value} (hw : ∀ d ∈ tables_1, d.before a0 Z = true) : (Jvm.Cond.code ({ cls := "java/util/ArrayList", name := "add", desc := "(Ljava/lang/Object;)Z" } : Jvm.MethodName) jdk_38_method_25_code (2 : Nat) (Option.some Jvm.ClassFile.FieldType.boolean)).before a0 Z = true := hw _ (List.mem_of_getElem? (i := 37) rfl)
theorem tw38 {Z : State} {a0 : Array Value} (hw : ∀ d ∈ tables_1, d.before a0 Z = true) : (Jvm.Cond.fieldLink "java/util/ArrayList" (63 : Nat) "java/util/ArrayList" "modCount" "I").before a0 Z = true := hw _ (List.mem_of_getElem? (i := 38) rfl)
theorem tw39 {Z : State} {a0 : Array Value} (hw : ∀ d ∈ tables_1, d.before a0 Z = true) : (Jvm.Cond.sameField "java/util/ArrayList" "java/util/AbstractList" "modCount" "I").before a0 Z = true := hw _ (List.mem_of_getElem? (i := 39) rfl)
theorem tw40 {Z : State} {a0 : Array Value} (hw : ∀ d ∈ tables_1, d.before a0 Z = true) : (Jvm.Cond.fieldLink "java/util/ArrayList" (48 : Nat) "java/util/ArrayList" "size" "I").before a0 Z = true := hw _ (List.mem_of_getElem? (i := 40) rfl)
theorem tw41 {Z : State} {a0 : Array Value} (hw : ∀ d ∈ tables_1, d.before a0 Z = true) : (Jvm.Cond.lays "java/util/ArrayList" "java/util/ArrayList" "size" "I").before a0 Z = true := hw _ (List.mem_of_getElem? (i := 41) rfl)
theorem tw42 {Z : State} {a0 : Array Value} (hw : ∀ d ∈ tables_1, d.before a0 Z = true) : (Jvm.Cond.methodLink "java/util/ArrayList" (131 : Nat) ({ cls := "java/util/ArrayList", name := "add", desc := "(Ljava/lang/Object;[Ljava/lang/Object;I)V" } : Jvm.MethodName)).before a0 Z = true := hw _ (List.mem_of_getElem? (i := 42) rfl)
theorem tw43 {Z : State} {a0 : Array Value} (hw : ∀ d ∈ tables_1, d.before a0 Z = true) : (Jvm.Cond.instanceMethod ({ cls := "java/util/ArrayList", name := "add", desc := "(Ljava/lang/Object;[Ljava/lang/Object;I)V" } : Jvm.MethodName)).before a0 Z = true := hw _ (List.mem_of_getElem? (i := 43) rfl)
theorem tw44 {Z : State} {a0 : Array Value} (hw : ∀ d ∈ tables_1, d.before a0 Z = true) : (Jvm.Cond.privateMethod ({ cls := "java/util/ArrayList", name := "add", desc := "(Ljava/lang/Object;[Ljava/lang/Object;I)V" } : Jvm.MethodName)).before a0 Z = true := hw _ (List.mem_of_getElem? (i := 44) rfl)
theorem tw46 {Z : State} {a0 : Array Value} (hw : ∀ d ∈ tables_1, d.before a0 Z = true) : (Jvm.Cond.code ({ cls := "java/util/ArrayList", name := "add", desc := "(Ljava/lang/Object;[Ljava/lang/Object;I)V" } : Jvm.MethodName) jdk_38_method_24_code (4 : Nat) (Option.none : Option Jvm.ClassFile.FieldType)).before a0 Z = true := hw _ (List.mem_of_getElem? (i := 46) rfl)
theorem tw47 {Z : State} {a0 : Array Value} (hw : ∀ d ∈ tables_1, d.before a0 Z = true) : (Jvm.Cond.methodLink "java/util/ArrayList" (129 : Nat) ({ cls := "java/util/ArrayList", name := "grow", desc := "()[Ljava/lang/Object;" } : Jvm.MethodName)).before a0 Z = true := hw _ (List.mem_of_getElem? (i := 47) rfl)
theorem tw48 {Z : State} {a0 : Array Value} (hw : ∀ d ∈ tables_1, d.before a0 Z = true) : (Jvm.Cond.instanceMethod ({ cls := "java/util/ArrayList", name := "grow", desc := "()[Ljava/lang/Object;" } : Jvm.MethodName)).before a0 Z = true := hw _ (List.mem_of_getElem? (i := 48) rfl)
theorem tw49 {Z : State} {a0 : Array Value} (hw : ∀ d ∈ tables_1, d.before a0 Z = true) : (Jvm.Cond.privateMethod ({ cls := "java/util/ArrayList", name := "grow", desc := "()[Ljava/lang/Object;" } : Jvm.MethodName)).before a0 Z = true := hw _ (List.mem_of_getElem? (i := 49) rfl)
theorem tw51 {Z : State} {a0 : Array Value} (hw : ∀ d ∈ tables_1, d.before a0 Z = true) : (Jvm.Cond.code ({ cls := "java/util/ArrayList", name := "grow", desc := "()[Ljava/lang/Object;" } : Jvm.MethodName) jdk_38_method_7_code (1 : Nat) (Option.some (Jvm.ClassFile.FieldType.array (Jvm.ClassFile.FieldType.object "java/lang/Object")))).before a0 Z = true := hw _ (List.mem_of_getElem? (i := 51) rfl)
theorem tw52 {Z : State} {a0 : Array Value} (hw : ∀ d ∈ tables_1, d.before a0 Z = true) : (Jvm.Cond.methodLink "java/util/ArrayList" (69 : Nat) ({ cls := "java/util/ArrayList", name := "grow", desc := "(I)[Ljava/lang/Object;" } : Jvm.MethodName)).before a0 Z = true := hw _ (List.mem_of_getElem? (i := 52) rfl)
theorem tw53 {Z : State} {a0 : Array Value} (hw : ∀ d ∈ tables_1, d.before a0 Z = true) : (Jvm.Cond.instanceMethod ({ cls := "java/util/ArrayList", name := "grow", desc := "(I)[Ljava/lang/Object;" } : Jvm.MethodName)).before a0 Z = true := hw _ (List.mem_of_getElem? (i := 53) rfl)
theorem tw54 {Z : State} {a0 : Array Value} (hw : ∀ d ∈ tables_1, d.before a0 Z = true) : (Jvm.Cond.privateMethod ({ cls := "java/util/ArrayList", name := "grow", desc := "(I)[Ljava/lang/Object;" } : Jvm.MethodName)).before a0 Z = true := hw _ (List.mem_of_getElem? (i := 54) rfl)
theorem tw56 {Z : State} {a0 : Array Value} (hw : ∀ d ∈ tables_1, d.before a0 Z = true) : (Jvm.Cond.code ({ cls := "java/util/ArrayList", name := "grow", desc := "(I)[Ljava/lang/Object;" } : Jvm.MethodName) jdk_38_method_6_code (4 : Nat) (Option.some (Jvm.ClassFile.FieldType.array (Jvm.ClassFile.FieldType.object "java/lang/Object")))).before a0 Z = true := hw _ (List.mem_of_getElem? (i := 56) rfl)
theorem tw57 {Z : State} {a0 : Array Value} (hw : ∀ d ∈ tables_1, d.before a0 Z = true) : (Jvm.Cond.methodLink "java/util/ArrayList" (79 : Nat) ({ cls := "java/lang/Math", name := "max", desc := "(II)I" } : Jvm.MethodName)).before a0 Z = true := hw _ (List.mem_of_getElem? (i := 57) rfl)
theorem tw58 {Z : State} {a0 : Array Value} (hw : ∀ d ∈ tables_1, d.before a0 Z = true) : (Jvm.Cond.static ({ cls := "java/lang/Math", name := "max", desc := "(II)I" } : Jvm.MethodName)).before a0 Z = true := hw _ (List.mem_of_getElem? (i := 58) rfl)
theorem tw59 {Z : State} {a0 : Array Value} (hw : ∀ d ∈ tables_1, d.before a0 Z = true) : (Jvm.Cond.initialized "java/lang/Math").before a0 Z = true := hw _ (List.mem_of_getElem? (i := 59) rfl)
theorem tw60 {Z : State} {a0 : Array Value} (hw : ∀ d ∈ tables_1, d.before a0 Z = true) : (Jvm.Cond.code ({ cls := "java/lang/Math", name := "max", desc := "(II)I" } : Jvm.MethodName) jdk_29_method_65_code (2 : Nat) (Option.some Jvm.ClassFile.FieldType.int)).before a0 Z = true := hw _ (List.mem_of_getElem? (i := 60) rfl)
theorem tw61 {Z : State} {a0 : Array Value} (hw : ∀ d ∈ tables_1, d.before a0 Z = true) : (Jvm.Cond.classLink "java/util/ArrayList" (7 : Nat) "java/lang/Object").before a0 Z = true := hw _ (List.mem_of_getElem? (i := 61) rfl)
theorem tw62 {Z : State} {a0 : Array Value} (hw : ∀ d ∈ tables_1, d.before a0 Z = true) : (Jvm.Cond.arrayOver (Jvm.ClassFile.FieldType.object "java/lang/Object")).before a0 Z = true := hw _ (List.mem_of_getElem? (i := 62) rfl)
theorem tw63 {Z : State} {a0 : Array Value} (hw : ∀ d ∈ tables_1, d.before a0 Z = true) : (Jvm.Cond.castable "java/lang/Integer" "java/lang/Object").before a0 Z = true := hw _ (List.mem_of_getElem? (i := 63) rfl)
theorem tw64 {Z : State} {a0 : Array Value} (hw : ∀ d ∈ tables_1, d.before a0 Z = true) : (Jvm.Cond.classLink "com/example/lichen/lichen/solver/WaysNeverPinLaw" (25 : Nat) "com/example/lichen/lichen/solver/TermSubsumption$Ways").before a0 Z = true := hw _ (List.mem_of_getElem? (i := 64) rfl)
theorem tw65 {Z : State} {a0 : Array Value} (hw : ∀ d ∈ tables_1, d.before a0 Z = true) : (Jvm.Cond.instantiable "com/example/lichen/lichen/solver/TermSubsumption$Ways" (2 : Nat)).before a0 Z = true := hw _ (List.mem_of_getElem? (i := 65) rfl)
theorem tw66 {Z : State} {a0 : Array Value} (hw : ∀ d ∈ tables_1, d.before a0 Z = true) : (Jvm.Cond.initialized "com/example/lichen/lichen/solver/TermSubsumption$Ways").before a0 Z = true := hw _ (List.mem_of_getElem? (i := 66) rfl)
theorem tw67 {Z : State} {a0 : Array Value} (hw : ∀ d ∈ tables_1, d.before a0 Z = true) : (Jvm.Cond.methodLink "com/example/lichen/lichen/solver/WaysNeverPinLaw" (27 : Nat) ({ cls := "com/example/lichen/lichen/solver/TermSubsumption$Ways", name := "<init>", desc := "(Ljava/util/List;Ljava/util/List;)V" } : Jvm.MethodName)).before a0 Z = true := hw _ (List.mem_of_getElem? (i := 67) rfl)
theorem tw68 {Z : State} {a0 : Array Value} (hw : ∀ d ∈ tables_1, d.before a0 Z = true) : (Jvm.Cond.instanceMethod ({ cls := "com/example/lichen/lichen/solver/TermSubsumption$Ways", name := "<init>", desc := "(Ljava/util/List;Ljava/util/List;)V" } : Jvm.MethodName)).before a0 Z = true := hw _ (List.mem_of_getElem? (i := 68) rfl)
theorem tw69 {Z : State} {a0 : Array Value} (hw : ∀ d ∈ tables_1, d.before a0 Z = true) : (Jvm.Cond.code ({ cls := "com/example/lichen/lichen/solver/TermSubsumption$Ways", name := "<init>", desc := "(Ljava/util/List;Ljava/util/List;)V" } : Jvm.MethodName) prog_103_method_1_code (3 : Nat) (Option.none : Option Jvm.ClassFile.FieldType)).before a0 Z = true := hw _ (List.mem_of_getElem? (i := 69) rfl)
theorem tw70 {Z : State} {a0 : Array Value} (hw : ∀ d ∈ tables_1, d.before a0 Z = true) : (Jvm.Cond.methodLink "com/example/lichen/lichen/solver/TermSubsumption$Ways" (1 : Nat) ({ cls := "java/lang/Record", name := "<init>", desc := "()V" } : Jvm.MethodName)).before a0 Z = true := hw _ (List.mem_of_getElem? (i := 70) rfl)
theorem tw71 {Z : State} {a0 : Array Value} (hw : ∀ d ∈ tables_1, d.before a0 Z = true) : (Jvm.Cond.instanceMethod ({ cls := "java/lang/Record", name := "<init>", desc := "()V" } : Jvm.MethodName)).before a0 Z = true := hw _ (List.mem_of_getElem? (i := 71) rfl)
theorem tw73 {Z : State} {a0 : Array Value} (hw : ∀ d ∈ tables_1, d.before a0 Z = true) : (Jvm.Cond.initialized "java/lang/Record").before a0 Z = true := hw _ (List.mem_of_getElem? (i := 73) rfl)
theorem tw74 {Z : State} {a0 : Array Value} (hw : ∀ d ∈ tables_1, d.before a0 Z = true) : (Jvm.Cond.code ({ cls := "java/lang/Record", name := "<init>", desc := "()V" } : Jvm.MethodName) jdk_30_method_1_code (1 : Nat) (Option.none : Option Jvm.ClassFile.FieldType)).before a0 Z = true := hw _ (List.mem_of_getElem? (i := 74) rfl)
theorem tw75 {Z : State} {a0 : Array Value} (hw : ∀ d ∈ tables_1, d.before a0 Z = true) : (Jvm.Cond.methodLink "java/lang/Record" (1 : Nat) ({ cls := "java/lang/Object", name := "<init>", desc := "()V" } : Jvm.MethodName)).before a0 Z = true := hw _ (List.mem_of_getElem? (i := 75) rfl)
theorem tw76 {Z : State} {a0 : Array Value} (hw : ∀ d ∈ tables_1, d.before a0 Z = true) : (Jvm.Cond.fieldLink "com/example/lichen/lichen/solver/TermSubsumption$Ways" (7 : Nat) "com/example/lichen/lichen/solver/TermSubsumption$Ways" "each" "Ljava/util/List;").before a0 Z = true := hw _ (List.mem_of_getElem? (i := 76) rfl)
theorem tw77 {Z : State} {a0 : Array Value} (hw : ∀ d ∈ tables_1, d.before a0 Z = true) : (Jvm.Cond.laysFinal "com/example/lichen/lichen/solver/TermSubsumption$Ways" "com/example/lichen/lichen/solver/TermSubsumption$Ways" "each" "Ljava/util/List;").before a0 Z = true := hw _ (List.mem_of_getElem? (i := 77) rfl)
theorem tw78 {Z : State} {a0 : Array Value} (hw : ∀ d ∈ tables_1, d.before a0 Z = true) : (Jvm.Cond.fieldLink "com/example/lichen/lichen/solver/TermSubsumption$Ways" (13 : Nat) "com/example/lichen/lichen/solver/TermSubsumption$Ways" "producers" "Ljava/util/List;").before a0 Z = true := hw _ (List.mem_of_getElem? (i := 78) rfl)
theorem tw79 {Z : State} {a0 : Array Value} (hw : ∀ d ∈ tables_1, d.before a0 Z = true) : (Jvm.Cond.laysFinal "com/example/lichen/lichen/solver/TermSubsumption$Ways" "com/example/lichen/lichen/solver/TermSubsumption$Ways" "producers" "Ljava/util/List;").before a0 Z = true := hw _ (List.mem_of_getElem? (i := 79) rfl)
theorem tw80 {Z : State} {a0 : Array Value} (hw : ∀ d ∈ tables_1, d.before a0 Z = true) : (Jvm.Cond.methodLink "com/example/lichen/lichen/solver/WaysNeverPinLaw" (30 : Nat) ({ cls := "com/example/lichen/lichen/solver/TermSubsumption$Ways", name := "never", desc := "()Z" } : Jvm.MethodName)).before a0 Z = true := hw _ (List.mem_of_getElem? (i := 80) rfl)
theorem tw81 {Z : State} {a0 : Array Value} (hw : ∀ d ∈ tables_1, d.before a0 Z = true) : (Jvm.Cond.declares ({ cls := "com/example/lichen/lichen/solver/TermSubsumption$Ways", name := "never", desc := "()Z" } : Jvm.MethodName)).before a0 Z = true := hw _ (List.mem_of_getElem? (i := 81) rfl)
theorem tw82 {Z : State} {a0 : Array Value} (hw : ∀ d ∈ tables_1, d.before a0 Z = true) : (Jvm.Cond.instanceMethod ({ cls := "com/example/lichen/lichen/solver/TermSubsumption$Ways", name := "never", desc := "()Z" } : Jvm.MethodName)).before a0 Z = true := hw _ (List.mem_of_getElem? (i := 82) rfl)
theorem tw83 {Z : State} {a0 : Array Value} (hw : ∀ d ∈ tables_1, d.before a0 Z = true) : (Jvm.Cond.selects "com/example/lichen/lichen/solver/TermSubsumption$Ways" ({ cls := "com/example/lichen/lichen/solver/TermSubsumption$Ways", name := "never", desc := "()Z" } : Jvm.MethodName) ({ cls := "com/example/lichen/lichen/solver/TermSubsumption$Ways", name := "never", desc := "()Z" } : Jvm.MethodName)).before a0 Z = true := hw _ (List.mem_of_getElem? (i := 83) rfl)
theorem tw84 {Z : State} {a0 : Array Value} (hw : ∀ d ∈ tables_1, d.before a0 Z = true) : (Jvm.Cond.code ({ cls := "com/example/lichen/lichen/solver/TermSubsumption$Ways", name := "never", desc := "()Z" } : Jvm.MethodName) prog_103_method_3_code (1 : Nat) (Option.some Jvm.ClassFile.FieldType.boolean)).before a0 Z = true := hw _ (List.mem_of_getElem? (i := 84) rfl)
theorem tw85 {Z : State} {a0 : Array Value} (hw : ∀ d ∈ tables_1, d.before a0 Z = true) : (Jvm.Cond.methodLink "com/example/lichen/lichen/solver/TermSubsumption$Ways" (26 : Nat) ({ cls := "java/util/List", name := "isEmpty", desc := "()Z" } : Jvm.MethodName)).before a0 Z = true := hw _ (List.mem_of_getElem? (i := 85) rfl)
theorem tw86 {Z : State} {a0 : Array Value} (hw : ∀ d ∈ tables_1, d.before a0 Z = true) : (Jvm.Cond.declares ({ cls := "java/util/List", name := "isEmpty", desc := "()Z" } : Jvm.MethodName)).before a0 Z = true := hw _ (List.mem_of_getElem? (i := 86) rfl)
theorem tw87 {Z : State} {a0 : Array Value} (hw : ∀ d ∈ tables_1, d.before a0 Z = true) : (Jvm.Cond.interfaceMethod "java/util/List" "java/util/List" "isEmpty" "()Z").before a0 Z = true := hw _ (List.mem_of_getElem? (i := 87) rfl)
theorem tw88 {Z : State} {a0 : Array Value} (hw : ∀ d ∈ tables_1, d.before a0 Z = true) : (Jvm.Cond.selects "java/util/ArrayList" ({ cls := "java/util/List", name := "isEmpty", desc := "()Z" } : Jvm.MethodName) ({ cls := "java/util/ArrayList", name := "isEmpty", desc := "()Z" } : Jvm.MethodName)).before a0 Z = true := hw _ (List.mem_of_getElem? (i := 88) rfl)
theorem tw89 {Z : State} {a0 : Array Value} (hw : ∀ d ∈ tables_1, d.before a0 Z = true) : (Jvm.Cond.instanceMethod ({ cls := "java/util/ArrayList", name := "isEmpty", desc := "()Z" } : Jvm.MethodName)).before a0 Z = true := hw _ (List.mem_of_getElem? (i := 89) rfl)
theorem tw90 {Z : State} {a0 : Array Value} (hw : ∀ d ∈ tables_1, d.before a0 Z = true) : (Jvm.Cond.publicMethod ({ cls := "java/util/ArrayList", name := "isEmpty", desc := "()Z" } : Jvm.MethodName)).before a0 Z = true := hw _ (List.mem_of_getElem? (i := 90) rfl)
theorem tw91 {Z : State} {a0 : Array Value} (hw : ∀ d ∈ tables_1, d.before a0 Z = true) : (Jvm.Cond.unhidden "java/util/ArrayList" "isEmpty" "()Z").before a0 Z = true := hw _ (List.mem_of_getElem? (i := 91) rfl)
theorem tw92 {Z : State} {a0 : Array Value} (hw : ∀ d ∈ tables_1, d.before a0 Z = true) : (Jvm.Cond.castable "java/util/ArrayList" "java/util/List").before a0 Z = true := hw _ (List.mem_of_getElem? (i := 92) rfl)
theorem tw93 {Z : State} {a0 : Array Value} (hw : ∀ d ∈ tables_1, d.before a0 Z = true) : (Jvm.Cond.code ({ cls := "java/util/ArrayList", name := "isEmpty", desc := "()Z" } : Jvm.MethodName) jdk_38_method_9_code (1 : Nat) (Option.some Jvm.ClassFile.FieldType.boolean)).before a0 Z = true := hw _ (List.mem_of_getElem? (i := 93) rfl)
theorem tw94 {Z : State} {a0 : Array Value} (hw : ∀ d ∈ tables_1, d.before a0 Z = true) : (Jvm.Cond.classLink "com/example/lichen/lichen/solver/WaysNeverPinLaw" (10 : Nat) "com/example/lichen/lichen/solver/TermSubsumption$Pair").before a0 Z = true := hw _ (List.mem_of_getElem? (i := 94) rfl)
theorem tw95 {Z : State} {a0 : Array Value} (hw : ∀ d ∈ tables_1, d.before a0 Z = true) : (Jvm.Cond.instantiable "com/example/lichen/lichen/solver/TermSubsumption$Pair" (2 : Nat)).before a0 Z = true := hw _ (List.mem_of_getElem? (i := 95) rfl)
theorem tw96 {Z : State} {a0 : Array Value} (hw : ∀ d ∈ tables_1, d.before a0 Z = true) : (Jvm.Cond.initialized "com/example/lichen/lichen/solver/TermSubsumption$Pair").before a0 Z = true := hw _ (List.mem_of_getElem? (i := 96) rfl)
theorem tw97 {Z : State} {a0 : Array Value} (hw : ∀ d ∈ tables_1, d.before a0 Z = true) : (Jvm.Cond.methodLink "com/example/lichen/lichen/solver/WaysNeverPinLaw" (12 : Nat) ({ cls := "com/example/lichen/lichen/solver/TermSubsumption$Pair", name := "<init>", desc := "(II)V" } : Jvm.MethodName)).before a0 Z = true := hw _ (List.mem_of_getElem? (i := 97) rfl)
theorem tw98 {Z : State} {a0 : Array Value} (hw : ∀ d ∈ tables_1, d.before a0 Z = true) : (Jvm.Cond.instanceMethod ({ cls := "com/example/lichen/lichen/solver/TermSubsumption$Pair", name := "<init>", desc := "(II)V" } : Jvm.MethodName)).before a0 Z = true := hw _ (List.mem_of_getElem? (i := 98) rfl)
theorem tw99 {Z : State} {a0 : Array Value} (hw : ∀ d ∈ tables_1, d.before a0 Z = true) : (Jvm.Cond.code ({ cls := "com/example/lichen/lichen/solver/TermSubsumption$Pair", name := "<init>", desc := "(II)V" } : Jvm.MethodName) prog_102_method_1_code (3 : Nat) (Option.none : Option Jvm.ClassFile.FieldType)).before a0 Z = true := hw _ (List.mem_of_getElem? (i := 99) rfl)
theorem tw100 {Z : State} {a0 : Array Value} (hw : ∀ d ∈ tables_1, d.before a0 Z = true) : (Jvm.Cond.methodLink "com/example/lichen/lichen/solver/TermSubsumption$Pair" (1 : Nat) ({ cls := "java/lang/Record", name := "<init>", desc := "()V" } : Jvm.MethodName)).before a0 Z = true := hw _ (List.mem_of_getElem? (i := 100) rfl)
theorem tw101 {Z : State} {a0 : Array Value} (hw : ∀ d ∈ tables_1, d.before a0 Z = true) : (Jvm.Cond.fieldLink "com/example/lichen/lichen/solver/TermSubsumption$Pair" (7 : Nat) "com/example/lichen/lichen/solver/TermSubsumption$Pair" "sub" "I").before a0 Z = true := hw _ (List.mem_of_getElem? (i := 101) rfl)
theorem tw102 {Z : State} {a0 : Array Value} (hw : ∀ d ∈ tables_1, d.before a0 Z = true) : (Jvm.Cond.laysFinal "com/example/lichen/lichen/solver/TermSubsumption$Pair" "com/example/lichen/lichen/solver/TermSubsumption$Pair" "sub" "I").before a0 Z = true := hw _ (List.mem_of_getElem? (i := 102) rfl)
theorem tw103 {Z : State} {a0 : Array Value} (hw : ∀ d ∈ tables_1, d.before a0 Z = true) : (Jvm.Cond.fieldLink "com/example/lichen/lichen/solver/TermSubsumption$Pair" (13 : Nat) "com/example/lichen/lichen/solver/TermSubsumption$Pair" "sup" "I").before a0 Z = true := hw _ (List.mem_of_getElem? (i := 103) rfl)
theorem tw104 {Z : State} {a0 : Array Value} (hw : ∀ d ∈ tables_1, d.before a0 Z = true) : (Jvm.Cond.laysFinal "com/example/lichen/lichen/solver/TermSubsumption$Pair" "com/example/lichen/lichen/solver/TermSubsumption$Pair" "sup" "I").before a0 Z = true := hw _ (List.mem_of_getElem? (i := 104) rfl)
theorem tw105 {Z : State} {a0 : Array Value} (hw : ∀ d ∈ tables_1, d.before a0 Z = true) : (Jvm.Cond.castable "com/example/lichen/lichen/solver/TermSubsumption$Pair" "java/lang/Object").before a0 Z = true := hw _ (List.mem_of_getElem? (i := 105) rfl)
theorem tw106 {Z : State} {a0 : Array Value} (hw : ∀ d ∈ tables_1, d.before a0 Z = true) : (Jvm.Cond.castable "java/util/ArrayList" "java/lang/Object").before a0 Z = true := hw _ (List.mem_of_getElem? (i := 106) rfl)
theorem tw107 {Z : State} {a0 : Array Value} (hw : ∀ d ∈ tables_1, d.before a0 Z = true) : (Jvm.Cond.classLink "java/lang/Integer" (1 : Nat) "java/lang/Integer").before a0 Z = true := hw _ (List.mem_of_getElem? (i := 107) rfl)
theorem tw108 {Z : State} {a0 : Array Value} (hw : ∀ d ∈ tables_1, d.before a0 Z = true) : (Jvm.Cond.instantiable "java/lang/Integer" (1 : Nat)).before a0 Z = true := hw _ (List.mem_of_getElem? (i := 108) rfl)
theorem tw109 {Z : State} {a0 : Array Value} (hw : ∀ d ∈ tables_1, d.before a0 Z = true) : (Jvm.Cond.methodLink "java/lang/Integer" (199 : Nat) ({ cls := "java/lang/Integer", name := "<init>", desc := "(I)V" } : Jvm.MethodName)).before a0 Z = true := hw _ (List.mem_of_getElem? (i := 109) rfl)
theorem tw110 {Z : State} {a0 : Array Value} (hw : ∀ d ∈ tables_1, d.before a0 Z = true) : (Jvm.Cond.instanceMethod ({ cls := "java/lang/Integer", name := "<init>", desc := "(I)V" } : Jvm.MethodName)).before a0 Z = true := hw _ (List.mem_of_getElem? (i := 110) rfl)
theorem tw112 {Z : State} {a0 : Array Value} (hw : ∀ d ∈ tables_1, d.before a0 Z = true) : (Jvm.Cond.code ({ cls := "java/lang/Integer", name := "<init>", desc := "(I)V" } : Jvm.MethodName) jdk_33_method_23_code (2 : Nat) (Option.none : Option Jvm.ClassFile.FieldType)).before a0 Z = true := hw _ (List.mem_of_getElem? (i := 112) rfl)
theorem tw113 {Z : State} {a0 : Array Value} (hw : ∀ d ∈ tables_1, d.before a0 Z = true) : (Jvm.Cond.methodLink "java/lang/Integer" (202 : Nat) ({ cls := "java/lang/Number", name := "<init>", desc := "()V" } : Jvm.MethodName)).before a0 Z = true := hw _ (List.mem_of_getElem? (i := 113) rfl)
theorem tw114 {Z : State} {a0 : Array Value} (hw : ∀ d ∈ tables_1, d.before a0 Z = true) : (Jvm.Cond.instanceMethod ({ cls := "java/lang/Number", name := "<init>", desc := "()V" } : Jvm.MethodName)).before a0 Z = true := hw _ (List.mem_of_getElem? (i := 114) rfl)
theorem tw117 {Z : State} {a0 : Array Value} (hw : ∀ d ∈ tables_1, d.before a0 Z = true) : (Jvm.Cond.initialized "java/lang/Number").before a0 Z = true := hw _ (List.mem_of_getElem? (i := 117) rfl)
theorem tw118 {Z : State} {a0 : Array Value} (hw : ∀ d ∈ tables_1, d.before a0 Z = true) : (Jvm.Cond.code ({ cls := "java/lang/Number", name := "<init>", desc := "()V" } : Jvm.MethodName) jdk_18_method_1_code (1 : Nat) (Option.none : Option Jvm.ClassFile.FieldType)).before a0 Z = true := hw _ (List.mem_of_getElem? (i := 118) rfl)
theorem tw119 {Z : State} {a0 : Array Value} (hw : ∀ d ∈ tables_1, d.before a0 Z = true) : (Jvm.Cond.methodLink "java/lang/Number" (1 : Nat) ({ cls := "java/lang/Object", name := "<init>", desc := "()V" } : Jvm.MethodName)).before a0 Z = true := hw _ (List.mem_of_getElem? (i := 119) rfl)
theorem tw120 {Z : State} {a0 : Array Value} (hw : ∀ d ∈ tables_1, d.before a0 Z = true) : (Jvm.Cond.fieldLink "java/lang/Integer" (205 : Nat) "java/lang/Integer" "value" "I").before a0 Z = true := hw _ (List.mem_of_getElem? (i := 120) rfl)
theorem tw121 {Z : State} {a0 : Array Value} (hw : ∀ d ∈ tables_1, d.before a0 Z = true) : (Jvm.Cond.laysFinal "java/lang/Integer" "java/lang/Integer" "value" "I").before a0 Z = true := hw _ (List.mem_of_getElem? (i := 121) rfl)
abbrev mn0 : MethodName := ⟨"java/lang/Number", "<init>", "()V"⟩
abbrev mn1 : MethodName := ⟨"java/lang/Integer", "<init>", "(I)V"⟩
abbrev mn2 : MethodName := ⟨"java/lang/Integer", "valueOf", "(I)Ljava/lang/Integer;"⟩
abbrev mn3 : MethodName := ⟨"java/util/AbstractCollection", "<init>", "()V"⟩
abbrev mn4 : MethodName := ⟨"java/util/AbstractList", "<init>", "()V"⟩
abbrev mn5 : MethodName := ⟨"java/util/ArrayList", "<init>", "()V"⟩
abbrev mn6 : MethodName := ⟨"java/lang/Record", "<init>", "()V"⟩
abbrev mn7 : MethodName := ⟨"com/example/lichen/lichen/solver/TermSubsumption$Ways", "<init>", "(Ljava/util/List;Ljava/util/List;)V"⟩
abbrev mn8 : MethodName := ⟨"java/util/ArrayList", "isEmpty", "()Z"⟩
abbrev mn9 : MethodName := ⟨"java/util/List", "isEmpty", "()Z"⟩
abbrev mn10 : MethodName := ⟨"com/example/lichen/lichen/solver/TermSubsumption$Ways", "never", "()Z"⟩
abbrev mn11 : MethodName := ⟨"java/lang/Math", "max", "(II)I"⟩
abbrev mn12 : MethodName := ⟨"java/util/ArrayList", "grow", "(I)[Ljava/lang/Object;"⟩
abbrev mn13 : MethodName := ⟨"java/util/ArrayList", "grow", "()[Ljava/lang/Object;"⟩
abbrev mn14 : MethodName := ⟨"java/util/ArrayList", "add", "(Ljava/lang/Object;[Ljava/lang/Object;I)V"⟩
abbrev mn15 : MethodName := ⟨"java/util/ArrayList", "add", "(Ljava/lang/Object;)Z"⟩
abbrev mn16 : MethodName := ⟨"com/example/lichen/lichen/solver/TermSubsumption$Pair", "<init>", "(II)V"⟩
theorem pd_10 : parseMethodDescriptor "(II)V" = some ⟨[.int, .int], none⟩ := by decide +kernel
theorem pd_9 : parseMethodDescriptor "(Ljava/lang/Object;)Z" = some ⟨[(.object "java/lang/Object")], some .boolean⟩ := by decide +kernel
theorem pd_8 : parseMethodDescriptor "(Ljava/lang/Object;[Ljava/lang/Object;I)V" = some ⟨[(.object "java/lang/Object"), (.array (.object "java/lang/Object")), .int], none⟩ := by decide +kernel
theorem pd_7 : parseMethodDescriptor "()[Ljava/lang/Object;" = some ⟨[], some (.array (.object "java/lang/Object"))⟩ := by decide +kernel
theorem pd_6 : parseMethodDescriptor "(I)[Ljava/lang/Object;" = some ⟨[.int], some (.array (.object "java/lang/Object"))⟩ := by decide +kernel
theorem pd_5 : parseMethodDescriptor "(II)I" = some ⟨[.int, .int], some .int⟩ := by decide +kernel
theorem pd_4 : parseMethodDescriptor "(I)Ljava/lang/Integer;" = some ⟨[.int], some (.object "java/lang/Integer")⟩ := by decide +kernel
theorem pd_3 : parseMethodDescriptor "()Z" = some ⟨[], some .boolean⟩ := by decide +kernel
theorem pd_2 : parseMethodDescriptor "(Ljava/util/List;Ljava/util/List;)V" = some ⟨[(.object "java/util/List"), (.object "java/util/List")], none⟩ := by decide +kernel
theorem pd_1 : parseMethodDescriptor "(I)V" = some ⟨[.int], none⟩ := by decide +kernel
theorem pd_0 : parseMethodDescriptor "()V" = some ⟨[], none⟩ := by decide +kernel
theorem own_rng4 {v : Int32} (h0 : 0 ≤ v.toInt) (h1 : v.toInt < 4) : v = 0 ∨ v = 1 ∨ v = 2 ∨ v = 3 := by
  rcases (by omega : v.toInt = 0 ∨ v.toInt = 1 ∨ v.toInt = 2 ∨ v.toInt = 3) with h | h | h | h
  · exact Or.inl (Int32.toInt_inj.mp (h.trans (by decide)))
  · exact Or.inr (Or.inl (Int32.toInt_inj.mp (h.trans (by decide))))
  · exact Or.inr (Or.inr (Or.inl (Int32.toInt_inj.mp (h.trans (by decide)))))
  · exact Or.inr (Or.inr (Or.inr ((Int32.toInt_inj.mp (h.trans (by decide))))))
theorem own_and3 (x : Int32) : x &&& 3 = 0 ∨ x &&& 3 = 1 ∨ x &&& 3 = 2 ∨ x &&& 3 = 3 := by
  have e := c_mask x 3 2 (by decide) (by decide)
  exact own_rng4 (by rw [e]; omega) (by rw [e]; omega)
theorem own_rep_aux {d : Value} : ∀ (N i : Nat), i < N → (List.replicate N d).getD i d = d := fun N i hi => by simp [List.getD_eq_getElem?_getD, List.getElem?_replicate, hi]
theorem own_rep {d : Value} (N : Nat) : ∀ i, i < N → (fun _ : Nat => d) i = lst (List.replicate N d) d i := fun i hi => (own_rep_aux N i hi).symm
def OwnF (Z : State) (h : Heap) (w_D : Addr) : Prop := (Sta Z h "java/util/ArrayList" "DEFAULTCAPACITY_EMPTY_ELEMENTDATA" "[Ljava/lang/Object;" (.ref w_D)) ∧
  (∃ k, Ary Z h w_D k (.object "java/lang/Object") 0 (fun _ => .null)) ∧
  (Sta Z h "java/lang/Integer$IntegerCache" "high" "I" (.int 127)) ∧
  (∃ w_cache, Sta Z h "java/lang/Integer$IntegerCache" "cache" "[Ljava/lang/Integer;" (.ref w_cache) ∧ ∃ (k : ClassId) (W : Nat → Addr), Ary Z h w_cache k (.object "java/lang/Integer") 256 (fun i => .ref (W i)) ∧ ∀ i, i < 256 → Exa Z h (W i) "java/lang/Integer")
theorem OwnF.ext {Z : State} {h h' : Heap} {w_D : Addr} (E : Ext h h') (F : OwnF Z h w_D) : OwnF Z h' w_D := by
  obtain ⟨S_D, ⟨kD, A_D⟩, S_high, w, S, k, W, A, q⟩ := F
  exact ⟨S_D.ext E, ⟨kD, A_D.ext E⟩, S_high.ext E, w, S.ext E, k, W, A.ext E, fun i hi => (q i hi).ext E⟩
theorem own_cache {x : Int32} (h0 : ¬ x < -128) (h1 : ¬ 127 < x) : ¬ x + 128 < 0 ∧ (x + 128).toNatClampNeg < 256 := by
  have a : (-128 : Int32).toInt = -128 := by decide
  have b : (127 : Int32).toInt = 127 := by decide
  have d : (128 : Int32).toInt = 128 := by decide
  have z : (0 : Int32).toInt = 0 := by decide
  simp only [Int32.lt_iff_toInt_lt, a, b] at h0 h1
  have r := rng32 x; have e2 := c_iadd x 128; have r2 := rng32 (x + 128)
  simp only [Int32.lt_iff_toInt_lt, Int32.toNatClampNeg, z]; omega
theorem d17_0 : decode jdk_18_method_1_code 0 = .ok (.aload_n 0, 1) := by decide +kernel
theorem d17_1 : decode jdk_18_method_1_code 1 = .ok (.invokespecial 1, 3) := by decide +kernel
theorem d17_4 : decode jdk_18_method_1_code 4 = .ok (.return_, 1) := by decide +kernel
theorem pn_mm17_0 : plainFor mn0 = true := by first | exact plainFor_of_name (show plainName "java/lang/Number" = true by first | (simp [plainName, overriddenIn]; done) | decide +kernel) | decide +kernel
set_option maxRecDepth 65536 in
set_option maxHeartbeats 40000000 in
theorem mm17_0 (l : Launch) (Z : State) (a0 : Array Value) (hw : ∀ d ∈ tables_1, d.before a0 Z = true) (b0 : Addr) (w_D : Addr) (h0 : Heap) (FZ : OwnF Z Z.heap w_D) (O0 : Old Z Z.heap.size h0) (ge_b0 : Z.heap.size ≤ b0) (E_b0 : Exa Z h0 b0 "java/lang/Integer") (D_b0_value : Fld Z h0 b0 "java/lang/Integer" "value" "I" (.int (0 : Int32)))  :
    OMeets l Z mn0 jdk_18_method_1_code 1 none [] ({ frames := 1, cells := 0, slots := 0, locals := 12 } : Room) #[(.ref b0)] h0 (PureQ none h0) := by
  refine OMeets.of pn_mm17_0 #[.val (.ref b0)] (fun m => by first | rfl | (simp [entryFrame, mkF, argsToLocals, Value.category, maxLocals]; done)) ?_
  intro p e s m below meth c s₁ B X0 e0
  have F0 := OwnF.ext O0.2 FZ
  obtain ⟨S_D, ⟨kD, A_D⟩, S_high, T_cache⟩ := id F0
  refine s_aloadN B X0 (pc' := 1) d17_0 rfl rfl rfl ?_
  refine s_initO B X0 (pc' := 4) (W := 0) e0 (tw119 hw) (tw19 hw) (tw20 hw) rfl (by decide) (by decide) rfl d17_1 rfl (fun T1 X1 e1 => ?_)
  exact r_void B X1 rfl d17_4 ⟨rfl, rfl, e1⟩ (by decide) (by decide)
theorem d16_0 : decode jdk_33_method_23_code 0 = .ok (.aload_n 0, 1) := by decide +kernel
theorem d16_1 : decode jdk_33_method_23_code 1 = .ok (.invokespecial 202, 3) := by decide +kernel
theorem d16_4 : decode jdk_33_method_23_code 4 = .ok (.aload_n 0, 1) := by decide +kernel
theorem d16_5 : decode jdk_33_method_23_code 5 = .ok (.iload_n 1, 1) := by decide +kernel
theorem d16_6 : decode jdk_33_method_23_code 6 = .ok (.putfield 205, 3) := by decide +kernel
theorem d16_9 : decode jdk_33_method_23_code 9 = .ok (.return_, 1) := by decide +kernel
theorem pn_mm16_0 : plainFor mn1 = true := by first | exact plainFor_of_name (show plainName "java/lang/Integer" = true by first | (simp [plainName, overriddenIn]; done) | decide +kernel) | decide +kernel
set_option maxRecDepth 65536 in
set_option maxHeartbeats 40000000 in
theorem mm16_0 (l : Launch) (Z : State) (a0 : Array Value) (hw : ∀ d ∈ tables_1, d.before a0 Z = true) (b0 : Addr) (q1 : Int32) (w_D : Addr) (h0 : Heap) (FZ : OwnF Z Z.heap w_D) (O0 : Old Z Z.heap.size h0) (ge_b0 : Z.heap.size ≤ b0) (E_b0 : Exa Z h0 b0 "java/lang/Integer") (D_b0_value : Fld Z h0 b0 "java/lang/Integer" "value" "I" (.int (0 : Int32))) (hk0 : q1 < (-128 : Int32)) :
    OMeets l Z mn1 jdk_33_method_23_code 2 none [] ({ frames := 2, cells := 0, slots := 0, locals := 24 } : Room) #[(.ref b0), (.int q1)] h0 (fun v h L => v = none ∧ Fr Z.heap.size L ∧ Keep h0 h [b0] ∧ Fld Z h b0 "java/lang/Integer" "value" "I" (.int q1)) := by
  refine OMeets.of pn_mm16_0 #[.val (.ref b0), .val (.int q1)] (fun m => by first | rfl | (simp [entryFrame, mkF, argsToLocals, Value.category, maxLocals]; done)) ?_
  intro p e s m below meth c s₁ B X0 e0
  have F0 := OwnF.ext O0.2 FZ
  obtain ⟨S_D, ⟨kD, A_D⟩, S_high, T_cache⟩ := id F0
  refine s_aloadN B X0 (pc' := 1) d16_0 rfl rfl rfl ?_
  refine p_init B X0 (y := mn0) (pc' := 4) (argsL := []) (under := []) (W := 0) e0 rfl (tw113 hw) (tw114 hw) (tw118 hw) (tw117 hw) (by decide) (mm17_0 l Z a0 hw b0 w_D h0 FZ O0 ge_b0 E_b0 D_b0_value ) (lenOf pd_0 rfl) rfl rfl (by decide) (by decide) rfl rfl (by decide) (by decide) rfl d16_1 rfl (fun T1 X1 e1 => ?_)
  show Go p e below _ (T1.setTop (mkF m 4 #[.val (.ref b0), .val (.int q1)] []))
  refine s_aloadN B X1 (pc' := 5) d16_4 rfl rfl rfl ?_
  refine s_iloadN B X1 (pc' := 6) d16_5 rfl rfl ?_
  refine s_putF B X1 (pc' := 9) (ty := .int) e1 (host := "") (Or.inl (tw120 hw)) Via.refl D_b0_value E_b0 (Or.inr ⟨(tw121 hw), rfl, rfl⟩) (tw108 hw) (by decide) rfl rfl d16_6 rfl (fun T2 h2 X2 e2 W2 => ?_)
  have G2 := D_b0_value.same W2
  have N2 := Fr.snoc X2 (Fr.nil _) ge_b0
  have O2 := (O0).wr W2 ge_b0
  have F2 := OwnF.ext O2.2 FZ
  have K2 := ((Keep.refl h0 [b0])).wr W2 (Or.inl (List.mem_of_getElem? (i := 0) rfl))
  show Go p e below _ (T2.setTop (mkF m 9 #[.val (.ref b0), .val (.int q1)] []))
  exact r_void B X2 rfl d16_9 (by rw [e2]; exact ⟨rfl, N2, K2, G2⟩) (by decide) (by decide)

theorem pn_mm16_2 : plainFor mn1 = true := by first | exact plainFor_of_name (show plainName "java/lang/Integer" = true by first | (simp [plainName, overriddenIn]; done) | decide +kernel) | decide +kernel
set_option maxRecDepth 65536 in
set_option maxHeartbeats 40000000 in
theorem mm16_2 (l : Launch) (Z : State) (a0 : Array Value) (hw : ∀ d ∈ tables_1, d.before a0 Z = true) (b0 : Addr) (q1 : Int32) (w_D : Addr) (h0 : Heap) (FZ : OwnF Z Z.heap w_D) (O0 : Old Z Z.heap.size h0) (ge_b0 : Z.heap.size ≤ b0) (E_b0 : Exa Z h0 b0 "java/lang/Integer") (D_b0_value : Fld Z h0 b0 "java/lang/Integer" "value" "I" (.int (0 : Int32))) (hk0 : ¬ q1 < (-128 : Int32)) (hk1 : (127 : Int32) < q1) :
    OMeets l Z mn1 jdk_33_method_23_code 2 none [] ({ frames := 2, cells := 0, slots := 0, locals := 24 } : Room) #[(.ref b0), (.int q1)] h0 (fun v h L => v = none ∧ Fr Z.heap.size L ∧ Keep h0 h [b0] ∧ Fld Z h b0 "java/lang/Integer" "value" "I" (.int q1)) := by
  refine OMeets.of pn_mm16_2 #[.val (.ref b0), .val (.int q1)] (fun m => by first | rfl | (simp [entryFrame, mkF, argsToLocals, Value.category, maxLocals]; done)) ?_
  intro p e s m below meth c s₁ B X0 e0
  have F0 := OwnF.ext O0.2 FZ
  obtain ⟨S_D, ⟨kD, A_D⟩, S_high, T_cache⟩ := id F0
  refine s_aloadN B X0 (pc' := 1) d16_0 rfl rfl rfl ?_
  refine p_init B X0 (y := mn0) (pc' := 4) (argsL := []) (under := []) (W := 0) e0 rfl (tw113 hw) (tw114 hw) (tw118 hw) (tw117 hw) (by decide) (mm17_0 l Z a0 hw b0 w_D h0 FZ O0 ge_b0 E_b0 D_b0_value ) (lenOf pd_0 rfl) rfl rfl (by decide) (by decide) rfl rfl (by decide) (by decide) rfl d16_1 rfl (fun T1 X1 e1 => ?_)
  show Go p e below _ (T1.setTop (mkF m 4 #[.val (.ref b0), .val (.int q1)] []))
  refine s_aloadN B X1 (pc' := 5) d16_4 rfl rfl rfl ?_
  refine s_iloadN B X1 (pc' := 6) d16_5 rfl rfl ?_
  refine s_putF B X1 (pc' := 9) (ty := .int) e1 (host := "") (Or.inl (tw120 hw)) Via.refl D_b0_value E_b0 (Or.inr ⟨(tw121 hw), rfl, rfl⟩) (tw108 hw) (by decide) rfl rfl d16_6 rfl (fun T2 h2 X2 e2 W2 => ?_)
  have G2 := D_b0_value.same W2
  have N2 := Fr.snoc X2 (Fr.nil _) ge_b0
  have O2 := (O0).wr W2 ge_b0
  have F2 := OwnF.ext O2.2 FZ
  have K2 := ((Keep.refl h0 [b0])).wr W2 (Or.inl (List.mem_of_getElem? (i := 0) rfl))
  show Go p e below _ (T2.setTop (mkF m 9 #[.val (.ref b0), .val (.int q1)] []))
  exact r_void B X2 rfl d16_9 (by rw [e2]; exact ⟨rfl, N2, K2, G2⟩) (by decide) (by decide)
theorem d5_0 : decode jdk_33_method_22_code 0 = .ok (.iload_n 0, 1) := by decide +kernel
theorem d5_1 : decode jdk_33_method_22_code 1 = .ok (.bipush (-128), 2) := by decide +kernel
theorem d5_3 : decode jdk_33_method_22_code 3 = .ok (.if_icmp .lt 20, 3) := by decide +kernel
theorem d5_6 : decode jdk_33_method_22_code 6 = .ok (.iload_n 0, 1) := by decide +kernel
theorem d5_7 : decode jdk_33_method_22_code 7 = .ok (.getstatic 191, 3) := by decide +kernel
theorem d5_10 : decode jdk_33_method_22_code 10 = .ok (.if_icmp .gt 13, 3) := by decide +kernel
theorem d5_13 : decode jdk_33_method_22_code 13 = .ok (.getstatic 195, 3) := by decide +kernel
theorem d5_16 : decode jdk_33_method_22_code 16 = .ok (.iload_n 0, 1) := by decide +kernel
theorem d5_17 : decode jdk_33_method_22_code 17 = .ok (.sipush 128, 3) := by decide +kernel
theorem d5_20 : decode jdk_33_method_22_code 20 = .ok (.iadd, 1) := by decide +kernel
theorem d5_21 : decode jdk_33_method_22_code 21 = .ok (.aaload, 1) := by decide +kernel
theorem d5_22 : decode jdk_33_method_22_code 22 = .ok (.areturn, 1) := by decide +kernel
theorem d5_23 : decode jdk_33_method_22_code 23 = .ok (.new 1, 3) := by decide +kernel
theorem d5_26 : decode jdk_33_method_22_code 26 = .ok (.dup, 1) := by decide +kernel
theorem d5_27 : decode jdk_33_method_22_code 27 = .ok (.iload_n 0, 1) := by decide +kernel
theorem d5_28 : decode jdk_33_method_22_code 28 = .ok (.invokespecial 199, 3) := by decide +kernel
theorem d5_31 : decode jdk_33_method_22_code 31 = .ok (.areturn, 1) := by decide +kernel
theorem pn_rm_valueOf : plainFor mn2 = true := by first | exact plainFor_of_name (show plainName "java/lang/Integer" = true by first | (simp [plainName, overriddenIn]; done) | decide +kernel) | decide +kernel
set_option maxRecDepth 65536 in
set_option maxHeartbeats 40000000 in
theorem rm_valueOf (l : Launch) (Z : State) (a0 : Array Value) (hw : ∀ d ∈ tables_1, d.before a0 Z = true) (x : Int32) (w_D : Addr) (h0 : Heap) (FZ : OwnF Z Z.heap w_D) (O0 : Old Z Z.heap.size h0) :
    OMeets l Z mn2 jdk_33_method_22_code 1 (some (.object "java/lang/Integer")) [] ({ frames := 3, cells := 1, slots := 1, locals := 38 } : Room) #[(.int x)] h0 (fun v h L => ∃ q, v = some (.ref q) ∧ Fr Z.heap.size L ∧ Keep h0 h [] ∧ Exa Z h q "java/lang/Integer") := by
  refine OMeets.of pn_rm_valueOf #[.val (.int x)] (fun m => by first | rfl | (simp [entryFrame, mkF, argsToLocals, Value.category, maxLocals]; done)) ?_
  intro p e s m below meth c s₁ B X0 e0
  have F0 := OwnF.ext O0.2 FZ
  obtain ⟨S_D, ⟨kD, A_D⟩, S_high, T_cache⟩ := id F0
  obtain ⟨wC, SC, kC, W, AC, hC⟩ := T_cache
  refine s_iloadN B X0 (pc' := 1) d5_0 rfl rfl ?_
  refine s_bipush B X0 (pc' := 3) (v := (-128 : Int32)) d5_1 rfl rfl ?_
  refine b_icmp_lt B X0 (py := 23) (pn := 6) d5_3 (by decide) (by decide) rfl (fun hc3_1 => ?_) (fun hc3_1 => ?_)
  · refine s_new B X0 (pc' := 26) (n0 := 1) e0 (tw107 hw) (tw108 hw) (tw28 hw) (by decide) (by decide) d5_23 rfl (fun T2 h2 o2 g2 X2 e2 E2 A2 D2 => ?_)
    have ge_o2 : Z.heap.size ≤ o2 := g2 ▸ old_le O0
    have le_o2 : h0.size ≤ o2 := g2 ▸ ((Keep.refl h0 [])).1
    have O2 := (O0).ext E2
    have F2 := OwnF.ext O2.2 FZ
    have K2 := ((Keep.refl h0 [])).ext E2
    have D2_value : Fld Z h2 o2 "java/lang/Integer" "value" "I" (.int (0 : Int32)) := D2 (Or.inr (tw121 hw)) (ty := .int) (by decide)
    show Go p e below _ (T2.setTop (mkF m 26 #[.val (.int x)] [(.ref o2)]))
    refine s_dup B X2 (pc' := 27) d5_26 rfl rfl ?_
    refine s_iloadN B X2 (pc' := 28) d5_27 rfl rfl ?_
    refine c_init B X2 (y := mn1) (pc' := 31) (argsL := [(.int x)]) (under := [(.ref o2)]) (W := 1) e2 rfl (tw109 hw) (tw110 hw) (tw112 hw) (tw28 hw) (by decide) (mm16_0 l Z a0 hw o2 x w_D h2 FZ O2 ge_o2 A2 D2_value hc3_1) (lenOf pd_1 rfl) rfl rfl (by decide) (by decide) (by decide) (by decide) rfl d5_28 rfl (fun v3 T3 L3 X3 hQ3 => ?_)
    obtain ⟨rfl, Nq3, Kq3, u3_0⟩ := hQ3
    obtain ⟨h3, e3⟩ : ∃ z, T3.heap = z := ⟨_, rfl⟩
    rw [e3] at Kq3 u3_0
    have N3 := Fr.app (Fr.nil _) Nq3
    have O3 := (O2).keep Kq3 (allS ge_o2 all0)
    have F3 := OwnF.ext O3.2 FZ
    have K3 := (K2).trans Kq3 (allS (Or.inr le_o2) all0)
    show Go p e below _ (T3.setTop (mkF m 31 #[.val (.int x)] [(.ref o2)]))
    have f4 := (A2.keep Kq3)
    exact r_ref B X3 (t := (.object "java/lang/Integer")) rfl rfl rfl rfl d5_31 (by rw [e3]; exact ⟨_, rfl, N3, K3, f4⟩) (by decide) (by decide)
  · refine s_iloadN B X0 (pc' := 7) d5_6 rfl rfl ?_
    refine s_getS B X0 (pc' := 10) e0 (tw30 hw) Via.refl S_high d5_7 rfl (fun T5 X5 e5 => ?_)
    refine b_icmp_gt B X5 (py := 23) (pn := 13) d5_10 (by decide) (by decide) rfl (fun hc10_6 => ?_) (fun hc10_6 => ?_)
    · refine s_new B X5 (pc' := 26) (n0 := 1) e5 (tw107 hw) (tw108 hw) (tw28 hw) (by decide) (by decide) d5_23 rfl (fun T7 h7 o7 g7 X7 e7 E7 A7 D7 => ?_)
      have ge_o7 : Z.heap.size ≤ o7 := g7 ▸ old_le O0
      have le_o7 : h0.size ≤ o7 := g7 ▸ ((Keep.refl h0 [])).1
      have O7 := (O0).ext E7
      have F7 := OwnF.ext O7.2 FZ
      have K7 := ((Keep.refl h0 [])).ext E7
      have D7_value : Fld Z h7 o7 "java/lang/Integer" "value" "I" (.int (0 : Int32)) := D7 (Or.inr (tw121 hw)) (ty := .int) (by decide)
      show Go p e below _ (T7.setTop (mkF m 26 #[.val (.int x)] [(.ref o7)]))
      refine s_dup B X7 (pc' := 27) d5_26 rfl rfl ?_
      refine s_iloadN B X7 (pc' := 28) d5_27 rfl rfl ?_
      refine c_init B X7 (y := mn1) (pc' := 31) (argsL := [(.int x)]) (under := [(.ref o7)]) (W := 1) e7 rfl (tw109 hw) (tw110 hw) (tw112 hw) (tw28 hw) (by decide) (mm16_2 l Z a0 hw o7 x w_D h7 FZ O7 ge_o7 A7 D7_value hc3_1 hc10_6) (lenOf pd_1 rfl) rfl rfl (by decide) (by decide) (by decide) (by decide) rfl d5_28 rfl (fun v8 T8 L8 X8 hQ8 => ?_)
      obtain ⟨rfl, Nq8, Kq8, u8_0⟩ := hQ8
      obtain ⟨h8, e8⟩ : ∃ z, T8.heap = z := ⟨_, rfl⟩
      rw [e8] at Kq8 u8_0
      have N8 := Fr.app (Fr.nil _) Nq8
      have O8 := (O7).keep Kq8 (allS ge_o7 all0)
      have F8 := OwnF.ext O8.2 FZ
      have K8 := (K7).trans Kq8 (allS (Or.inr le_o7) all0)
      show Go p e below _ (T8.setTop (mkF m 31 #[.val (.int x)] [(.ref o7)]))
      have f9 := (A7.keep Kq8)
      exact r_ref B X8 (t := (.object "java/lang/Integer")) rfl rfl rfl rfl d5_31 (by rw [e8]; exact ⟨_, rfl, N8, K8, f9⟩) (by decide) (by decide)
    · refine s_getS B X5 (pc' := 16) e5 (tw32 hw) Via.refl SC d5_13 rfl (fun T10 X10 e10 => ?_)
      refine s_iloadN B X10 (pc' := 17) d5_16 rfl rfl ?_
      refine s_sipush B X10 (pc' := 20) (v := (128 : Int32)) d5_17 rfl rfl ?_
      refine s_iadd B X10 (pc' := 21) (v := (x + (128 : Int32))) d5_20 rfl rfl ?_
      refine s_ldR B X10 (pc' := 22) (jn := (x + 128).toNatClampNeg) (v := (.ref (W (x + 128).toNatClampNeg))) e10 AC rfl (own_cache hc3_1 hc10_6).1 rfl (own_cache hc3_1 hc10_6).2 rfl d5_21 rfl ?_
      exact r_ref B X10 (t := (.object "java/lang/Integer")) rfl rfl rfl rfl d5_22 ⟨_, rfl, (Fr.nil _), by rw [e10]; exact Keep.refl _ _, by rw [e10]; exact hC _ (own_cache hc3_1 hc10_6).2⟩ (by decide) (by decide)
theorem d3_0 : decode jdk_22_method_1_code 0 = .ok (.aload_n 0, 1) := by decide +kernel
theorem d3_1 : decode jdk_22_method_1_code 1 = .ok (.invokespecial 1, 3) := by decide +kernel
theorem d3_4 : decode jdk_22_method_1_code 4 = .ok (.return_, 1) := by decide +kernel
theorem pn_mm3_3 : plainFor mn3 = true := by first | exact plainFor_of_name (show plainName "java/util/AbstractCollection" = true by first | (simp [plainName, overriddenIn]; done) | decide +kernel) | decide +kernel
set_option maxRecDepth 65536 in
set_option maxHeartbeats 40000000 in
theorem mm3_3 (l : Launch) (Z : State) (a0 : Array Value) (hw : ∀ d ∈ tables_1, d.before a0 Z = true) (b0 : Addr) (w_D : Addr) (h0 : Heap) (FZ : OwnF Z Z.heap w_D) (O0 : Old Z Z.heap.size h0) (ge_b0 : Z.heap.size ≤ b0) (E_b0 : Exa Z h0 b0 "java/util/ArrayList") (D_b0_elementData : Fld Z h0 b0 "java/util/ArrayList" "elementData" "[Ljava/lang/Object;" .null) (D_b0_modCount : Fld Z h0 b0 "java/util/AbstractList" "modCount" "I" (.int (0 : Int32))) (D_b0_size : Fld Z h0 b0 "java/util/ArrayList" "size" "I" (.int (0 : Int32)))  :
    OMeets l Z mn3 jdk_22_method_1_code 1 none [] ({ frames := 1, cells := 0, slots := 0, locals := 12 } : Room) #[(.ref b0)] h0 (PureQ none h0) := by
  refine OMeets.of pn_mm3_3 #[.val (.ref b0)] (fun m => by first | rfl | (simp [entryFrame, mkF, argsToLocals, Value.category, maxLocals]; done)) ?_
  intro p e s m below meth c s₁ B X0 e0
  have F0 := OwnF.ext O0.2 FZ
  obtain ⟨S_D, ⟨kD, A_D⟩, S_high, T_cache⟩ := id F0
  refine s_aloadN B X0 (pc' := 1) d3_0 rfl rfl rfl ?_
  refine s_initO B X0 (pc' := 4) (W := 0) e0 (tw18 hw) (tw19 hw) (tw20 hw) rfl (by decide) (by decide) rfl d3_1 rfl (fun T1 X1 e1 => ?_)
  exact r_void B X1 rfl d3_4 ⟨rfl, rfl, e1⟩ (by decide) (by decide)
theorem d2_0 : decode jdk_39_method_1_code 0 = .ok (.aload_n 0, 1) := by decide +kernel
theorem d2_1 : decode jdk_39_method_1_code 1 = .ok (.invokespecial 1, 3) := by decide +kernel
theorem d2_4 : decode jdk_39_method_1_code 4 = .ok (.aload_n 0, 1) := by decide +kernel
theorem d2_5 : decode jdk_39_method_1_code 5 = .ok (.iconst 0, 1) := by decide +kernel
theorem d2_6 : decode jdk_39_method_1_code 6 = .ok (.putfield 7, 3) := by decide +kernel
theorem d2_9 : decode jdk_39_method_1_code 9 = .ok (.return_, 1) := by decide +kernel
theorem pn_mm2_3 : plainFor mn4 = true := by first | exact plainFor_of_name (show plainName "java/util/AbstractList" = true by first | (simp [plainName, overriddenIn]; done) | decide +kernel) | decide +kernel
set_option maxRecDepth 65536 in
set_option maxHeartbeats 40000000 in
theorem mm2_3 (l : Launch) (Z : State) (a0 : Array Value) (hw : ∀ d ∈ tables_1, d.before a0 Z = true) (b0 : Addr) (w_D : Addr) (h0 : Heap) (FZ : OwnF Z Z.heap w_D) (O0 : Old Z Z.heap.size h0) (ge_b0 : Z.heap.size ≤ b0) (E_b0 : Exa Z h0 b0 "java/util/ArrayList") (D_b0_elementData : Fld Z h0 b0 "java/util/ArrayList" "elementData" "[Ljava/lang/Object;" .null) (D_b0_modCount : Fld Z h0 b0 "java/util/AbstractList" "modCount" "I" (.int (0 : Int32))) (D_b0_size : Fld Z h0 b0 "java/util/ArrayList" "size" "I" (.int (0 : Int32)))  :
    OMeets l Z mn4 jdk_39_method_1_code 1 none [] ({ frames := 2, cells := 0, slots := 0, locals := 24 } : Room) #[(.ref b0)] h0 (fun v h L => v = none ∧ Fr Z.heap.size L ∧ Keep h0 h [b0] ∧ Fld Z h b0 "java/util/ArrayList" "elementData" "[Ljava/lang/Object;" .null ∧ Fld Z h b0 "java/util/AbstractList" "modCount" "I" (.int (0 : Int32)) ∧ Fld Z h b0 "java/util/ArrayList" "size" "I" (.int (0 : Int32))) := by
  refine OMeets.of pn_mm2_3 #[.val (.ref b0)] (fun m => by first | rfl | (simp [entryFrame, mkF, argsToLocals, Value.category, maxLocals]; done)) ?_
  intro p e s m below meth c s₁ B X0 e0
  have F0 := OwnF.ext O0.2 FZ
  obtain ⟨S_D, ⟨kD, A_D⟩, S_high, T_cache⟩ := id F0
  refine s_aloadN B X0 (pc' := 1) d2_0 rfl rfl rfl ?_
  refine p_init B X0 (y := mn3) (pc' := 4) (argsL := []) (under := []) (W := 0) e0 rfl (tw12 hw) (tw13 hw) (tw17 hw) (tw16 hw) (by decide) (mm3_3 l Z a0 hw b0 w_D h0 FZ O0 ge_b0 E_b0 D_b0_elementData D_b0_modCount D_b0_size ) (lenOf pd_0 rfl) rfl rfl (by decide) (by decide) rfl rfl (by decide) (by decide) rfl d2_1 rfl (fun T1 X1 e1 => ?_)
  show Go p e below _ (T1.setTop (mkF m 4 #[.val (.ref b0)] []))
  refine s_aloadN B X1 (pc' := 5) d2_4 rfl rfl rfl ?_
  refine s_iconst B X1 (pc' := 6) (v := (0 : Int32)) d2_5 rfl rfl ?_
  refine s_putF B X1 (pc' := 9) (ty := .int) e1 (host := "") (Or.inl (tw21 hw)) Via.refl D_b0_modCount E_b0 (Or.inl (tw22 hw)) (tw1 hw) (by decide) rfl rfl d2_6 rfl (fun T2 h2 X2 e2 W2 => ?_)
  have G2 := D_b0_modCount.same W2
  have N2 := Fr.snoc X2 (Fr.nil _) ge_b0
  have O2 := (O0).wr W2 ge_b0
  have F2 := OwnF.ext O2.2 FZ
  have K2 := ((Keep.refl h0 [b0])).wr W2 (Or.inl (List.mem_of_getElem? (i := 0) rfl))
  show Go p e below _ (T2.setTop (mkF m 9 #[.val (.ref b0)] []))
  have f3 := (D_b0_elementData.other W2 (Or.inr (slot_ne (Or.inl (tw25 hw)) (Or.inl (tw22 hw)) (by decide) (t := (.array (.object "java/lang/Object"))) (t' := .int) (by decide) (by decide))))
  have f4 := (D_b0_size.other W2 (Or.inr (slot_ne (Or.inl (tw41 hw)) (Or.inl (tw22 hw)) (by decide) (t := .int) (t' := .int) (by decide) (by decide))))
  exact r_void B X2 rfl d2_9 (by rw [e2]; exact ⟨rfl, N2, K2, f3, G2, f4⟩) (by decide) (by decide)
theorem d1_0 : decode jdk_38_method_2_code 0 = .ok (.aload_n 0, 1) := by decide +kernel
theorem d1_1 : decode jdk_38_method_2_code 1 = .ok (.invokespecial 1, 3) := by decide +kernel
theorem d1_4 : decode jdk_38_method_2_code 4 = .ok (.aload_n 0, 1) := by decide +kernel
theorem d1_5 : decode jdk_38_method_2_code 5 = .ok (.getstatic 39, 3) := by decide +kernel
theorem d1_8 : decode jdk_38_method_2_code 8 = .ok (.putfield 9, 3) := by decide +kernel
theorem d1_11 : decode jdk_38_method_2_code 11 = .ok (.return_, 1) := by decide +kernel
theorem pn_mm1_3 : plainFor mn5 = true := by first | exact plainFor_of_name (show plainName "java/util/ArrayList" = true by first | (simp [plainName, overriddenIn]; done) | decide +kernel) | decide +kernel
set_option maxRecDepth 65536 in
set_option maxHeartbeats 40000000 in
theorem mm1_3 (l : Launch) (Z : State) (a0 : Array Value) (hw : ∀ d ∈ tables_1, d.before a0 Z = true) (b0 : Addr) (w_D : Addr) (h0 : Heap) (FZ : OwnF Z Z.heap w_D) (O0 : Old Z Z.heap.size h0) (ge_b0 : Z.heap.size ≤ b0) (E_b0 : Exa Z h0 b0 "java/util/ArrayList") (D_b0_elementData : Fld Z h0 b0 "java/util/ArrayList" "elementData" "[Ljava/lang/Object;" .null) (D_b0_modCount : Fld Z h0 b0 "java/util/AbstractList" "modCount" "I" (.int (0 : Int32))) (D_b0_size : Fld Z h0 b0 "java/util/ArrayList" "size" "I" (.int (0 : Int32)))  :
    OMeets l Z mn5 jdk_38_method_2_code 1 none [] ({ frames := 3, cells := 0, slots := 0, locals := 36 } : Room) #[(.ref b0)] h0 (fun v h L => v = none ∧ Fr Z.heap.size L ∧ Keep h0 h [b0] ∧ Fld Z h b0 "java/util/ArrayList" "elementData" "[Ljava/lang/Object;" (.ref w_D) ∧ Fld Z h b0 "java/util/AbstractList" "modCount" "I" (.int (0 : Int32)) ∧ Fld Z h b0 "java/util/ArrayList" "size" "I" (.int (0 : Int32))) := by
  refine OMeets.of pn_mm1_3 #[.val (.ref b0)] (fun m => by first | rfl | (simp [entryFrame, mkF, argsToLocals, Value.category, maxLocals]; done)) ?_
  intro p e s m below meth c s₁ B X0 e0
  have F0 := OwnF.ext O0.2 FZ
  obtain ⟨S_D, ⟨kD, A_D⟩, S_high, T_cache⟩ := id F0
  refine s_aloadN B X0 (pc' := 1) d1_0 rfl rfl rfl ?_
  refine c_init B X0 (y := mn4) (pc' := 4) (argsL := []) (under := []) (W := 0) e0 rfl (tw6 hw) (tw7 hw) (tw11 hw) (tw10 hw) (by decide) (mm2_3 l Z a0 hw b0 w_D h0 FZ O0 ge_b0 E_b0 D_b0_elementData D_b0_modCount D_b0_size ) (lenOf pd_0 rfl) rfl rfl (by decide) (by decide) (by decide) (by decide) rfl d1_1 rfl (fun v1 T1 L1 X1 hQ1 => ?_)
  obtain ⟨rfl, Nq1, Kq1, u1_0, u1_1, u1_2⟩ := hQ1
  obtain ⟨h1, e1⟩ : ∃ z, T1.heap = z := ⟨_, rfl⟩
  rw [e1] at Kq1 u1_0 u1_1 u1_2
  have N1 := Fr.app (Fr.nil _) Nq1
  have O1 := (O0).keep Kq1 (allS ge_b0 all0)
  have F1 := OwnF.ext O1.2 FZ
  have K1 := ((Keep.refl h0 [b0])).trans Kq1 (allS (Or.inl (List.mem_of_getElem? (i := 0) rfl)) all0)
  show Go p e below _ (T1.setTop (mkF m 4 #[.val (.ref b0)] []))
  refine s_aloadN B X1 (pc' := 5) d1_4 rfl rfl rfl ?_
  obtain ⟨S_D, ⟨kD, A_D⟩, S_high, T_cache⟩ := id F1
  refine s_getS B X1 (pc' := 8) e1 (tw23 hw) Via.refl S_D d1_5 rfl (fun T2 X2 e2 => ?_)
  have f4 := (E_b0.keep Kq1)
  refine s_putF B X2 (pc' := 11) (ty := (.array (.object "java/lang/Object"))) e2 (host := "") (Or.inl (tw24 hw)) Via.refl u1_0 f4 (Or.inl (tw25 hw)) (tw1 hw) (by decide) rfl rfl d1_8 rfl (fun T3 h3 X3 e3 W3 => ?_)
  have G3 := u1_0.same W3
  have N3 := Fr.snoc X3 N1 ge_b0
  have O3 := (O1).wr W3 ge_b0
  have F3 := OwnF.ext O3.2 FZ
  have K3 := (K1).wr W3 (Or.inl (List.mem_of_getElem? (i := 0) rfl))
  show Go p e below _ (T3.setTop (mkF m 11 #[.val (.ref b0)] []))
  have f5 := (u1_1.other W3 (Or.inr (slot_ne (Or.inl (tw22 hw)) (Or.inl (tw25 hw)) (by decide) (t := .int) (t' := (.array (.object "java/lang/Object"))) (by decide) (by decide))))
  have f6 := (u1_2.other W3 (Or.inr (slot_ne (Or.inl (tw41 hw)) (Or.inl (tw25 hw)) (by decide) (t := .int) (t' := (.array (.object "java/lang/Object"))) (by decide) (by decide))))
  exact r_void B X3 rfl d1_11 (by rw [e3]; exact ⟨rfl, N3, K3, G3, f5, f6⟩) (by decide) (by decide)
theorem d12_0 : decode jdk_30_method_1_code 0 = .ok (.aload_n 0, 1) := by decide +kernel
theorem d12_1 : decode jdk_30_method_1_code 1 = .ok (.invokespecial 1, 3) := by decide +kernel
theorem d12_4 : decode jdk_30_method_1_code 4 = .ok (.return_, 1) := by decide +kernel
theorem pn_mm12_6 : plainFor mn6 = true := by first | exact plainFor_of_name (show plainName "java/lang/Record" = true by first | (simp [plainName, overriddenIn]; done) | decide +kernel) | decide +kernel
set_option maxRecDepth 65536 in
set_option maxHeartbeats 40000000 in
theorem mm12_6 (l : Launch) (Z : State) (a0 : Array Value) (hw : ∀ d ∈ tables_1, d.before a0 Z = true) (b0 : Addr) (w_D : Addr) (h0 : Heap) (FZ : OwnF Z Z.heap w_D) (O0 : Old Z Z.heap.size h0) (ge_b0 : Z.heap.size ≤ b0) (E_b0 : Exa Z h0 b0 "com/example/lichen/lichen/solver/TermSubsumption$Ways") (D_b0_each : Fld Z h0 b0 "com/example/lichen/lichen/solver/TermSubsumption$Ways" "each" "Ljava/util/List;" .null) (D_b0_producers : Fld Z h0 b0 "com/example/lichen/lichen/solver/TermSubsumption$Ways" "producers" "Ljava/util/List;" .null)  :
    OMeets l Z mn6 jdk_30_method_1_code 1 none [] ({ frames := 1, cells := 0, slots := 0, locals := 12 } : Room) #[(.ref b0)] h0 (PureQ none h0) := by
  refine OMeets.of pn_mm12_6 #[.val (.ref b0)] (fun m => by first | rfl | (simp [entryFrame, mkF, argsToLocals, Value.category, maxLocals]; done)) ?_
  intro p e s m below meth c s₁ B X0 e0
  have F0 := OwnF.ext O0.2 FZ
  obtain ⟨S_D, ⟨kD, A_D⟩, S_high, T_cache⟩ := id F0
  refine s_aloadN B X0 (pc' := 1) d12_0 rfl rfl rfl ?_
  refine s_initO B X0 (pc' := 4) (W := 0) e0 (tw75 hw) (tw19 hw) (tw20 hw) rfl (by decide) (by decide) rfl d12_1 rfl (fun T1 X1 e1 => ?_)
  exact r_void B X1 rfl d12_4 ⟨rfl, rfl, e1⟩ (by decide) (by decide)
theorem d11_0 : decode prog_103_method_1_code 0 = .ok (.aload_n 0, 1) := by decide +kernel
theorem d11_1 : decode prog_103_method_1_code 1 = .ok (.invokespecial 1, 3) := by decide +kernel
theorem d11_4 : decode prog_103_method_1_code 4 = .ok (.aload_n 0, 1) := by decide +kernel
theorem d11_5 : decode prog_103_method_1_code 5 = .ok (.aload_n 1, 1) := by decide +kernel
theorem d11_6 : decode prog_103_method_1_code 6 = .ok (.putfield 7, 3) := by decide +kernel
theorem d11_9 : decode prog_103_method_1_code 9 = .ok (.aload_n 0, 1) := by decide +kernel
theorem d11_10 : decode prog_103_method_1_code 10 = .ok (.aload_n 2, 1) := by decide +kernel
theorem d11_11 : decode prog_103_method_1_code 11 = .ok (.putfield 13, 3) := by decide +kernel
theorem d11_14 : decode prog_103_method_1_code 14 = .ok (.return_, 1) := by decide +kernel
theorem pn_mm11_6 : plainFor mn7 = true := plainFor_of_name (show plainName "com/example/lichen/lichen/solver/TermSubsumption$Ways" = true by first | (simp [plainName, overriddenIn]; done) | decide +kernel)
set_option maxRecDepth 65536 in
set_option maxHeartbeats 40000000 in
theorem mm11_6 (l : Launch) (Z : State) (a0 : Array Value) (hw : ∀ d ∈ tables_1, d.before a0 Z = true) (b0 : Addr) (b1 : Addr) (b2 : Addr) (w_D : Addr) (h0 : Heap) (FZ : OwnF Z Z.heap w_D) (O0 : Old Z Z.heap.size h0) (ge_b0 : Z.heap.size ≤ b0) (E_b0 : Exa Z h0 b0 "com/example/lichen/lichen/solver/TermSubsumption$Ways") (D_b0_each : Fld Z h0 b0 "com/example/lichen/lichen/solver/TermSubsumption$Ways" "each" "Ljava/util/List;" .null) (D_b0_producers : Fld Z h0 b0 "com/example/lichen/lichen/solver/TermSubsumption$Ways" "producers" "Ljava/util/List;" .null) (ge_b1 : Z.heap.size ≤ b1) (E_b1 : Exa Z h0 b1 "java/util/ArrayList") (D_b1_elementData : Fld Z h0 b1 "java/util/ArrayList" "elementData" "[Ljava/lang/Object;" (.ref w_D)) (D_b1_modCount : Fld Z h0 b1 "java/util/AbstractList" "modCount" "I" (.int (0 : Int32))) (D_b1_size : Fld Z h0 b1 "java/util/ArrayList" "size" "I" (.int (0 : Int32))) (ge_b2 : Z.heap.size ≤ b2) (E_b2 : Exa Z h0 b2 "java/util/ArrayList") (D_b2_elementData : Fld Z h0 b2 "java/util/ArrayList" "elementData" "[Ljava/lang/Object;" (.ref w_D)) (D_b2_modCount : Fld Z h0 b2 "java/util/AbstractList" "modCount" "I" (.int (0 : Int32))) (D_b2_size : Fld Z h0 b2 "java/util/ArrayList" "size" "I" (.int (0 : Int32))) (ne_b0_b1 : b0 ≠ b1) (ne_b0_b2 : b0 ≠ b2) (ne_b1_b2 : b1 ≠ b2)  :
    OMeets l Z mn7 prog_103_method_1_code 3 none [] ({ frames := 2, cells := 0, slots := 0, locals := 24 } : Room) #[(.ref b0), (.ref b1), (.ref b2)] h0 (fun v h L => v = none ∧ Fr Z.heap.size L ∧ Keep h0 h [b0] ∧ Fld Z h b0 "com/example/lichen/lichen/solver/TermSubsumption$Ways" "each" "Ljava/util/List;" (.ref b1) ∧ Fld Z h b0 "com/example/lichen/lichen/solver/TermSubsumption$Ways" "producers" "Ljava/util/List;" (.ref b2)) := by
  refine OMeets.of pn_mm11_6 #[.val (.ref b0), .val (.ref b1), .val (.ref b2)] (fun m => by first | rfl | (simp [entryFrame, mkF, argsToLocals, Value.category, maxLocals]; done)) ?_
  intro p e s m below meth c s₁ B X0 e0
  have F0 := OwnF.ext O0.2 FZ
  obtain ⟨S_D, ⟨kD, A_D⟩, S_high, T_cache⟩ := id F0
  refine s_aloadN B X0 (pc' := 1) d11_0 rfl rfl rfl ?_
  refine p_init B X0 (y := mn6) (pc' := 4) (argsL := []) (under := []) (W := 0) e0 rfl (tw70 hw) (tw71 hw) (tw74 hw) (tw73 hw) (by decide) (mm12_6 l Z a0 hw b0 w_D h0 FZ O0 ge_b0 E_b0 D_b0_each D_b0_producers ) (lenOf pd_0 rfl) rfl rfl (by decide) (by decide) rfl rfl (by decide) (by decide) rfl d11_1 rfl (fun T1 X1 e1 => ?_)
  show Go p e below _ (T1.setTop (mkF m 4 #[.val (.ref b0), .val (.ref b1), .val (.ref b2)] []))
  refine s_aloadN B X1 (pc' := 5) d11_4 rfl rfl rfl ?_
  refine s_aloadN B X1 (pc' := 6) d11_5 rfl rfl rfl ?_
  refine s_putF B X1 (pc' := 9) (ty := (.object "java/util/List")) e1 (host := "") (Or.inl (tw76 hw)) Via.refl D_b0_each E_b0 (Or.inr ⟨(tw77 hw), rfl, rfl⟩) (tw65 hw) (by decide) rfl rfl d11_6 rfl (fun T2 h2 X2 e2 W2 => ?_)
  have G2 := D_b0_each.same W2
  have N2 := Fr.snoc X2 (Fr.nil _) ge_b0
  have O2 := (O0).wr W2 ge_b0
  have F2 := OwnF.ext O2.2 FZ
  have K2 := ((Keep.refl h0 [b0])).wr W2 (Or.inl (List.mem_of_getElem? (i := 0) rfl))
  show Go p e below _ (T2.setTop (mkF m 9 #[.val (.ref b0), .val (.ref b1), .val (.ref b2)] []))
  refine s_aloadN B X2 (pc' := 10) d11_9 rfl rfl rfl ?_
  refine s_aloadN B X2 (pc' := 11) d11_10 rfl rfl rfl ?_
  have f4 := (D_b0_producers.other W2 (Or.inr (slot_ne (Or.inr (tw79 hw)) (Or.inr (tw77 hw)) (by decide) (t := (.object "java/util/List")) (t' := (.object "java/util/List")) (by decide) (by decide))))
  have f5 := (E_b0.wr W2)
  refine s_putF B X2 (pc' := 14) (ty := (.object "java/util/List")) e2 (host := "") (Or.inl (tw78 hw)) Via.refl f4 f5 (Or.inr ⟨(tw79 hw), rfl, rfl⟩) (tw65 hw) (by decide) rfl rfl d11_11 rfl (fun T3 h3 X3 e3 W3 => ?_)
  have G3 := f4.same W3
  have N3 := Fr.snoc X3 N2 ge_b0
  have O3 := (O2).wr W3 ge_b0
  have F3 := OwnF.ext O3.2 FZ
  have K3 := (K2).wr W3 (Or.inl (List.mem_of_getElem? (i := 0) rfl))
  show Go p e below _ (T3.setTop (mkF m 14 #[.val (.ref b0), .val (.ref b1), .val (.ref b2)] []))
  have f6 := (G2.other W3 (Or.inr (slot_ne (Or.inr (tw77 hw)) (Or.inr (tw79 hw)) (by decide) (t := (.object "java/util/List")) (t' := (.object "java/util/List")) (by decide) (by decide))))
  exact r_void B X3 rfl d11_14 (by rw [e3]; exact ⟨rfl, N3, K3, f6, G3⟩) (by decide) (by decide)
theorem d14_0 : decode jdk_38_method_9_code 0 = .ok (.aload_n 0, 1) := by decide +kernel
theorem d14_1 : decode jdk_38_method_9_code 1 = .ok (.getfield 48, 3) := by decide +kernel
theorem d14_4 : decode jdk_38_method_9_code 4 = .ok (.ifCond .ne 7, 3) := by decide +kernel
theorem d14_7 : decode jdk_38_method_9_code 7 = .ok (.iconst 1, 1) := by decide +kernel
theorem d14_8 : decode jdk_38_method_9_code 8 = .ok (.goto 4, 3) := by decide +kernel
theorem d14_12 : decode jdk_38_method_9_code 12 = .ok (.ireturn, 1) := by decide +kernel
theorem pn_mm14_8 : plainFor mn8 = true := by first | exact plainFor_of_name (show plainName "java/util/ArrayList" = true by first | (simp [plainName, overriddenIn]; done) | decide +kernel) | decide +kernel
set_option maxRecDepth 65536 in
set_option maxHeartbeats 40000000 in
theorem mm14_8 (l : Launch) (Z : State) (a0 : Array Value) (hw : ∀ d ∈ tables_1, d.before a0 Z = true) (b0 : Addr) (w_D : Addr) (h0 : Heap) (FZ : OwnF Z Z.heap w_D) (O0 : Old Z Z.heap.size h0) (ge_b0 : Z.heap.size ≤ b0) (E_b0 : Exa Z h0 b0 "java/util/ArrayList") (D_b0_elementData : Fld Z h0 b0 "java/util/ArrayList" "elementData" "[Ljava/lang/Object;" (.ref w_D)) (D_b0_modCount : Fld Z h0 b0 "java/util/AbstractList" "modCount" "I" (.int (0 : Int32))) (D_b0_size : Fld Z h0 b0 "java/util/ArrayList" "size" "I" (.int (0 : Int32)))  :
    OMeets l Z mn8 jdk_38_method_9_code 1 (some .boolean) [] ({ frames := 0, cells := 0, slots := 0, locals := 0 } : Room) #[(.ref b0)] h0 (PureQ (some (.int (1 : Int32))) h0) := by
  refine OMeets.of pn_mm14_8 #[.val (.ref b0)] (fun m => by first | rfl | (simp [entryFrame, mkF, argsToLocals, Value.category, maxLocals]; done)) ?_
  intro p e s m below meth c s₁ B X0 e0
  have F0 := OwnF.ext O0.2 FZ
  obtain ⟨S_D, ⟨kD, A_D⟩, S_high, T_cache⟩ := id F0
  refine s_aloadN B X0 (pc' := 1) d14_0 rfl rfl rfl ?_
  refine s_getF B X0 (pc' := 4) e0 (host := "") (Or.inl (tw40 hw)) Via.refl D_b0_size d14_1 rfl (fun T1 X1 e1 => ?_)
  refine s_ifN B X1 (pc' := 7) d14_4 (by decide) rfl ?_
  refine s_iconst B X1 (pc' := 8) (v := (1 : Int32)) d14_7 rfl rfl ?_
  refine s_goto B X1 (pc' := 12) d14_8 (by decide) (by decide) ?_
  exact r_nar B X1 (t := .boolean) (by simp) rfl d14_12 ⟨rfl, rfl, e1⟩ (by decide) (by decide)
theorem d13_0 : decode prog_103_method_3_code 0 = .ok (.aload_n 0, 1) := by decide +kernel
theorem d13_1 : decode prog_103_method_3_code 1 = .ok (.getfield 7, 3) := by decide +kernel
theorem d13_4 : decode prog_103_method_3_code 4 = .ok (.invokeinterface 26 1, 5) := by decide +kernel
theorem d13_9 : decode prog_103_method_3_code 9 = .ok (.ifCond .eq 19, 3) := by decide +kernel
theorem d13_12 : decode prog_103_method_3_code 12 = .ok (.aload_n 0, 1) := by decide +kernel
theorem d13_13 : decode prog_103_method_3_code 13 = .ok (.getfield 13, 3) := by decide +kernel
theorem d13_16 : decode prog_103_method_3_code 16 = .ok (.invokeinterface 26 1, 5) := by decide +kernel
theorem d13_21 : decode prog_103_method_3_code 21 = .ok (.ifCond .eq 7, 3) := by decide +kernel
theorem d13_24 : decode prog_103_method_3_code 24 = .ok (.iconst 1, 1) := by decide +kernel
theorem d13_25 : decode prog_103_method_3_code 25 = .ok (.goto 4, 3) := by decide +kernel
theorem d13_29 : decode prog_103_method_3_code 29 = .ok (.ireturn, 1) := by decide +kernel
theorem pn_mm13_8 : plainFor mn10 = true := plainFor_of_name (show plainName "com/example/lichen/lichen/solver/TermSubsumption$Ways" = true by first | (simp [plainName, overriddenIn]; done) | decide +kernel)
set_option maxRecDepth 65536 in
set_option maxHeartbeats 40000000 in
theorem mm13_8 (l : Launch) (Z : State) (a0 : Array Value) (hw : ∀ d ∈ tables_1, d.before a0 Z = true) (b0 : Addr) (b1 : Addr) (b2 : Addr) (w_D : Addr) (h0 : Heap) (FZ : OwnF Z Z.heap w_D) (O0 : Old Z Z.heap.size h0) (ge_b0 : Z.heap.size ≤ b0) (E_b0 : Exa Z h0 b0 "com/example/lichen/lichen/solver/TermSubsumption$Ways") (D_b0_each : Fld Z h0 b0 "com/example/lichen/lichen/solver/TermSubsumption$Ways" "each" "Ljava/util/List;" (.ref b1)) (D_b0_producers : Fld Z h0 b0 "com/example/lichen/lichen/solver/TermSubsumption$Ways" "producers" "Ljava/util/List;" (.ref b2)) (ge_b1 : Z.heap.size ≤ b1) (E_b1 : Exa Z h0 b1 "java/util/ArrayList") (D_b1_elementData : Fld Z h0 b1 "java/util/ArrayList" "elementData" "[Ljava/lang/Object;" (.ref w_D)) (D_b1_modCount : Fld Z h0 b1 "java/util/AbstractList" "modCount" "I" (.int (0 : Int32))) (D_b1_size : Fld Z h0 b1 "java/util/ArrayList" "size" "I" (.int (0 : Int32))) (ge_b2 : Z.heap.size ≤ b2) (E_b2 : Exa Z h0 b2 "java/util/ArrayList") (D_b2_elementData : Fld Z h0 b2 "java/util/ArrayList" "elementData" "[Ljava/lang/Object;" (.ref w_D)) (D_b2_modCount : Fld Z h0 b2 "java/util/AbstractList" "modCount" "I" (.int (0 : Int32))) (D_b2_size : Fld Z h0 b2 "java/util/ArrayList" "size" "I" (.int (0 : Int32))) (ne_b0_b1 : b0 ≠ b1) (ne_b0_b2 : b0 ≠ b2) (ne_b1_b2 : b1 ≠ b2)  :
    OMeets l Z mn10 prog_103_method_3_code 1 (some .boolean) [] ({ frames := 1, cells := 0, slots := 0, locals := 12 } : Room) #[(.ref b0)] h0 (PureQ (some (.int (1 : Int32))) h0) := by
  refine OMeets.of pn_mm13_8 #[.val (.ref b0)] (fun m => by first | rfl | (simp [entryFrame, mkF, argsToLocals, Value.category, maxLocals]; done)) ?_
  intro p e s m below meth c s₁ B X0 e0
  have F0 := OwnF.ext O0.2 FZ
  obtain ⟨S_D, ⟨kD, A_D⟩, S_high, T_cache⟩ := id F0
  refine s_aloadN B X0 (pc' := 1) d13_0 rfl rfl rfl ?_
  refine s_getF B X0 (pc' := 4) e0 (host := "") (Or.inl (tw76 hw)) Via.refl D_b0_each d13_1 rfl (fun T1 X1 e1 => ?_)
  refine p_iface B X1 (y := mn9) (z := mn8) (pc' := 9) (argsL := []) (under := []) (W := 0) e1 (tw85 hw) (tw86 hw) (tw87 hw) (tw88 hw) (tw89 hw) (tw90 hw) (tw91 hw) (tw92 hw) (tw93 hw) (tw2 hw) (by decide) (mm14_8 l Z a0 hw b1 w_D h0 FZ O0 ge_b1 E_b1 D_b1_elementData D_b1_modCount D_b1_size ) E_b1 (lenOf pd_3 rfl) rfl rfl (by decide) (by decide) rfl rfl (by decide) (by decide) rfl d13_4 rfl (fun T2 X2 e2 => ?_)
  show Go p e below _ (T2.setTop (mkF m 9 #[.val (.ref b0)] [(.int (1 : Int32))]))
  refine s_ifN B X2 (pc' := 12) d13_9 (by decide) rfl ?_
  refine s_aloadN B X2 (pc' := 13) d13_12 rfl rfl rfl ?_
  refine s_getF B X2 (pc' := 16) e2 (host := "") (Or.inl (tw78 hw)) Via.refl D_b0_producers d13_13 rfl (fun T3 X3 e3 => ?_)
  refine p_iface B X3 (y := mn9) (z := mn8) (pc' := 21) (argsL := []) (under := []) (W := 0) e3 (tw85 hw) (tw86 hw) (tw87 hw) (tw88 hw) (tw89 hw) (tw90 hw) (tw91 hw) (tw92 hw) (tw93 hw) (tw2 hw) (by decide) (mm14_8 l Z a0 hw b2 w_D h0 FZ O0 ge_b2 E_b2 D_b2_elementData D_b2_modCount D_b2_size ) E_b2 (lenOf pd_3 rfl) rfl rfl (by decide) (by decide) rfl rfl (by decide) (by decide) rfl d13_16 rfl (fun T4 X4 e4 => ?_)
  show Go p e below _ (T4.setTop (mkF m 21 #[.val (.ref b0)] [(.int (1 : Int32))]))
  refine s_ifN B X4 (pc' := 24) d13_21 (by decide) rfl ?_
  refine s_iconst B X4 (pc' := 25) (v := (1 : Int32)) d13_24 rfl rfl ?_
  refine s_goto B X4 (pc' := 29) d13_25 (by decide) (by decide) ?_
  exact r_nar B X4 (t := .boolean) (by simp) rfl d13_29 ⟨rfl, rfl, e4⟩ (by decide) (by decide)
theorem d10_0 : decode jdk_29_method_65_code 0 = .ok (.iload_n 0, 1) := by decide +kernel
theorem d10_1 : decode jdk_29_method_65_code 1 = .ok (.iload_n 1, 1) := by decide +kernel
theorem d10_2 : decode jdk_29_method_65_code 2 = .ok (.if_icmp .lt 7, 3) := by decide +kernel
theorem d10_5 : decode jdk_29_method_65_code 5 = .ok (.iload_n 0, 1) := by decide +kernel
theorem d10_6 : decode jdk_29_method_65_code 6 = .ok (.goto 4, 3) := by decide +kernel
theorem d10_10 : decode jdk_29_method_65_code 10 = .ok (.ireturn, 1) := by decide +kernel
theorem pn_rm10_0 : plainFor mn11 = true := by decide +kernel
set_option maxRecDepth 65536 in
set_option maxHeartbeats 40000000 in
theorem rm10_0 (l : Launch) (Z : State) (a0 : Array Value) (hw : ∀ d ∈ tables_1, d.before a0 Z = true)  (w_D : Addr) (h0 : Heap) (F0 : OwnF Z h0 w_D)  :
    OMeets l Z mn11 jdk_29_method_65_code 2 (some .int) [] ({ frames := 0, cells := 0, slots := 0, locals := 0 } : Room) #[(.int (10 : Int32)), (.int (1 : Int32))] h0 (PureQ (some (.int (10 : Int32))) h0) := by
  refine OMeets.of pn_rm10_0 #[.val (.int (10 : Int32)), .val (.int (1 : Int32))] (fun m => by first | rfl | (simp [entryFrame, mkF, argsToLocals, Value.category, maxLocals]; done)) ?_
  intro p e s m below meth c s₁ B X0 e0
  have F := F0
  obtain ⟨S_D, ⟨kD, A_D⟩, S_high, T_cache⟩ := F
  refine s_iloadN B X0 (pc' := 1) d10_0 rfl rfl ?_
  refine s_iloadN B X0 (pc' := 2) d10_1 rfl rfl ?_
  refine s_icmpN B X0 (pc' := 5) d10_2 (by decide) rfl ?_
  refine s_iloadN B X0 (pc' := 6) d10_5 rfl rfl ?_
  refine s_goto B X0 (pc' := 10) d10_6 (by decide) (by decide) ?_
  exact r_int B X0 rfl d10_10 ⟨rfl, rfl, e0⟩ (by decide) (by decide)
theorem d9_0 : decode jdk_38_method_6_code 0 = .ok (.aload_n 0, 1) := by decide +kernel
theorem d9_1 : decode jdk_38_method_6_code 1 = .ok (.getfield 9, 3) := by decide +kernel
theorem d9_4 : decode jdk_38_method_6_code 4 = .ok (.arraylength, 1) := by decide +kernel
theorem d9_5 : decode jdk_38_method_6_code 5 = .ok (.istore_n 2, 1) := by decide +kernel
theorem d9_6 : decode jdk_38_method_6_code 6 = .ok (.iload_n 2, 1) := by decide +kernel
theorem d9_7 : decode jdk_38_method_6_code 7 = .ok (.ifCond .gt 13, 3) := by decide +kernel
theorem d9_10 : decode jdk_38_method_6_code 10 = .ok (.aload_n 0, 1) := by decide +kernel
theorem d9_11 : decode jdk_38_method_6_code 11 = .ok (.getfield 9, 3) := by decide +kernel
theorem d9_14 : decode jdk_38_method_6_code 14 = .ok (.getstatic 39, 3) := by decide +kernel
theorem d9_17 : decode jdk_38_method_6_code 17 = .ok (.if_acmp .eq 28, 3) := by decide +kernel
theorem d9_45 : decode jdk_38_method_6_code 45 = .ok (.aload_n 0, 1) := by decide +kernel
theorem d9_46 : decode jdk_38_method_6_code 46 = .ok (.bipush 10, 2) := by decide +kernel
theorem d9_48 : decode jdk_38_method_6_code 48 = .ok (.iload_n 1, 1) := by decide +kernel
theorem d9_49 : decode jdk_38_method_6_code 49 = .ok (.invokestatic 79, 3) := by decide +kernel
theorem d9_52 : decode jdk_38_method_6_code 52 = .ok (.anewarray 7, 3) := by decide +kernel
theorem d9_55 : decode jdk_38_method_6_code 55 = .ok (.dup_x1, 1) := by decide +kernel
theorem d9_56 : decode jdk_38_method_6_code 56 = .ok (.putfield 9, 3) := by decide +kernel
theorem d9_59 : decode jdk_38_method_6_code 59 = .ok (.areturn, 1) := by decide +kernel
theorem pn_mm9_10 : plainFor mn12 = true := by first | exact plainFor_of_name (show plainName "java/util/ArrayList" = true by first | (simp [plainName, overriddenIn]; done) | decide +kernel) | decide +kernel
set_option maxRecDepth 65536 in
set_option maxHeartbeats 40000000 in
theorem mm9_10 (l : Launch) (Z : State) (a0 : Array Value) (hw : ∀ d ∈ tables_1, d.before a0 Z = true) (b0 : Addr) (w_D : Addr) (h0 : Heap) (FZ : OwnF Z Z.heap w_D) (O0 : Old Z Z.heap.size h0) (ge_b0 : Z.heap.size ≤ b0) (E_b0 : Exa Z h0 b0 "java/util/ArrayList") (D_b0_elementData : Fld Z h0 b0 "java/util/ArrayList" "elementData" "[Ljava/lang/Object;" (.ref w_D)) (D_b0_modCount : Fld Z h0 b0 "java/util/AbstractList" "modCount" "I" (.int (1 : Int32))) (D_b0_size : Fld Z h0 b0 "java/util/ArrayList" "size" "I" (.int (0 : Int32)))  :
    OMeets l Z mn12 jdk_38_method_6_code 4 (some (.array (.object "java/lang/Object"))) [] ({ frames := 1, cells := 1, slots := 10, locals := 14 } : Room) #[(.ref b0), (.int (1 : Int32))] h0 (fun v h L => ∃ o5 : Addr, ∃ kq_o5 : ClassId, v = some (.ref o5) ∧ Fr Z.heap.size L ∧ Keep h0 h [b0] ∧ h0.size ≤ o5 ∧ Ary Z h o5 kq_o5 (.object "java/lang/Object") 10 (lst [.null, .null, .null, .null, .null, .null, .null, .null, .null, .null] .null) ∧ Ovr Z kq_o5 "java/lang/Object" ∧ Fld Z h b0 "java/util/ArrayList" "elementData" "[Ljava/lang/Object;" (.ref o5) ∧ Fld Z h b0 "java/util/AbstractList" "modCount" "I" (.int (1 : Int32)) ∧ Fld Z h b0 "java/util/ArrayList" "size" "I" (.int (0 : Int32))) := by
  refine OMeets.of pn_mm9_10 #[.val (.ref b0), .val (.int (1 : Int32)), .unset, .unset] (fun m => by first | rfl | (simp [entryFrame, mkF, argsToLocals, Value.category, maxLocals]; done)) ?_
  intro p e s m below meth c s₁ B X0 e0
  have F0 := OwnF.ext O0.2 FZ
  obtain ⟨S_D, ⟨kD, A_D⟩, S_high, T_cache⟩ := id F0
  refine s_aloadN B X0 (pc' := 1) d9_0 rfl rfl rfl ?_
  refine s_getF B X0 (pc' := 4) e0 (host := "") (Or.inl (tw24 hw)) Via.refl D_b0_elementData d9_1 rfl (fun T1 X1 e1 => ?_)
  refine s_len B X1 (pc' := 5) (v := (0 : Int32)) e1 A_D rfl d9_4 rfl ?_
  refine s_istoreN B X1 (pc' := 6) (Ls' := #[.val (.ref b0), .val (.int (1 : Int32)), .val (.int (0 : Int32)), .unset]) d9_5 rfl rfl ?_
  refine s_iloadN B X1 (pc' := 7) d9_6 rfl rfl ?_
  refine s_ifN B X1 (pc' := 10) d9_7 (by decide) rfl ?_
  refine s_aloadN B X1 (pc' := 11) d9_10 rfl rfl rfl ?_
  refine s_getF B X1 (pc' := 14) e1 (host := "") (Or.inl (tw24 hw)) Via.refl D_b0_elementData d9_11 rfl (fun T2 X2 e2 => ?_)
  refine s_getS B X2 (pc' := 17) e2 (tw23 hw) Via.refl S_D d9_14 rfl (fun T3 X3 e3 => ?_)
  refine b_acmp_eq B X3 (py := 45) (pn := 20) d9_17 (by decide) (by decide) rfl (fun _ => ?_) (fun q => absurd rfl q)
  refine s_aloadN B X3 (pc' := 46) d9_45 rfl rfl rfl ?_
  refine s_bipush B X3 (pc' := 48) (v := (10 : Int32)) d9_46 rfl rfl ?_
  refine s_iloadN B X3 (pc' := 49) d9_48 rfl rfl ?_
  refine p_static B X3 (y := mn11) (pc' := 52) (argsL := [(.int (10 : Int32)), (.int (1 : Int32))]) (under := [(.ref b0)]) (W := 1) e3 (tw57 hw) (tw58 hw) (tw60 hw) (tw59 hw) (by decide) (rm10_0 l Z a0 hw  w_D h0 F0 ) (lenOf pd_5 rfl) rfl rfl (by decide) (by decide) rfl rfl (by decide) (by decide) rfl d9_49 rfl (fun T4 X4 e4 => ?_)
  show Go p e below _ (T4.setTop (mkF m 52 #[.val (.ref b0), .val (.int (1 : Int32)), .val (.int (0 : Int32)), .unset] [(.int (10 : Int32)), (.ref b0)]))
  refine s_newR B X4 (pc' := 55) (N := 10) (cap := 10) e4 (tw61 hw) (tw62 hw) (by decide) (by decide) (by decide) (by decide) (by decide) (by decide) d9_52 rfl (fun T5 h5 o5 k5 g5 X5 e5 E5 A5 V5 => ?_)
  have ne_b0_o5 : b0 ≠ o5 := Nat.ne_of_lt (g5 ▸ E_b0.lt)
  have ge_o5 : Z.heap.size ≤ o5 := g5 ▸ old_le O0
  have le_o5 : h0.size ≤ o5 := g5 ▸ ((Keep.refl h0 [b0])).1
  replace A5 : Ary Z h5 o5 k5 (.object "java/lang/Object") 10 (lst [.null, .null, .null, .null, .null, .null, .null, .null, .null, .null] .null) := A5.congr (own_rep 10)
  have O5 := (O0).ext E5
  have F5 := OwnF.ext O5.2 FZ
  have K5 := ((Keep.refl h0 [b0])).ext E5
  show Go p e below _ (T5.setTop (mkF m 55 #[.val (.ref b0), .val (.int (1 : Int32)), .val (.int (0 : Int32)), .unset] [(.ref o5), (.ref b0)]))
  refine s_dup_x1 B X5 (pc' := 56) d9_55 rfl rfl rfl ?_
  have f7 := (D_b0_elementData.ext E5)
  have f8 := (E_b0.ext E5)
  refine s_putF B X5 (pc' := 59) (ty := (.array (.object "java/lang/Object"))) e5 (host := "") (Or.inl (tw24 hw)) Via.refl f7 f8 (Or.inl (tw25 hw)) (tw1 hw) (by decide) rfl rfl d9_56 rfl (fun T6 h6 X6 e6 W6 => ?_)
  have G6 := f7.same W6
  have N6 := Fr.snoc X6 (Fr.nil _) ge_b0
  have O6 := (O5).wr W6 ge_b0
  have F6 := OwnF.ext O6.2 FZ
  have K6 := (K5).wr W6 (Or.inl (List.mem_of_getElem? (i := 0) rfl))
  show Go p e below _ (T6.setTop (mkF m 59 #[.val (.ref b0), .val (.int (1 : Int32)), .val (.int (0 : Int32)), .unset] [(.ref o5)]))
  have f9 := (Ary.other W6 A5 (Ne.symm ne_b0_o5))
  have f10 := ((D_b0_modCount.ext E5).other W6 (Or.inr (slot_ne (Or.inl (tw22 hw)) (Or.inl (tw25 hw)) (by decide) (t := .int) (t' := (.array (.object "java/lang/Object"))) (by decide) (by decide))))
  have f11 := ((D_b0_size.ext E5).other W6 (Or.inr (slot_ne (Or.inl (tw41 hw)) (Or.inl (tw25 hw)) (by decide) (t := .int) (t' := (.array (.object "java/lang/Object"))) (by decide) (by decide))))
  exact r_ref B X6 (t := (.array (.object "java/lang/Object"))) rfl rfl rfl rfl d9_59 (by rw [e6]; exact ⟨o5, k5, rfl, N6, K6, le_o5, f9, V5, G6, f10, f11⟩) (by decide) (by decide)
theorem d8_0 : decode jdk_38_method_7_code 0 = .ok (.aload_n 0, 1) := by decide +kernel
theorem d8_1 : decode jdk_38_method_7_code 1 = .ok (.aload_n 0, 1) := by decide +kernel
theorem d8_2 : decode jdk_38_method_7_code 2 = .ok (.getfield 48, 3) := by decide +kernel
theorem d8_5 : decode jdk_38_method_7_code 5 = .ok (.iconst 1, 1) := by decide +kernel
theorem d8_6 : decode jdk_38_method_7_code 6 = .ok (.iadd, 1) := by decide +kernel
theorem d8_7 : decode jdk_38_method_7_code 7 = .ok (.invokevirtual 69, 3) := by decide +kernel
theorem d8_10 : decode jdk_38_method_7_code 10 = .ok (.areturn, 1) := by decide +kernel
theorem pn_mm8_10 : plainFor mn13 = true := by first | exact plainFor_of_name (show plainName "java/util/ArrayList" = true by first | (simp [plainName, overriddenIn]; done) | decide +kernel) | decide +kernel
set_option maxRecDepth 65536 in
set_option maxHeartbeats 40000000 in
theorem mm8_10 (l : Launch) (Z : State) (a0 : Array Value) (hw : ∀ d ∈ tables_1, d.before a0 Z = true) (b0 : Addr) (w_D : Addr) (h0 : Heap) (FZ : OwnF Z Z.heap w_D) (O0 : Old Z Z.heap.size h0) (ge_b0 : Z.heap.size ≤ b0) (E_b0 : Exa Z h0 b0 "java/util/ArrayList") (D_b0_elementData : Fld Z h0 b0 "java/util/ArrayList" "elementData" "[Ljava/lang/Object;" (.ref w_D)) (D_b0_modCount : Fld Z h0 b0 "java/util/AbstractList" "modCount" "I" (.int (1 : Int32))) (D_b0_size : Fld Z h0 b0 "java/util/ArrayList" "size" "I" (.int (0 : Int32)))  :
    OMeets l Z mn13 jdk_38_method_7_code 1 (some (.array (.object "java/lang/Object"))) [] ({ frames := 2, cells := 1, slots := 10, locals := 29 } : Room) #[(.ref b0)] h0 (fun v h L => ∃ o2_0 : Addr, ∃ kq_o2_0 : ClassId, v = some (.ref o2_0) ∧ Fr Z.heap.size L ∧ Keep h0 h [b0] ∧ h0.size ≤ o2_0 ∧ Ary Z h o2_0 kq_o2_0 (.object "java/lang/Object") 10 (lst [.null, .null, .null, .null, .null, .null, .null, .null, .null, .null] .null) ∧ Ovr Z kq_o2_0 "java/lang/Object" ∧ Fld Z h b0 "java/util/ArrayList" "elementData" "[Ljava/lang/Object;" (.ref o2_0) ∧ Fld Z h b0 "java/util/AbstractList" "modCount" "I" (.int (1 : Int32)) ∧ Fld Z h b0 "java/util/ArrayList" "size" "I" (.int (0 : Int32))) := by
  refine OMeets.of pn_mm8_10 #[.val (.ref b0)] (fun m => by first | rfl | (simp [entryFrame, mkF, argsToLocals, Value.category, maxLocals]; done)) ?_
  intro p e s m below meth c s₁ B X0 e0
  have F0 := OwnF.ext O0.2 FZ
  obtain ⟨S_D, ⟨kD, A_D⟩, S_high, T_cache⟩ := id F0
  refine s_aloadN B X0 (pc' := 1) d8_0 rfl rfl rfl ?_
  refine s_aloadN B X0 (pc' := 2) d8_1 rfl rfl rfl ?_
  refine s_getF B X0 (pc' := 5) e0 (host := "") (Or.inl (tw40 hw)) Via.refl D_b0_size d8_2 rfl (fun T1 X1 e1 => ?_)
  refine s_iconst B X1 (pc' := 6) (v := (1 : Int32)) d8_5 rfl rfl ?_
  refine s_iadd B X1 (pc' := 7) (v := (1 : Int32)) d8_6 rfl rfl ?_
  refine c_private B X1 (y := mn12) (pc' := 10) (argsL := [(.int (1 : Int32))]) (under := []) (W := 0) e1 (tw52 hw) (tw1 hw) (tw54 hw) (tw53 hw) (tw56 hw) (tw2 hw) (by decide) (mm9_10 l Z a0 hw b0 w_D h0 FZ O0 ge_b0 E_b0 D_b0_elementData D_b0_modCount D_b0_size ) E_b0 (lenOf pd_6 rfl) rfl rfl (by decide) (by decide) (by decide) (by decide) rfl d8_7 rfl (fun v2 T2 L2 X2 hQ2 => ?_)
  obtain ⟨o2_0, kq_o2_0, rfl, Nq2, Kq2, lq_o2_0, u2_0, ovu2_0, u2_1, u2_2, u2_3⟩ := hQ2
  have ne_b0_o2_0 : b0 ≠ o2_0 := Nat.ne_of_lt (Nat.lt_of_lt_of_le E_b0.lt lq_o2_0)
  have ge_o2_0 : Z.heap.size ≤ o2_0 := Nat.le_trans (old_le O0) lq_o2_0
  have le_o2_0 : h0.size ≤ o2_0 := Nat.le_trans ((Keep.refl h0 [b0])).1 lq_o2_0
  obtain ⟨h2, e2⟩ : ∃ z, T2.heap = z := ⟨_, rfl⟩
  rw [e2] at Kq2 u2_0 u2_1 u2_2 u2_3
  have N2 := Fr.app (Fr.nil _) Nq2
  have O2 := (O0).keep Kq2 (allS ge_b0 all0)
  have F2 := OwnF.ext O2.2 FZ
  have K2 := ((Keep.refl h0 [b0])).trans Kq2 (allS (Or.inl (List.mem_of_getElem? (i := 0) rfl)) all0)
  show Go p e below _ (T2.setTop (mkF m 10 #[.val (.ref b0)] [(.ref o2_0)]))
  exact r_ref B X2 (t := (.array (.object "java/lang/Object"))) rfl rfl rfl rfl d8_10 (by rw [e2]; exact ⟨o2_0, kq_o2_0, rfl, N2, K2, le_o2_0, u2_0, ovu2_0, u2_1, u2_2, u2_3⟩) (by decide) (by decide)
theorem d7_0 : decode jdk_38_method_24_code 0 = .ok (.iload_n 3, 1) := by decide +kernel
theorem d7_1 : decode jdk_38_method_24_code 1 = .ok (.aload_n 2, 1) := by decide +kernel
theorem d7_2 : decode jdk_38_method_24_code 2 = .ok (.arraylength, 1) := by decide +kernel
theorem d7_3 : decode jdk_38_method_24_code 3 = .ok (.if_icmp .ne 8, 3) := by decide +kernel
theorem d7_6 : decode jdk_38_method_24_code 6 = .ok (.aload_n 0, 1) := by decide +kernel
theorem d7_7 : decode jdk_38_method_24_code 7 = .ok (.invokevirtual 129, 3) := by decide +kernel
theorem d7_10 : decode jdk_38_method_24_code 10 = .ok (.astore_n 2, 1) := by decide +kernel
theorem d7_11 : decode jdk_38_method_24_code 11 = .ok (.aload_n 2, 1) := by decide +kernel
theorem d7_12 : decode jdk_38_method_24_code 12 = .ok (.iload_n 3, 1) := by decide +kernel
theorem d7_13 : decode jdk_38_method_24_code 13 = .ok (.aload_n 1, 1) := by decide +kernel
theorem d7_14 : decode jdk_38_method_24_code 14 = .ok (.aastore, 1) := by decide +kernel
theorem d7_15 : decode jdk_38_method_24_code 15 = .ok (.aload_n 0, 1) := by decide +kernel
theorem d7_16 : decode jdk_38_method_24_code 16 = .ok (.iload_n 3, 1) := by decide +kernel
theorem d7_17 : decode jdk_38_method_24_code 17 = .ok (.iconst 1, 1) := by decide +kernel
theorem d7_18 : decode jdk_38_method_24_code 18 = .ok (.iadd, 1) := by decide +kernel
theorem d7_19 : decode jdk_38_method_24_code 19 = .ok (.putfield 48, 3) := by decide +kernel
theorem d7_22 : decode jdk_38_method_24_code 22 = .ok (.return_, 1) := by decide +kernel
theorem pn_mm7_10 : plainFor mn14 = true := by first | exact plainFor_of_name (show plainName "java/util/ArrayList" = true by first | (simp [plainName, overriddenIn]; done) | decide +kernel) | decide +kernel
set_option maxRecDepth 65536 in
set_option maxHeartbeats 40000000 in
theorem mm7_10 (l : Launch) (Z : State) (a0 : Array Value) (hw : ∀ d ∈ tables_1, d.before a0 Z = true) (b0 : Addr) (b1 : Addr) (w_D : Addr) (h0 : Heap) (FZ : OwnF Z Z.heap w_D) (O0 : Old Z Z.heap.size h0) (ge_b0 : Z.heap.size ≤ b0) (E_b0 : Exa Z h0 b0 "java/util/ArrayList") (D_b0_elementData : Fld Z h0 b0 "java/util/ArrayList" "elementData" "[Ljava/lang/Object;" (.ref w_D)) (D_b0_modCount : Fld Z h0 b0 "java/util/AbstractList" "modCount" "I" (.int (1 : Int32))) (D_b0_size : Fld Z h0 b0 "java/util/ArrayList" "size" "I" (.int (0 : Int32))) (E_b1 : Exa Z h0 b1 "java/lang/Integer")  :
    OMeets l Z mn14 jdk_38_method_24_code 4 none [] ({ frames := 3, cells := 1, slots := 10, locals := 41 } : Room) #[(.ref b0), (.ref b1), (.ref w_D), (.int (0 : Int32))] h0 (fun v h L => ∃ o1_0 : Addr, ∃ kq_o1_0 : ClassId, v = none ∧ Fr Z.heap.size L ∧ Keep h0 h [b0] ∧ h0.size ≤ o1_0 ∧ Ary Z h o1_0 kq_o1_0 (.object "java/lang/Object") 10 (lst [(.ref b1), .null, .null, .null, .null, .null, .null, .null, .null, .null] .null) ∧ Ovr Z kq_o1_0 "java/lang/Object" ∧ Fld Z h b0 "java/util/ArrayList" "elementData" "[Ljava/lang/Object;" (.ref o1_0) ∧ Fld Z h b0 "java/util/AbstractList" "modCount" "I" (.int (1 : Int32)) ∧ Fld Z h b0 "java/util/ArrayList" "size" "I" (.int (1 : Int32))) := by
  refine OMeets.of pn_mm7_10 #[.val (.ref b0), .val (.ref b1), .val (.ref w_D), .val (.int (0 : Int32))] (fun m => by first | rfl | (simp [entryFrame, mkF, argsToLocals, Value.category, maxLocals]; done)) ?_
  intro p e s m below meth c s₁ B X0 e0
  have F0 := OwnF.ext O0.2 FZ
  obtain ⟨S_D, ⟨kD, A_D⟩, S_high, T_cache⟩ := id F0
  refine s_iloadN B X0 (pc' := 1) d7_0 rfl rfl ?_
  refine s_aloadN B X0 (pc' := 2) d7_1 rfl rfl rfl ?_
  refine s_len B X0 (pc' := 3) (v := (0 : Int32)) e0 A_D rfl d7_2 rfl ?_
  refine s_icmpN B X0 (pc' := 6) d7_3 (by decide) rfl ?_
  refine s_aloadN B X0 (pc' := 7) d7_6 rfl rfl rfl ?_
  refine c_private B X0 (y := mn13) (pc' := 10) (argsL := []) (under := []) (W := 0) e0 (tw47 hw) (tw1 hw) (tw49 hw) (tw48 hw) (tw51 hw) (tw2 hw) (by decide) (mm8_10 l Z a0 hw b0 w_D h0 FZ O0 ge_b0 E_b0 D_b0_elementData D_b0_modCount D_b0_size ) E_b0 (lenOf pd_7 rfl) rfl rfl (by decide) (by decide) (by decide) (by decide) rfl d7_7 rfl (fun v1 T1 L1 X1 hQ1 => ?_)
  obtain ⟨o1_0, kq_o1_0, rfl, Nq1, Kq1, lq_o1_0, u1_0, ovu1_0, u1_1, u1_2, u1_3⟩ := hQ1
  have ne_b0_o1_0 : b0 ≠ o1_0 := Nat.ne_of_lt (Nat.lt_of_lt_of_le E_b0.lt lq_o1_0)
  have ge_o1_0 : Z.heap.size ≤ o1_0 := Nat.le_trans (old_le O0) lq_o1_0
  have le_o1_0 : h0.size ≤ o1_0 := Nat.le_trans ((Keep.refl h0 [b0])).1 lq_o1_0
  obtain ⟨h1, e1⟩ : ∃ z, T1.heap = z := ⟨_, rfl⟩
  rw [e1] at Kq1 u1_0 u1_1 u1_2 u1_3
  have N1 := Fr.app (Fr.nil _) Nq1
  have O1 := (O0).keep Kq1 (allS ge_b0 all0)
  have F1 := OwnF.ext O1.2 FZ
  have K1 := ((Keep.refl h0 [b0])).trans Kq1 (allS (Or.inl (List.mem_of_getElem? (i := 0) rfl)) all0)
  show Go p e below _ (T1.setTop (mkF m 10 #[.val (.ref b0), .val (.ref b1), .val (.ref w_D), .val (.int (0 : Int32))] [(.ref o1_0)]))
  refine s_astoreN B X1 (pc' := 11) (Ls' := #[.val (.ref b0), .val (.ref b1), .val (.ref o1_0), .val (.int (0 : Int32))]) d7_10 rfl rfl rfl ?_
  refine s_aloadN B X1 (pc' := 12) d7_11 rfl rfl rfl ?_
  refine s_iloadN B X1 (pc' := 13) d7_12 rfl rfl ?_
  refine s_aloadN B X1 (pc' := 14) d7_13 rfl rfl rfl ?_
  have f3 := (E_b1.keep Kq1)
  refine s_stR B X1 (pc' := 15) (jn := 0) e1 u1_0 rfl (Ary.sto u1_0 ovu1_0 (Ins.of_exa f3 (tw63 hw))) (by decide) (by decide) (by decide) d7_14 rfl (fun T2 h2 X2 e2 W2 A2 => ?_)
  replace A2 := A2.full (show 0 < 10 by decide) (L' := [(.ref b1), .null, .null, .null, .null, .null, .null, .null, .null, .null]) rfl
  have N2 := Fr.snoc X2 N1 ge_o1_0
  have O2 := (O1).wr W2 ge_o1_0
  have F2 := OwnF.ext O2.2 FZ
  have K2 := (K1).wr W2 (Or.inr le_o1_0)
  show Go p e below _ (T2.setTop (mkF m 15 #[.val (.ref b0), .val (.ref b1), .val (.ref o1_0), .val (.int (0 : Int32))] []))
  refine s_aloadN B X2 (pc' := 16) d7_15 rfl rfl rfl ?_
  refine s_iloadN B X2 (pc' := 17) d7_16 rfl rfl ?_
  refine s_iconst B X2 (pc' := 18) (v := (1 : Int32)) d7_17 rfl rfl ?_
  refine s_iadd B X2 (pc' := 19) (v := (1 : Int32)) d7_18 rfl rfl ?_
  have f5 := (u1_3.other W2 (Or.inl ne_b0_o1_0))
  have f6 := ((E_b0.keep Kq1).wr W2)
  refine s_putF B X2 (pc' := 22) (ty := .int) e2 (host := "") (Or.inl (tw40 hw)) Via.refl f5 f6 (Or.inl (tw41 hw)) (tw1 hw) (by decide) rfl rfl d7_19 rfl (fun T4 h4 X4 e4 W4 => ?_)
  have G4 := f5.same W4
  have N4 := Fr.snoc X4 N2 ge_b0
  have O4 := (O2).wr W4 ge_b0
  have F4 := OwnF.ext O4.2 FZ
  have K4 := (K2).wr W4 (Or.inl (List.mem_of_getElem? (i := 0) rfl))
  show Go p e below _ (T4.setTop (mkF m 22 #[.val (.ref b0), .val (.ref b1), .val (.ref o1_0), .val (.int (0 : Int32))] []))
  have f7 := (Ary.other W4 A2 (Ne.symm ne_b0_o1_0))
  have f8 := ((u1_1.other W2 (Or.inl ne_b0_o1_0)).other W4 (Or.inr (slot_ne (Or.inl (tw25 hw)) (Or.inl (tw41 hw)) (by decide) (t := (.array (.object "java/lang/Object"))) (t' := .int) (by decide) (by decide))))
  have f9 := ((u1_2.other W2 (Or.inl ne_b0_o1_0)).other W4 (Or.inr (slot_ne (Or.inl (tw22 hw)) (Or.inl (tw41 hw)) (by decide) (t := .int) (t' := .int) (by decide) (by decide))))
  exact r_void B X4 rfl d7_22 (by rw [e4]; exact ⟨o1_0, kq_o1_0, rfl, N4, K4, le_o1_0, f7, ovu1_0, f8, f9, G4⟩) (by decide) (by decide)
theorem d6_0 : decode jdk_38_method_25_code 0 = .ok (.aload_n 0, 1) := by decide +kernel
theorem d6_1 : decode jdk_38_method_25_code 1 = .ok (.dup, 1) := by decide +kernel
theorem d6_2 : decode jdk_38_method_25_code 2 = .ok (.getfield 63, 3) := by decide +kernel
theorem d6_5 : decode jdk_38_method_25_code 5 = .ok (.iconst 1, 1) := by decide +kernel
theorem d6_6 : decode jdk_38_method_25_code 6 = .ok (.iadd, 1) := by decide +kernel
theorem d6_7 : decode jdk_38_method_25_code 7 = .ok (.putfield 63, 3) := by decide +kernel
theorem d6_10 : decode jdk_38_method_25_code 10 = .ok (.aload_n 0, 1) := by decide +kernel
theorem d6_11 : decode jdk_38_method_25_code 11 = .ok (.aload_n 1, 1) := by decide +kernel
theorem d6_12 : decode jdk_38_method_25_code 12 = .ok (.aload_n 0, 1) := by decide +kernel
theorem d6_13 : decode jdk_38_method_25_code 13 = .ok (.getfield 9, 3) := by decide +kernel
theorem d6_16 : decode jdk_38_method_25_code 16 = .ok (.aload_n 0, 1) := by decide +kernel
theorem d6_17 : decode jdk_38_method_25_code 17 = .ok (.getfield 48, 3) := by decide +kernel
theorem d6_20 : decode jdk_38_method_25_code 20 = .ok (.invokevirtual 131, 3) := by decide +kernel
theorem d6_23 : decode jdk_38_method_25_code 23 = .ok (.iconst 1, 1) := by decide +kernel
theorem d6_24 : decode jdk_38_method_25_code 24 = .ok (.ireturn, 1) := by decide +kernel
theorem pn_mm6_10 : plainFor mn15 = true := by first | exact plainFor_of_name (show plainName "java/util/ArrayList" = true by first | (simp [plainName, overriddenIn]; done) | decide +kernel) | decide +kernel
set_option maxRecDepth 65536 in
set_option maxHeartbeats 40000000 in
theorem mm6_10 (l : Launch) (Z : State) (a0 : Array Value) (hw : ∀ d ∈ tables_1, d.before a0 Z = true) (b0 : Addr) (b1 : Addr) (w_D : Addr) (h0 : Heap) (FZ : OwnF Z Z.heap w_D) (O0 : Old Z Z.heap.size h0) (ge_b0 : Z.heap.size ≤ b0) (E_b0 : Exa Z h0 b0 "java/util/ArrayList") (D_b0_elementData : Fld Z h0 b0 "java/util/ArrayList" "elementData" "[Ljava/lang/Object;" (.ref w_D)) (D_b0_modCount : Fld Z h0 b0 "java/util/AbstractList" "modCount" "I" (.int (0 : Int32))) (D_b0_size : Fld Z h0 b0 "java/util/ArrayList" "size" "I" (.int (0 : Int32))) (E_b1 : Exa Z h0 b1 "java/lang/Integer")  :
    OMeets l Z mn15 jdk_38_method_25_code 2 (some .boolean) [] ({ frames := 4, cells := 1, slots := 10, locals := 56 } : Room) #[(.ref b0), (.ref b1)] h0 (fun v h L => ∃ o9_0 : Addr, ∃ kq_o9_0 : ClassId, v = some (.int (1 : Int32)) ∧ Fr Z.heap.size L ∧ Keep h0 h [b0] ∧ h0.size ≤ o9_0 ∧ Ary Z h o9_0 kq_o9_0 (.object "java/lang/Object") 10 (lst [(.ref b1), .null, .null, .null, .null, .null, .null, .null, .null, .null] .null) ∧ Ovr Z kq_o9_0 "java/lang/Object" ∧ Fld Z h b0 "java/util/ArrayList" "elementData" "[Ljava/lang/Object;" (.ref o9_0) ∧ Fld Z h b0 "java/util/AbstractList" "modCount" "I" (.int (1 : Int32)) ∧ Fld Z h b0 "java/util/ArrayList" "size" "I" (.int (1 : Int32))) := by
  refine OMeets.of pn_mm6_10 #[.val (.ref b0), .val (.ref b1)] (fun m => by first | rfl | (simp [entryFrame, mkF, argsToLocals, Value.category, maxLocals]; done)) ?_
  intro p e s m below meth c s₁ B X0 e0
  have F0 := OwnF.ext O0.2 FZ
  obtain ⟨S_D, ⟨kD, A_D⟩, S_high, T_cache⟩ := id F0
  refine s_aloadN B X0 (pc' := 1) d6_0 rfl rfl rfl ?_
  refine s_dup B X0 (pc' := 2) d6_1 rfl rfl ?_
  refine s_getF B X0 (pc' := 5) e0 (host := "") (Or.inl (tw38 hw)) (Via.of (tw39 hw)) D_b0_modCount d6_2 rfl (fun T1 X1 e1 => ?_)
  refine s_iconst B X1 (pc' := 6) (v := (1 : Int32)) d6_5 rfl rfl ?_
  refine s_iadd B X1 (pc' := 7) (v := (1 : Int32)) d6_6 rfl rfl ?_
  refine s_putF B X1 (pc' := 10) (ty := .int) e1 (host := "") (Or.inl (tw38 hw)) (Via.of (tw39 hw)) D_b0_modCount E_b0 (Or.inl (tw22 hw)) (tw1 hw) (by decide) rfl rfl d6_7 rfl (fun T2 h2 X2 e2 W2 => ?_)
  have G2 := D_b0_modCount.same W2
  have N2 := Fr.snoc X2 (Fr.nil _) ge_b0
  have O2 := (O0).wr W2 ge_b0
  have F2 := OwnF.ext O2.2 FZ
  have K2 := ((Keep.refl h0 [b0])).wr W2 (Or.inl (List.mem_of_getElem? (i := 0) rfl))
  show Go p e below _ (T2.setTop (mkF m 10 #[.val (.ref b0), .val (.ref b1)] []))
  refine s_aloadN B X2 (pc' := 11) d6_10 rfl rfl rfl ?_
  refine s_aloadN B X2 (pc' := 12) d6_11 rfl rfl rfl ?_
  refine s_aloadN B X2 (pc' := 13) d6_12 rfl rfl rfl ?_
  have f3 := (D_b0_elementData.other W2 (Or.inr (slot_ne (Or.inl (tw25 hw)) (Or.inl (tw22 hw)) (by decide) (t := (.array (.object "java/lang/Object"))) (t' := .int) (by decide) (by decide))))
  refine s_getF B X2 (pc' := 16) e2 (host := "") (Or.inl (tw24 hw)) Via.refl f3 d6_13 rfl (fun T4 X4 e4 => ?_)
  refine s_aloadN B X4 (pc' := 17) d6_16 rfl rfl rfl ?_
  have f5 := (D_b0_size.other W2 (Or.inr (slot_ne (Or.inl (tw41 hw)) (Or.inl (tw22 hw)) (by decide) (t := .int) (t' := .int) (by decide) (by decide))))
  refine s_getF B X4 (pc' := 20) e4 (host := "") (Or.inl (tw40 hw)) Via.refl f5 d6_17 rfl (fun T6 X6 e6 => ?_)
  have f7 := (E_b0.wr W2)
  have f8 := (E_b1.wr W2)
  refine c_private B X6 (y := mn14) (pc' := 23) (argsL := [(.ref b1), (.ref w_D), (.int (0 : Int32))]) (under := []) (W := 0) e6 (tw42 hw) (tw1 hw) (tw44 hw) (tw43 hw) (tw46 hw) (tw2 hw) (by decide) (mm7_10 l Z a0 hw b0 b1 w_D h2 FZ O2 ge_b0 f7 f3 G2 f5 f8 ) f7 (lenOf pd_8 rfl) rfl rfl (by decide) (by decide) (by decide) (by decide) rfl d6_20 rfl (fun v9 T9 L9 X9 hQ9 => ?_)
  obtain ⟨o9_0, kq_o9_0, rfl, Nq9, Kq9, lq_o9_0, u9_0, ovu9_0, u9_1, u9_2, u9_3⟩ := hQ9
  have ne_b0_o9_0 : b0 ≠ o9_0 := Nat.ne_of_lt (Nat.lt_of_lt_of_le f7.lt lq_o9_0)
  have ge_o9_0 : Z.heap.size ≤ o9_0 := Nat.le_trans (old_le O2) lq_o9_0
  have le_o9_0 : h0.size ≤ o9_0 := Nat.le_trans (K2).1 lq_o9_0
  obtain ⟨h9, e9⟩ : ∃ z, T9.heap = z := ⟨_, rfl⟩
  rw [e9] at Kq9 u9_0 u9_1 u9_2 u9_3
  have N9 := Fr.app N2 Nq9
  have O9 := (O2).keep Kq9 (allS ge_b0 all0)
  have F9 := OwnF.ext O9.2 FZ
  have K9 := (K2).trans Kq9 (allS (Or.inl (List.mem_of_getElem? (i := 0) rfl)) all0)
  show Go p e below _ (T9.setTop (mkF m 23 #[.val (.ref b0), .val (.ref b1)] []))
  refine s_iconst B X9 (pc' := 24) (v := (1 : Int32)) d6_23 rfl rfl ?_
  exact r_nar B X9 (t := .boolean) (by simp) rfl d6_24 (by rw [e9]; exact ⟨o9_0, kq_o9_0, rfl, N9, K9, le_o9_0, u9_0, ovu9_0, u9_1, u9_2, u9_3⟩) (by decide) (by decide)

theorem pn_mm11_14 : plainFor mn7 = true := plainFor_of_name (show plainName "com/example/lichen/lichen/solver/TermSubsumption$Ways" = true by first | (simp [plainName, overriddenIn]; done) | decide +kernel)
set_option maxRecDepth 65536 in
set_option maxHeartbeats 40000000 in
theorem mm11_14 (l : Launch) (Z : State) (a0 : Array Value) (hw : ∀ d ∈ tables_1, d.before a0 Z = true) (b0 : Addr) (b1 : Addr) (b2 : Addr) (b3 : Addr) (b4 : Addr) (k_b3 : ClassId) (w_D : Addr) (h0 : Heap) (FZ : OwnF Z Z.heap w_D) (O0 : Old Z Z.heap.size h0) (ge_b0 : Z.heap.size ≤ b0) (E_b0 : Exa Z h0 b0 "com/example/lichen/lichen/solver/TermSubsumption$Ways") (D_b0_each : Fld Z h0 b0 "com/example/lichen/lichen/solver/TermSubsumption$Ways" "each" "Ljava/util/List;" .null) (D_b0_producers : Fld Z h0 b0 "com/example/lichen/lichen/solver/TermSubsumption$Ways" "producers" "Ljava/util/List;" .null) (ge_b1 : Z.heap.size ≤ b1) (E_b1 : Exa Z h0 b1 "java/util/ArrayList") (D_b1_elementData : Fld Z h0 b1 "java/util/ArrayList" "elementData" "[Ljava/lang/Object;" (.ref w_D)) (D_b1_modCount : Fld Z h0 b1 "java/util/AbstractList" "modCount" "I" (.int (0 : Int32))) (D_b1_size : Fld Z h0 b1 "java/util/ArrayList" "size" "I" (.int (0 : Int32))) (ge_b2 : Z.heap.size ≤ b2) (E_b2 : Exa Z h0 b2 "java/util/ArrayList") (D_b2_elementData : Fld Z h0 b2 "java/util/ArrayList" "elementData" "[Ljava/lang/Object;" (.ref b3)) (D_b2_modCount : Fld Z h0 b2 "java/util/AbstractList" "modCount" "I" (.int (1 : Int32))) (D_b2_size : Fld Z h0 b2 "java/util/ArrayList" "size" "I" (.int (1 : Int32))) (ge_b3 : Z.heap.size ≤ b3) (A_b3 : Ary Z h0 b3 k_b3 (.object "java/lang/Object") 10 (lst [(.ref b4), .null, .null, .null, .null, .null, .null, .null, .null, .null] .null)) (V_b3 : Ovr Z k_b3 "java/lang/Object") (E_b4 : Exa Z h0 b4 "java/lang/Integer") (ne_b0_b1 : b0 ≠ b1) (ne_b0_b2 : b0 ≠ b2) (ne_b0_b3 : b0 ≠ b3) (ne_b1_b2 : b1 ≠ b2) (ne_b1_b3 : b1 ≠ b3) (ne_b2_b3 : b2 ≠ b3)  :
    OMeets l Z mn7 prog_103_method_1_code 3 none [] ({ frames := 2, cells := 0, slots := 0, locals := 24 } : Room) #[(.ref b0), (.ref b1), (.ref b2)] h0 (fun v h L => v = none ∧ Fr Z.heap.size L ∧ Keep h0 h [b0] ∧ Fld Z h b0 "com/example/lichen/lichen/solver/TermSubsumption$Ways" "each" "Ljava/util/List;" (.ref b1) ∧ Fld Z h b0 "com/example/lichen/lichen/solver/TermSubsumption$Ways" "producers" "Ljava/util/List;" (.ref b2)) := by
  refine OMeets.of pn_mm11_14 #[.val (.ref b0), .val (.ref b1), .val (.ref b2)] (fun m => by first | rfl | (simp [entryFrame, mkF, argsToLocals, Value.category, maxLocals]; done)) ?_
  intro p e s m below meth c s₁ B X0 e0
  have F0 := OwnF.ext O0.2 FZ
  obtain ⟨S_D, ⟨kD, A_D⟩, S_high, T_cache⟩ := id F0
  refine s_aloadN B X0 (pc' := 1) d11_0 rfl rfl rfl ?_
  refine p_init B X0 (y := mn6) (pc' := 4) (argsL := []) (under := []) (W := 0) e0 rfl (tw70 hw) (tw71 hw) (tw74 hw) (tw73 hw) (by decide) (mm12_6 l Z a0 hw b0 w_D h0 FZ O0 ge_b0 E_b0 D_b0_each D_b0_producers ) (lenOf pd_0 rfl) rfl rfl (by decide) (by decide) rfl rfl (by decide) (by decide) rfl d11_1 rfl (fun T1 X1 e1 => ?_)
  show Go p e below _ (T1.setTop (mkF m 4 #[.val (.ref b0), .val (.ref b1), .val (.ref b2)] []))
  refine s_aloadN B X1 (pc' := 5) d11_4 rfl rfl rfl ?_
  refine s_aloadN B X1 (pc' := 6) d11_5 rfl rfl rfl ?_
  refine s_putF B X1 (pc' := 9) (ty := (.object "java/util/List")) e1 (host := "") (Or.inl (tw76 hw)) Via.refl D_b0_each E_b0 (Or.inr ⟨(tw77 hw), rfl, rfl⟩) (tw65 hw) (by decide) rfl rfl d11_6 rfl (fun T2 h2 X2 e2 W2 => ?_)
  have G2 := D_b0_each.same W2
  have N2 := Fr.snoc X2 (Fr.nil _) ge_b0
  have O2 := (O0).wr W2 ge_b0
  have F2 := OwnF.ext O2.2 FZ
  have K2 := ((Keep.refl h0 [b0])).wr W2 (Or.inl (List.mem_of_getElem? (i := 0) rfl))
  show Go p e below _ (T2.setTop (mkF m 9 #[.val (.ref b0), .val (.ref b1), .val (.ref b2)] []))
  refine s_aloadN B X2 (pc' := 10) d11_9 rfl rfl rfl ?_
  refine s_aloadN B X2 (pc' := 11) d11_10 rfl rfl rfl ?_
  have f4 := (D_b0_producers.other W2 (Or.inr (slot_ne (Or.inr (tw79 hw)) (Or.inr (tw77 hw)) (by decide) (t := (.object "java/util/List")) (t' := (.object "java/util/List")) (by decide) (by decide))))
  have f5 := (E_b0.wr W2)
  refine s_putF B X2 (pc' := 14) (ty := (.object "java/util/List")) e2 (host := "") (Or.inl (tw78 hw)) Via.refl f4 f5 (Or.inr ⟨(tw79 hw), rfl, rfl⟩) (tw65 hw) (by decide) rfl rfl d11_11 rfl (fun T3 h3 X3 e3 W3 => ?_)
  have G3 := f4.same W3
  have N3 := Fr.snoc X3 N2 ge_b0
  have O3 := (O2).wr W3 ge_b0
  have F3 := OwnF.ext O3.2 FZ
  have K3 := (K2).wr W3 (Or.inl (List.mem_of_getElem? (i := 0) rfl))
  show Go p e below _ (T3.setTop (mkF m 14 #[.val (.ref b0), .val (.ref b1), .val (.ref b2)] []))
  have f6 := (G2.other W3 (Or.inr (slot_ne (Or.inr (tw77 hw)) (Or.inr (tw79 hw)) (by decide) (t := (.object "java/util/List")) (t' := (.object "java/util/List")) (by decide) (by decide))))
  exact r_void B X3 rfl d11_14 (by rw [e3]; exact ⟨rfl, N3, K3, f6, G3⟩) (by decide) (by decide)
theorem d14_11 : decode jdk_38_method_9_code 11 = .ok (.iconst 0, 1) := by decide +kernel
theorem pn_mm14_15 : plainFor mn8 = true := by first | exact plainFor_of_name (show plainName "java/util/ArrayList" = true by first | (simp [plainName, overriddenIn]; done) | decide +kernel) | decide +kernel
set_option maxRecDepth 65536 in
set_option maxHeartbeats 40000000 in
theorem mm14_15 (l : Launch) (Z : State) (a0 : Array Value) (hw : ∀ d ∈ tables_1, d.before a0 Z = true) (b0 : Addr) (b1 : Addr) (b2 : Addr) (k_b1 : ClassId) (w_D : Addr) (h0 : Heap) (FZ : OwnF Z Z.heap w_D) (O0 : Old Z Z.heap.size h0) (ge_b0 : Z.heap.size ≤ b0) (E_b0 : Exa Z h0 b0 "java/util/ArrayList") (D_b0_elementData : Fld Z h0 b0 "java/util/ArrayList" "elementData" "[Ljava/lang/Object;" (.ref b1)) (D_b0_modCount : Fld Z h0 b0 "java/util/AbstractList" "modCount" "I" (.int (1 : Int32))) (D_b0_size : Fld Z h0 b0 "java/util/ArrayList" "size" "I" (.int (1 : Int32))) (ge_b1 : Z.heap.size ≤ b1) (A_b1 : Ary Z h0 b1 k_b1 (.object "java/lang/Object") 10 (lst [(.ref b2), .null, .null, .null, .null, .null, .null, .null, .null, .null] .null)) (V_b1 : Ovr Z k_b1 "java/lang/Object") (E_b2 : Exa Z h0 b2 "java/lang/Integer") (ne_b0_b1 : b0 ≠ b1)  :
    OMeets l Z mn8 jdk_38_method_9_code 1 (some .boolean) [] ({ frames := 0, cells := 0, slots := 0, locals := 0 } : Room) #[(.ref b0)] h0 (PureQ (some (.int (0 : Int32))) h0) := by
  refine OMeets.of pn_mm14_15 #[.val (.ref b0)] (fun m => by first | rfl | (simp [entryFrame, mkF, argsToLocals, Value.category, maxLocals]; done)) ?_
  intro p e s m below meth c s₁ B X0 e0
  have F0 := OwnF.ext O0.2 FZ
  obtain ⟨S_D, ⟨kD, A_D⟩, S_high, T_cache⟩ := id F0
  refine s_aloadN B X0 (pc' := 1) d14_0 rfl rfl rfl ?_
  refine s_getF B X0 (pc' := 4) e0 (host := "") (Or.inl (tw40 hw)) Via.refl D_b0_size d14_1 rfl (fun T1 X1 e1 => ?_)
  refine s_ifY B X1 (pc' := 11) d14_4 (by decide) (by decide) (by decide) ?_
  refine s_iconst B X1 (pc' := 12) (v := (0 : Int32)) d14_11 rfl rfl ?_
  exact r_nar B X1 (t := .boolean) (by simp) rfl d14_12 ⟨rfl, rfl, e1⟩ (by decide) (by decide)
theorem d13_28 : decode prog_103_method_3_code 28 = .ok (.iconst 0, 1) := by decide +kernel
theorem pn_mm13_15 : plainFor mn10 = true := plainFor_of_name (show plainName "com/example/lichen/lichen/solver/TermSubsumption$Ways" = true by first | (simp [plainName, overriddenIn]; done) | decide +kernel)
set_option maxRecDepth 65536 in
set_option maxHeartbeats 40000000 in
theorem mm13_15 (l : Launch) (Z : State) (a0 : Array Value) (hw : ∀ d ∈ tables_1, d.before a0 Z = true) (b0 : Addr) (b1 : Addr) (b2 : Addr) (b3 : Addr) (b4 : Addr) (k_b3 : ClassId) (w_D : Addr) (h0 : Heap) (FZ : OwnF Z Z.heap w_D) (O0 : Old Z Z.heap.size h0) (ge_b0 : Z.heap.size ≤ b0) (E_b0 : Exa Z h0 b0 "com/example/lichen/lichen/solver/TermSubsumption$Ways") (D_b0_each : Fld Z h0 b0 "com/example/lichen/lichen/solver/TermSubsumption$Ways" "each" "Ljava/util/List;" (.ref b1)) (D_b0_producers : Fld Z h0 b0 "com/example/lichen/lichen/solver/TermSubsumption$Ways" "producers" "Ljava/util/List;" (.ref b2)) (ge_b1 : Z.heap.size ≤ b1) (E_b1 : Exa Z h0 b1 "java/util/ArrayList") (D_b1_elementData : Fld Z h0 b1 "java/util/ArrayList" "elementData" "[Ljava/lang/Object;" (.ref w_D)) (D_b1_modCount : Fld Z h0 b1 "java/util/AbstractList" "modCount" "I" (.int (0 : Int32))) (D_b1_size : Fld Z h0 b1 "java/util/ArrayList" "size" "I" (.int (0 : Int32))) (ge_b2 : Z.heap.size ≤ b2) (E_b2 : Exa Z h0 b2 "java/util/ArrayList") (D_b2_elementData : Fld Z h0 b2 "java/util/ArrayList" "elementData" "[Ljava/lang/Object;" (.ref b3)) (D_b2_modCount : Fld Z h0 b2 "java/util/AbstractList" "modCount" "I" (.int (1 : Int32))) (D_b2_size : Fld Z h0 b2 "java/util/ArrayList" "size" "I" (.int (1 : Int32))) (ge_b3 : Z.heap.size ≤ b3) (A_b3 : Ary Z h0 b3 k_b3 (.object "java/lang/Object") 10 (lst [(.ref b4), .null, .null, .null, .null, .null, .null, .null, .null, .null] .null)) (V_b3 : Ovr Z k_b3 "java/lang/Object") (E_b4 : Exa Z h0 b4 "java/lang/Integer") (ne_b0_b1 : b0 ≠ b1) (ne_b0_b2 : b0 ≠ b2) (ne_b0_b3 : b0 ≠ b3) (ne_b1_b2 : b1 ≠ b2) (ne_b1_b3 : b1 ≠ b3) (ne_b2_b3 : b2 ≠ b3)  :
    OMeets l Z mn10 prog_103_method_3_code 1 (some .boolean) [] ({ frames := 1, cells := 0, slots := 0, locals := 12 } : Room) #[(.ref b0)] h0 (PureQ (some (.int (0 : Int32))) h0) := by
  refine OMeets.of pn_mm13_15 #[.val (.ref b0)] (fun m => by first | rfl | (simp [entryFrame, mkF, argsToLocals, Value.category, maxLocals]; done)) ?_
  intro p e s m below meth c s₁ B X0 e0
  have F0 := OwnF.ext O0.2 FZ
  obtain ⟨S_D, ⟨kD, A_D⟩, S_high, T_cache⟩ := id F0
  refine s_aloadN B X0 (pc' := 1) d13_0 rfl rfl rfl ?_
  refine s_getF B X0 (pc' := 4) e0 (host := "") (Or.inl (tw76 hw)) Via.refl D_b0_each d13_1 rfl (fun T1 X1 e1 => ?_)
  refine p_iface B X1 (y := mn9) (z := mn8) (pc' := 9) (argsL := []) (under := []) (W := 0) e1 (tw85 hw) (tw86 hw) (tw87 hw) (tw88 hw) (tw89 hw) (tw90 hw) (tw91 hw) (tw92 hw) (tw93 hw) (tw2 hw) (by decide) (mm14_8 l Z a0 hw b1 w_D h0 FZ O0 ge_b1 E_b1 D_b1_elementData D_b1_modCount D_b1_size ) E_b1 (lenOf pd_3 rfl) rfl rfl (by decide) (by decide) rfl rfl (by decide) (by decide) rfl d13_4 rfl (fun T2 X2 e2 => ?_)
  show Go p e below _ (T2.setTop (mkF m 9 #[.val (.ref b0)] [(.int (1 : Int32))]))
  refine s_ifN B X2 (pc' := 12) d13_9 (by decide) rfl ?_
  refine s_aloadN B X2 (pc' := 13) d13_12 rfl rfl rfl ?_
  refine s_getF B X2 (pc' := 16) e2 (host := "") (Or.inl (tw78 hw)) Via.refl D_b0_producers d13_13 rfl (fun T3 X3 e3 => ?_)
  refine p_iface B X3 (y := mn9) (z := mn8) (pc' := 21) (argsL := []) (under := []) (W := 0) e3 (tw85 hw) (tw86 hw) (tw87 hw) (tw88 hw) (tw89 hw) (tw90 hw) (tw91 hw) (tw92 hw) (tw93 hw) (tw2 hw) (by decide) (mm14_15 l Z a0 hw b2 b3 b4 k_b3 w_D h0 FZ O0 ge_b2 E_b2 D_b2_elementData D_b2_modCount D_b2_size ge_b3 A_b3 V_b3 E_b4 ne_b2_b3 ) E_b2 (lenOf pd_3 rfl) rfl rfl (by decide) (by decide) rfl rfl (by decide) (by decide) rfl d13_16 rfl (fun T4 X4 e4 => ?_)
  show Go p e below _ (T4.setTop (mkF m 21 #[.val (.ref b0)] [(.int (0 : Int32))]))
  refine s_ifY B X4 (pc' := 28) d13_21 (by decide) (by decide) (by decide) ?_
  refine s_iconst B X4 (pc' := 29) (v := (0 : Int32)) d13_28 rfl rfl ?_
  exact r_nar B X4 (t := .boolean) (by simp) rfl d13_29 ⟨rfl, rfl, e4⟩ (by decide) (by decide)

theorem pn_mm7_17 : plainFor mn14 = true := by first | exact plainFor_of_name (show plainName "java/util/ArrayList" = true by first | (simp [plainName, overriddenIn]; done) | decide +kernel) | decide +kernel
set_option maxRecDepth 65536 in
set_option maxHeartbeats 40000000 in
theorem mm7_17 (l : Launch) (Z : State) (a0 : Array Value) (hw : ∀ d ∈ tables_1, d.before a0 Z = true) (b0 : Addr) (b1 : Addr) (b2 : Addr) (b3 : Addr) (k_b2 : ClassId) (w_D : Addr) (h0 : Heap) (FZ : OwnF Z Z.heap w_D) (O0 : Old Z Z.heap.size h0) (ge_b0 : Z.heap.size ≤ b0) (E_b0 : Exa Z h0 b0 "java/util/ArrayList") (D_b0_elementData : Fld Z h0 b0 "java/util/ArrayList" "elementData" "[Ljava/lang/Object;" (.ref b2)) (D_b0_modCount : Fld Z h0 b0 "java/util/AbstractList" "modCount" "I" (.int (2 : Int32))) (D_b0_size : Fld Z h0 b0 "java/util/ArrayList" "size" "I" (.int (1 : Int32))) (E_b1 : Exa Z h0 b1 "java/lang/Integer") (ge_b2 : Z.heap.size ≤ b2) (A_b2 : Ary Z h0 b2 k_b2 (.object "java/lang/Object") 10 (lst [(.ref b3), .null, .null, .null, .null, .null, .null, .null, .null, .null] .null)) (V_b2 : Ovr Z k_b2 "java/lang/Object") (E_b3 : Exa Z h0 b3 "java/lang/Integer") (ne_b0_b2 : b0 ≠ b2)  :
    OMeets l Z mn14 jdk_38_method_24_code 4 none [] ({ frames := 0, cells := 0, slots := 0, locals := 0 } : Room) #[(.ref b0), (.ref b1), (.ref b2), (.int (1 : Int32))] h0 (fun v h L => v = none ∧ Fr Z.heap.size L ∧ Keep h0 h [b0, b2] ∧ Fld Z h b0 "java/util/ArrayList" "elementData" "[Ljava/lang/Object;" (.ref b2) ∧ Fld Z h b0 "java/util/AbstractList" "modCount" "I" (.int (2 : Int32)) ∧ Fld Z h b0 "java/util/ArrayList" "size" "I" (.int (2 : Int32)) ∧ Ary Z h b2 k_b2 (.object "java/lang/Object") 10 (lst [(.ref b3), (.ref b1), .null, .null, .null, .null, .null, .null, .null, .null] .null)) := by
  refine OMeets.of pn_mm7_17 #[.val (.ref b0), .val (.ref b1), .val (.ref b2), .val (.int (1 : Int32))] (fun m => by first | rfl | (simp [entryFrame, mkF, argsToLocals, Value.category, maxLocals]; done)) ?_
  intro p e s m below meth c s₁ B X0 e0
  have F0 := OwnF.ext O0.2 FZ
  obtain ⟨S_D, ⟨kD, A_D⟩, S_high, T_cache⟩ := id F0
  refine s_iloadN B X0 (pc' := 1) d7_0 rfl rfl ?_
  refine s_aloadN B X0 (pc' := 2) d7_1 rfl rfl rfl ?_
  refine s_len B X0 (pc' := 3) (v := (10 : Int32)) e0 A_b2 rfl d7_2 rfl ?_
  refine s_icmpY B X0 (pc' := 11) d7_3 (by decide) (by decide) (by decide) ?_
  refine s_aloadN B X0 (pc' := 12) d7_11 rfl rfl rfl ?_
  refine s_iloadN B X0 (pc' := 13) d7_12 rfl rfl ?_
  refine s_aloadN B X0 (pc' := 14) d7_13 rfl rfl rfl ?_
  refine s_stR B X0 (pc' := 15) (jn := 1) e0 A_b2 rfl (Ary.sto A_b2 V_b2 (Ins.of_exa E_b1 (tw63 hw))) (by decide) (by decide) (by decide) d7_14 rfl (fun T1 h1 X1 e1 W1 A1 => ?_)
  replace A1 := A1.full (show 1 < 10 by decide) (L' := [(.ref b3), (.ref b1), .null, .null, .null, .null, .null, .null, .null, .null]) rfl
  have N1 := Fr.snoc X1 (Fr.nil _) ge_b2
  have O1 := (O0).wr W1 ge_b2
  have F1 := OwnF.ext O1.2 FZ
  have K1 := ((Keep.refl h0 [b0, b2])).wr W1 (Or.inl (List.mem_of_getElem? (i := 1) rfl))
  show Go p e below _ (T1.setTop (mkF m 15 #[.val (.ref b0), .val (.ref b1), .val (.ref b2), .val (.int (1 : Int32))] []))
  refine s_aloadN B X1 (pc' := 16) d7_15 rfl rfl rfl ?_
  refine s_iloadN B X1 (pc' := 17) d7_16 rfl rfl ?_
  refine s_iconst B X1 (pc' := 18) (v := (1 : Int32)) d7_17 rfl rfl ?_
  refine s_iadd B X1 (pc' := 19) (v := (2 : Int32)) d7_18 rfl rfl ?_
  have f3 := (D_b0_size.other W1 (Or.inl ne_b0_b2))
  have f4 := (E_b0.wr W1)
  refine s_putF B X1 (pc' := 22) (ty := .int) e1 (host := "") (Or.inl (tw40 hw)) Via.refl f3 f4 (Or.inl (tw41 hw)) (tw1 hw) (by decide) rfl rfl d7_19 rfl (fun T2 h2 X2 e2 W2 => ?_)
  have G2 := f3.same W2
  have N2 := Fr.snoc X2 N1 ge_b0
  have O2 := (O1).wr W2 ge_b0
  have F2 := OwnF.ext O2.2 FZ
  have K2 := (K1).wr W2 (Or.inl (List.mem_of_getElem? (i := 0) rfl))
  show Go p e below _ (T2.setTop (mkF m 22 #[.val (.ref b0), .val (.ref b1), .val (.ref b2), .val (.int (1 : Int32))] []))
  have f5 := ((D_b0_elementData.other W1 (Or.inl ne_b0_b2)).other W2 (Or.inr (slot_ne (Or.inl (tw25 hw)) (Or.inl (tw41 hw)) (by decide) (t := (.array (.object "java/lang/Object"))) (t' := .int) (by decide) (by decide))))
  have f6 := ((D_b0_modCount.other W1 (Or.inl ne_b0_b2)).other W2 (Or.inr (slot_ne (Or.inl (tw22 hw)) (Or.inl (tw41 hw)) (by decide) (t := .int) (t' := .int) (by decide) (by decide))))
  have f7 := (Ary.other W2 A1 (Ne.symm ne_b0_b2))
  exact r_void B X2 rfl d7_22 (by rw [e2]; exact ⟨rfl, N2, K2, f5, f6, G2, f7⟩) (by decide) (by decide)

theorem pn_mm6_17 : plainFor mn15 = true := by first | exact plainFor_of_name (show plainName "java/util/ArrayList" = true by first | (simp [plainName, overriddenIn]; done) | decide +kernel) | decide +kernel
set_option maxRecDepth 65536 in
set_option maxHeartbeats 40000000 in
theorem mm6_17 (l : Launch) (Z : State) (a0 : Array Value) (hw : ∀ d ∈ tables_1, d.before a0 Z = true) (b0 : Addr) (b1 : Addr) (b2 : Addr) (b3 : Addr) (k_b2 : ClassId) (w_D : Addr) (h0 : Heap) (FZ : OwnF Z Z.heap w_D) (O0 : Old Z Z.heap.size h0) (ge_b0 : Z.heap.size ≤ b0) (E_b0 : Exa Z h0 b0 "java/util/ArrayList") (D_b0_elementData : Fld Z h0 b0 "java/util/ArrayList" "elementData" "[Ljava/lang/Object;" (.ref b2)) (D_b0_modCount : Fld Z h0 b0 "java/util/AbstractList" "modCount" "I" (.int (1 : Int32))) (D_b0_size : Fld Z h0 b0 "java/util/ArrayList" "size" "I" (.int (1 : Int32))) (E_b1 : Exa Z h0 b1 "java/lang/Integer") (ge_b2 : Z.heap.size ≤ b2) (A_b2 : Ary Z h0 b2 k_b2 (.object "java/lang/Object") 10 (lst [(.ref b3), .null, .null, .null, .null, .null, .null, .null, .null, .null] .null)) (V_b2 : Ovr Z k_b2 "java/lang/Object") (E_b3 : Exa Z h0 b3 "java/lang/Integer") (ne_b0_b2 : b0 ≠ b2)  :
    OMeets l Z mn15 jdk_38_method_25_code 2 (some .boolean) [] ({ frames := 1, cells := 0, slots := 0, locals := 15 } : Room) #[(.ref b0), (.ref b1)] h0 (fun v h L => v = some (.int (1 : Int32)) ∧ Fr Z.heap.size L ∧ Keep h0 h [b0, b2] ∧ Fld Z h b0 "java/util/ArrayList" "elementData" "[Ljava/lang/Object;" (.ref b2) ∧ Fld Z h b0 "java/util/AbstractList" "modCount" "I" (.int (2 : Int32)) ∧ Fld Z h b0 "java/util/ArrayList" "size" "I" (.int (2 : Int32)) ∧ Ary Z h b2 k_b2 (.object "java/lang/Object") 10 (lst [(.ref b3), (.ref b1), .null, .null, .null, .null, .null, .null, .null, .null] .null)) := by
  refine OMeets.of pn_mm6_17 #[.val (.ref b0), .val (.ref b1)] (fun m => by first | rfl | (simp [entryFrame, mkF, argsToLocals, Value.category, maxLocals]; done)) ?_
  intro p e s m below meth c s₁ B X0 e0
  have F0 := OwnF.ext O0.2 FZ
  obtain ⟨S_D, ⟨kD, A_D⟩, S_high, T_cache⟩ := id F0
  refine s_aloadN B X0 (pc' := 1) d6_0 rfl rfl rfl ?_
  refine s_dup B X0 (pc' := 2) d6_1 rfl rfl ?_
  refine s_getF B X0 (pc' := 5) e0 (host := "") (Or.inl (tw38 hw)) (Via.of (tw39 hw)) D_b0_modCount d6_2 rfl (fun T1 X1 e1 => ?_)
  refine s_iconst B X1 (pc' := 6) (v := (1 : Int32)) d6_5 rfl rfl ?_
  refine s_iadd B X1 (pc' := 7) (v := (2 : Int32)) d6_6 rfl rfl ?_
  refine s_putF B X1 (pc' := 10) (ty := .int) e1 (host := "") (Or.inl (tw38 hw)) (Via.of (tw39 hw)) D_b0_modCount E_b0 (Or.inl (tw22 hw)) (tw1 hw) (by decide) rfl rfl d6_7 rfl (fun T2 h2 X2 e2 W2 => ?_)
  have G2 := D_b0_modCount.same W2
  have N2 := Fr.snoc X2 (Fr.nil _) ge_b0
  have O2 := (O0).wr W2 ge_b0
  have F2 := OwnF.ext O2.2 FZ
  have K2 := ((Keep.refl h0 [b0, b2])).wr W2 (Or.inl (List.mem_of_getElem? (i := 0) rfl))
  show Go p e below _ (T2.setTop (mkF m 10 #[.val (.ref b0), .val (.ref b1)] []))
  refine s_aloadN B X2 (pc' := 11) d6_10 rfl rfl rfl ?_
  refine s_aloadN B X2 (pc' := 12) d6_11 rfl rfl rfl ?_
  refine s_aloadN B X2 (pc' := 13) d6_12 rfl rfl rfl ?_
  have f3 := (D_b0_elementData.other W2 (Or.inr (slot_ne (Or.inl (tw25 hw)) (Or.inl (tw22 hw)) (by decide) (t := (.array (.object "java/lang/Object"))) (t' := .int) (by decide) (by decide))))
  refine s_getF B X2 (pc' := 16) e2 (host := "") (Or.inl (tw24 hw)) Via.refl f3 d6_13 rfl (fun T4 X4 e4 => ?_)
  refine s_aloadN B X4 (pc' := 17) d6_16 rfl rfl rfl ?_
  have f5 := (D_b0_size.other W2 (Or.inr (slot_ne (Or.inl (tw41 hw)) (Or.inl (tw22 hw)) (by decide) (t := .int) (t' := .int) (by decide) (by decide))))
  refine s_getF B X4 (pc' := 20) e4 (host := "") (Or.inl (tw40 hw)) Via.refl f5 d6_17 rfl (fun T6 X6 e6 => ?_)
  have f7 := (E_b0.wr W2)
  have f8 := (E_b1.wr W2)
  have f9 := (Ary.other W2 A_b2 (Ne.symm ne_b0_b2))
  have f10 := (E_b3.wr W2)
  refine c_private B X6 (y := mn14) (pc' := 23) (argsL := [(.ref b1), (.ref b2), (.int (1 : Int32))]) (under := []) (W := 0) e6 (tw42 hw) (tw1 hw) (tw44 hw) (tw43 hw) (tw46 hw) (tw2 hw) (by decide) (mm7_17 l Z a0 hw b0 b1 b2 b3 k_b2 w_D h2 FZ O2 ge_b0 f7 f3 G2 f5 f8 ge_b2 f9 V_b2 f10 ne_b0_b2 ) f7 (lenOf pd_8 rfl) rfl rfl (by decide) (by decide) (by decide) (by decide) rfl d6_20 rfl (fun v11 T11 L11 X11 hQ11 => ?_)
  obtain ⟨rfl, Nq11, Kq11, u11_0, u11_1, u11_2, u11_3⟩ := hQ11
  obtain ⟨h11, e11⟩ : ∃ z, T11.heap = z := ⟨_, rfl⟩
  rw [e11] at Kq11 u11_0 u11_1 u11_2 u11_3
  have N11 := Fr.app N2 Nq11
  have O11 := (O2).keep Kq11 (allS ge_b0 (allS ge_b2 all0))
  have F11 := OwnF.ext O11.2 FZ
  have K11 := (K2).trans Kq11 (allS (Or.inl (List.mem_of_getElem? (i := 0) rfl)) (allS (Or.inl (List.mem_of_getElem? (i := 1) rfl)) all0))
  show Go p e below _ (T11.setTop (mkF m 23 #[.val (.ref b0), .val (.ref b1)] []))
  refine s_iconst B X11 (pc' := 24) (v := (1 : Int32)) d6_23 rfl rfl ?_
  exact r_nar B X11 (t := .boolean) (by simp) rfl d6_24 (by rw [e11]; exact ⟨rfl, N11, K11, u11_0, u11_1, u11_2, u11_3⟩) (by decide) (by decide)

theorem pn_mm11_19 : plainFor mn7 = true := plainFor_of_name (show plainName "com/example/lichen/lichen/solver/TermSubsumption$Ways" = true by first | (simp [plainName, overriddenIn]; done) | decide +kernel)
set_option maxRecDepth 65536 in
set_option maxHeartbeats 40000000 in
theorem mm11_19 (l : Launch) (Z : State) (a0 : Array Value) (hw : ∀ d ∈ tables_1, d.before a0 Z = true) (b0 : Addr) (b1 : Addr) (b2 : Addr) (b3 : Addr) (b4 : Addr) (b5 : Addr) (k_b3 : ClassId) (w_D : Addr) (h0 : Heap) (FZ : OwnF Z Z.heap w_D) (O0 : Old Z Z.heap.size h0) (ge_b0 : Z.heap.size ≤ b0) (E_b0 : Exa Z h0 b0 "com/example/lichen/lichen/solver/TermSubsumption$Ways") (D_b0_each : Fld Z h0 b0 "com/example/lichen/lichen/solver/TermSubsumption$Ways" "each" "Ljava/util/List;" .null) (D_b0_producers : Fld Z h0 b0 "com/example/lichen/lichen/solver/TermSubsumption$Ways" "producers" "Ljava/util/List;" .null) (ge_b1 : Z.heap.size ≤ b1) (E_b1 : Exa Z h0 b1 "java/util/ArrayList") (D_b1_elementData : Fld Z h0 b1 "java/util/ArrayList" "elementData" "[Ljava/lang/Object;" (.ref w_D)) (D_b1_modCount : Fld Z h0 b1 "java/util/AbstractList" "modCount" "I" (.int (0 : Int32))) (D_b1_size : Fld Z h0 b1 "java/util/ArrayList" "size" "I" (.int (0 : Int32))) (ge_b2 : Z.heap.size ≤ b2) (E_b2 : Exa Z h0 b2 "java/util/ArrayList") (D_b2_elementData : Fld Z h0 b2 "java/util/ArrayList" "elementData" "[Ljava/lang/Object;" (.ref b3)) (D_b2_modCount : Fld Z h0 b2 "java/util/AbstractList" "modCount" "I" (.int (2 : Int32))) (D_b2_size : Fld Z h0 b2 "java/util/ArrayList" "size" "I" (.int (2 : Int32))) (ge_b3 : Z.heap.size ≤ b3) (A_b3 : Ary Z h0 b3 k_b3 (.object "java/lang/Object") 10 (lst [(.ref b4), (.ref b5), .null, .null, .null, .null, .null, .null, .null, .null] .null)) (V_b3 : Ovr Z k_b3 "java/lang/Object") (E_b4 : Exa Z h0 b4 "java/lang/Integer") (E_b5 : Exa Z h0 b5 "java/lang/Integer") (ne_b0_b1 : b0 ≠ b1) (ne_b0_b2 : b0 ≠ b2) (ne_b0_b3 : b0 ≠ b3) (ne_b1_b2 : b1 ≠ b2) (ne_b1_b3 : b1 ≠ b3) (ne_b2_b3 : b2 ≠ b3)  :
    OMeets l Z mn7 prog_103_method_1_code 3 none [] ({ frames := 2, cells := 0, slots := 0, locals := 24 } : Room) #[(.ref b0), (.ref b1), (.ref b2)] h0 (fun v h L => v = none ∧ Fr Z.heap.size L ∧ Keep h0 h [b0] ∧ Fld Z h b0 "com/example/lichen/lichen/solver/TermSubsumption$Ways" "each" "Ljava/util/List;" (.ref b1) ∧ Fld Z h b0 "com/example/lichen/lichen/solver/TermSubsumption$Ways" "producers" "Ljava/util/List;" (.ref b2)) := by
  refine OMeets.of pn_mm11_19 #[.val (.ref b0), .val (.ref b1), .val (.ref b2)] (fun m => by first | rfl | (simp [entryFrame, mkF, argsToLocals, Value.category, maxLocals]; done)) ?_
  intro p e s m below meth c s₁ B X0 e0
  have F0 := OwnF.ext O0.2 FZ
  obtain ⟨S_D, ⟨kD, A_D⟩, S_high, T_cache⟩ := id F0
  refine s_aloadN B X0 (pc' := 1) d11_0 rfl rfl rfl ?_
  refine p_init B X0 (y := mn6) (pc' := 4) (argsL := []) (under := []) (W := 0) e0 rfl (tw70 hw) (tw71 hw) (tw74 hw) (tw73 hw) (by decide) (mm12_6 l Z a0 hw b0 w_D h0 FZ O0 ge_b0 E_b0 D_b0_each D_b0_producers ) (lenOf pd_0 rfl) rfl rfl (by decide) (by decide) rfl rfl (by decide) (by decide) rfl d11_1 rfl (fun T1 X1 e1 => ?_)
  show Go p e below _ (T1.setTop (mkF m 4 #[.val (.ref b0), .val (.ref b1), .val (.ref b2)] []))
  refine s_aloadN B X1 (pc' := 5) d11_4 rfl rfl rfl ?_
  refine s_aloadN B X1 (pc' := 6) d11_5 rfl rfl rfl ?_
  refine s_putF B X1 (pc' := 9) (ty := (.object "java/util/List")) e1 (host := "") (Or.inl (tw76 hw)) Via.refl D_b0_each E_b0 (Or.inr ⟨(tw77 hw), rfl, rfl⟩) (tw65 hw) (by decide) rfl rfl d11_6 rfl (fun T2 h2 X2 e2 W2 => ?_)
  have G2 := D_b0_each.same W2
  have N2 := Fr.snoc X2 (Fr.nil _) ge_b0
  have O2 := (O0).wr W2 ge_b0
  have F2 := OwnF.ext O2.2 FZ
  have K2 := ((Keep.refl h0 [b0])).wr W2 (Or.inl (List.mem_of_getElem? (i := 0) rfl))
  show Go p e below _ (T2.setTop (mkF m 9 #[.val (.ref b0), .val (.ref b1), .val (.ref b2)] []))
  refine s_aloadN B X2 (pc' := 10) d11_9 rfl rfl rfl ?_
  refine s_aloadN B X2 (pc' := 11) d11_10 rfl rfl rfl ?_
  have f4 := (D_b0_producers.other W2 (Or.inr (slot_ne (Or.inr (tw79 hw)) (Or.inr (tw77 hw)) (by decide) (t := (.object "java/util/List")) (t' := (.object "java/util/List")) (by decide) (by decide))))
  have f5 := (E_b0.wr W2)
  refine s_putF B X2 (pc' := 14) (ty := (.object "java/util/List")) e2 (host := "") (Or.inl (tw78 hw)) Via.refl f4 f5 (Or.inr ⟨(tw79 hw), rfl, rfl⟩) (tw65 hw) (by decide) rfl rfl d11_11 rfl (fun T3 h3 X3 e3 W3 => ?_)
  have G3 := f4.same W3
  have N3 := Fr.snoc X3 N2 ge_b0
  have O3 := (O2).wr W3 ge_b0
  have F3 := OwnF.ext O3.2 FZ
  have K3 := (K2).wr W3 (Or.inl (List.mem_of_getElem? (i := 0) rfl))
  show Go p e below _ (T3.setTop (mkF m 14 #[.val (.ref b0), .val (.ref b1), .val (.ref b2)] []))
  have f6 := (G2.other W3 (Or.inr (slot_ne (Or.inr (tw77 hw)) (Or.inr (tw79 hw)) (by decide) (t := (.object "java/util/List")) (t' := (.object "java/util/List")) (by decide) (by decide))))
  exact r_void B X3 rfl d11_14 (by rw [e3]; exact ⟨rfl, N3, K3, f6, G3⟩) (by decide) (by decide)

theorem pn_mm14_20 : plainFor mn8 = true := by first | exact plainFor_of_name (show plainName "java/util/ArrayList" = true by first | (simp [plainName, overriddenIn]; done) | decide +kernel) | decide +kernel
set_option maxRecDepth 65536 in
set_option maxHeartbeats 40000000 in
theorem mm14_20 (l : Launch) (Z : State) (a0 : Array Value) (hw : ∀ d ∈ tables_1, d.before a0 Z = true) (b0 : Addr) (b1 : Addr) (b2 : Addr) (b3 : Addr) (k_b1 : ClassId) (w_D : Addr) (h0 : Heap) (FZ : OwnF Z Z.heap w_D) (O0 : Old Z Z.heap.size h0) (ge_b0 : Z.heap.size ≤ b0) (E_b0 : Exa Z h0 b0 "java/util/ArrayList") (D_b0_elementData : Fld Z h0 b0 "java/util/ArrayList" "elementData" "[Ljava/lang/Object;" (.ref b1)) (D_b0_modCount : Fld Z h0 b0 "java/util/AbstractList" "modCount" "I" (.int (2 : Int32))) (D_b0_size : Fld Z h0 b0 "java/util/ArrayList" "size" "I" (.int (2 : Int32))) (ge_b1 : Z.heap.size ≤ b1) (A_b1 : Ary Z h0 b1 k_b1 (.object "java/lang/Object") 10 (lst [(.ref b2), (.ref b3), .null, .null, .null, .null, .null, .null, .null, .null] .null)) (V_b1 : Ovr Z k_b1 "java/lang/Object") (E_b2 : Exa Z h0 b2 "java/lang/Integer") (E_b3 : Exa Z h0 b3 "java/lang/Integer") (ne_b0_b1 : b0 ≠ b1)  :
    OMeets l Z mn8 jdk_38_method_9_code 1 (some .boolean) [] ({ frames := 0, cells := 0, slots := 0, locals := 0 } : Room) #[(.ref b0)] h0 (PureQ (some (.int (0 : Int32))) h0) := by
  refine OMeets.of pn_mm14_20 #[.val (.ref b0)] (fun m => by first | rfl | (simp [entryFrame, mkF, argsToLocals, Value.category, maxLocals]; done)) ?_
  intro p e s m below meth c s₁ B X0 e0
  have F0 := OwnF.ext O0.2 FZ
  obtain ⟨S_D, ⟨kD, A_D⟩, S_high, T_cache⟩ := id F0
  refine s_aloadN B X0 (pc' := 1) d14_0 rfl rfl rfl ?_
  refine s_getF B X0 (pc' := 4) e0 (host := "") (Or.inl (tw40 hw)) Via.refl D_b0_size d14_1 rfl (fun T1 X1 e1 => ?_)
  refine s_ifY B X1 (pc' := 11) d14_4 (by decide) (by decide) (by decide) ?_
  refine s_iconst B X1 (pc' := 12) (v := (0 : Int32)) d14_11 rfl rfl ?_
  exact r_nar B X1 (t := .boolean) (by simp) rfl d14_12 ⟨rfl, rfl, e1⟩ (by decide) (by decide)

theorem pn_mm13_20 : plainFor mn10 = true := plainFor_of_name (show plainName "com/example/lichen/lichen/solver/TermSubsumption$Ways" = true by first | (simp [plainName, overriddenIn]; done) | decide +kernel)
set_option maxRecDepth 65536 in
set_option maxHeartbeats 40000000 in
theorem mm13_20 (l : Launch) (Z : State) (a0 : Array Value) (hw : ∀ d ∈ tables_1, d.before a0 Z = true) (b0 : Addr) (b1 : Addr) (b2 : Addr) (b3 : Addr) (b4 : Addr) (b5 : Addr) (k_b3 : ClassId) (w_D : Addr) (h0 : Heap) (FZ : OwnF Z Z.heap w_D) (O0 : Old Z Z.heap.size h0) (ge_b0 : Z.heap.size ≤ b0) (E_b0 : Exa Z h0 b0 "com/example/lichen/lichen/solver/TermSubsumption$Ways") (D_b0_each : Fld Z h0 b0 "com/example/lichen/lichen/solver/TermSubsumption$Ways" "each" "Ljava/util/List;" (.ref b1)) (D_b0_producers : Fld Z h0 b0 "com/example/lichen/lichen/solver/TermSubsumption$Ways" "producers" "Ljava/util/List;" (.ref b2)) (ge_b1 : Z.heap.size ≤ b1) (E_b1 : Exa Z h0 b1 "java/util/ArrayList") (D_b1_elementData : Fld Z h0 b1 "java/util/ArrayList" "elementData" "[Ljava/lang/Object;" (.ref w_D)) (D_b1_modCount : Fld Z h0 b1 "java/util/AbstractList" "modCount" "I" (.int (0 : Int32))) (D_b1_size : Fld Z h0 b1 "java/util/ArrayList" "size" "I" (.int (0 : Int32))) (ge_b2 : Z.heap.size ≤ b2) (E_b2 : Exa Z h0 b2 "java/util/ArrayList") (D_b2_elementData : Fld Z h0 b2 "java/util/ArrayList" "elementData" "[Ljava/lang/Object;" (.ref b3)) (D_b2_modCount : Fld Z h0 b2 "java/util/AbstractList" "modCount" "I" (.int (2 : Int32))) (D_b2_size : Fld Z h0 b2 "java/util/ArrayList" "size" "I" (.int (2 : Int32))) (ge_b3 : Z.heap.size ≤ b3) (A_b3 : Ary Z h0 b3 k_b3 (.object "java/lang/Object") 10 (lst [(.ref b4), (.ref b5), .null, .null, .null, .null, .null, .null, .null, .null] .null)) (V_b3 : Ovr Z k_b3 "java/lang/Object") (E_b4 : Exa Z h0 b4 "java/lang/Integer") (E_b5 : Exa Z h0 b5 "java/lang/Integer") (ne_b0_b1 : b0 ≠ b1) (ne_b0_b2 : b0 ≠ b2) (ne_b0_b3 : b0 ≠ b3) (ne_b1_b2 : b1 ≠ b2) (ne_b1_b3 : b1 ≠ b3) (ne_b2_b3 : b2 ≠ b3)  :
    OMeets l Z mn10 prog_103_method_3_code 1 (some .boolean) [] ({ frames := 1, cells := 0, slots := 0, locals := 12 } : Room) #[(.ref b0)] h0 (PureQ (some (.int (0 : Int32))) h0) := by
  refine OMeets.of pn_mm13_20 #[.val (.ref b0)] (fun m => by first | rfl | (simp [entryFrame, mkF, argsToLocals, Value.category, maxLocals]; done)) ?_
  intro p e s m below meth c s₁ B X0 e0
  have F0 := OwnF.ext O0.2 FZ
  obtain ⟨S_D, ⟨kD, A_D⟩, S_high, T_cache⟩ := id F0
  refine s_aloadN B X0 (pc' := 1) d13_0 rfl rfl rfl ?_
  refine s_getF B X0 (pc' := 4) e0 (host := "") (Or.inl (tw76 hw)) Via.refl D_b0_each d13_1 rfl (fun T1 X1 e1 => ?_)
  refine p_iface B X1 (y := mn9) (z := mn8) (pc' := 9) (argsL := []) (under := []) (W := 0) e1 (tw85 hw) (tw86 hw) (tw87 hw) (tw88 hw) (tw89 hw) (tw90 hw) (tw91 hw) (tw92 hw) (tw93 hw) (tw2 hw) (by decide) (mm14_8 l Z a0 hw b1 w_D h0 FZ O0 ge_b1 E_b1 D_b1_elementData D_b1_modCount D_b1_size ) E_b1 (lenOf pd_3 rfl) rfl rfl (by decide) (by decide) rfl rfl (by decide) (by decide) rfl d13_4 rfl (fun T2 X2 e2 => ?_)
  show Go p e below _ (T2.setTop (mkF m 9 #[.val (.ref b0)] [(.int (1 : Int32))]))
  refine s_ifN B X2 (pc' := 12) d13_9 (by decide) rfl ?_
  refine s_aloadN B X2 (pc' := 13) d13_12 rfl rfl rfl ?_
  refine s_getF B X2 (pc' := 16) e2 (host := "") (Or.inl (tw78 hw)) Via.refl D_b0_producers d13_13 rfl (fun T3 X3 e3 => ?_)
  refine p_iface B X3 (y := mn9) (z := mn8) (pc' := 21) (argsL := []) (under := []) (W := 0) e3 (tw85 hw) (tw86 hw) (tw87 hw) (tw88 hw) (tw89 hw) (tw90 hw) (tw91 hw) (tw92 hw) (tw93 hw) (tw2 hw) (by decide) (mm14_20 l Z a0 hw b2 b3 b4 b5 k_b3 w_D h0 FZ O0 ge_b2 E_b2 D_b2_elementData D_b2_modCount D_b2_size ge_b3 A_b3 V_b3 E_b4 E_b5 ne_b2_b3 ) E_b2 (lenOf pd_3 rfl) rfl rfl (by decide) (by decide) rfl rfl (by decide) (by decide) rfl d13_16 rfl (fun T4 X4 e4 => ?_)
  show Go p e below _ (T4.setTop (mkF m 21 #[.val (.ref b0)] [(.int (0 : Int32))]))
  refine s_ifY B X4 (pc' := 28) d13_21 (by decide) (by decide) (by decide) ?_
  refine s_iconst B X4 (pc' := 29) (v := (0 : Int32)) d13_28 rfl rfl ?_
  exact r_nar B X4 (t := .boolean) (by simp) rfl d13_29 ⟨rfl, rfl, e4⟩ (by decide) (by decide)

theorem pn_mm7_22 : plainFor mn14 = true := by first | exact plainFor_of_name (show plainName "java/util/ArrayList" = true by first | (simp [plainName, overriddenIn]; done) | decide +kernel) | decide +kernel
set_option maxRecDepth 65536 in
set_option maxHeartbeats 40000000 in
theorem mm7_22 (l : Launch) (Z : State) (a0 : Array Value) (hw : ∀ d ∈ tables_1, d.before a0 Z = true) (b0 : Addr) (b1 : Addr) (b2 : Addr) (b3 : Addr) (b4 : Addr) (k_b2 : ClassId) (w_D : Addr) (h0 : Heap) (FZ : OwnF Z Z.heap w_D) (O0 : Old Z Z.heap.size h0) (ge_b0 : Z.heap.size ≤ b0) (E_b0 : Exa Z h0 b0 "java/util/ArrayList") (D_b0_elementData : Fld Z h0 b0 "java/util/ArrayList" "elementData" "[Ljava/lang/Object;" (.ref b2)) (D_b0_modCount : Fld Z h0 b0 "java/util/AbstractList" "modCount" "I" (.int (3 : Int32))) (D_b0_size : Fld Z h0 b0 "java/util/ArrayList" "size" "I" (.int (2 : Int32))) (E_b1 : Exa Z h0 b1 "java/lang/Integer") (ge_b2 : Z.heap.size ≤ b2) (A_b2 : Ary Z h0 b2 k_b2 (.object "java/lang/Object") 10 (lst [(.ref b3), (.ref b4), .null, .null, .null, .null, .null, .null, .null, .null] .null)) (V_b2 : Ovr Z k_b2 "java/lang/Object") (E_b3 : Exa Z h0 b3 "java/lang/Integer") (E_b4 : Exa Z h0 b4 "java/lang/Integer") (ne_b0_b2 : b0 ≠ b2)  :
    OMeets l Z mn14 jdk_38_method_24_code 4 none [] ({ frames := 0, cells := 0, slots := 0, locals := 0 } : Room) #[(.ref b0), (.ref b1), (.ref b2), (.int (2 : Int32))] h0 (fun v h L => v = none ∧ Fr Z.heap.size L ∧ Keep h0 h [b0, b2] ∧ Fld Z h b0 "java/util/ArrayList" "elementData" "[Ljava/lang/Object;" (.ref b2) ∧ Fld Z h b0 "java/util/AbstractList" "modCount" "I" (.int (3 : Int32)) ∧ Fld Z h b0 "java/util/ArrayList" "size" "I" (.int (3 : Int32)) ∧ Ary Z h b2 k_b2 (.object "java/lang/Object") 10 (lst [(.ref b3), (.ref b4), (.ref b1), .null, .null, .null, .null, .null, .null, .null] .null)) := by
  refine OMeets.of pn_mm7_22 #[.val (.ref b0), .val (.ref b1), .val (.ref b2), .val (.int (2 : Int32))] (fun m => by first | rfl | (simp [entryFrame, mkF, argsToLocals, Value.category, maxLocals]; done)) ?_
  intro p e s m below meth c s₁ B X0 e0
  have F0 := OwnF.ext O0.2 FZ
  obtain ⟨S_D, ⟨kD, A_D⟩, S_high, T_cache⟩ := id F0
  refine s_iloadN B X0 (pc' := 1) d7_0 rfl rfl ?_
  refine s_aloadN B X0 (pc' := 2) d7_1 rfl rfl rfl ?_
  refine s_len B X0 (pc' := 3) (v := (10 : Int32)) e0 A_b2 rfl d7_2 rfl ?_
  refine s_icmpY B X0 (pc' := 11) d7_3 (by decide) (by decide) (by decide) ?_
  refine s_aloadN B X0 (pc' := 12) d7_11 rfl rfl rfl ?_
  refine s_iloadN B X0 (pc' := 13) d7_12 rfl rfl ?_
  refine s_aloadN B X0 (pc' := 14) d7_13 rfl rfl rfl ?_
  refine s_stR B X0 (pc' := 15) (jn := 2) e0 A_b2 rfl (Ary.sto A_b2 V_b2 (Ins.of_exa E_b1 (tw63 hw))) (by decide) (by decide) (by decide) d7_14 rfl (fun T1 h1 X1 e1 W1 A1 => ?_)
  replace A1 := A1.full (show 2 < 10 by decide) (L' := [(.ref b3), (.ref b4), (.ref b1), .null, .null, .null, .null, .null, .null, .null]) rfl
  have N1 := Fr.snoc X1 (Fr.nil _) ge_b2
  have O1 := (O0).wr W1 ge_b2
  have F1 := OwnF.ext O1.2 FZ
  have K1 := ((Keep.refl h0 [b0, b2])).wr W1 (Or.inl (List.mem_of_getElem? (i := 1) rfl))
  show Go p e below _ (T1.setTop (mkF m 15 #[.val (.ref b0), .val (.ref b1), .val (.ref b2), .val (.int (2 : Int32))] []))
  refine s_aloadN B X1 (pc' := 16) d7_15 rfl rfl rfl ?_
  refine s_iloadN B X1 (pc' := 17) d7_16 rfl rfl ?_
  refine s_iconst B X1 (pc' := 18) (v := (1 : Int32)) d7_17 rfl rfl ?_
  refine s_iadd B X1 (pc' := 19) (v := (3 : Int32)) d7_18 rfl rfl ?_
  have f3 := (D_b0_size.other W1 (Or.inl ne_b0_b2))
  have f4 := (E_b0.wr W1)
  refine s_putF B X1 (pc' := 22) (ty := .int) e1 (host := "") (Or.inl (tw40 hw)) Via.refl f3 f4 (Or.inl (tw41 hw)) (tw1 hw) (by decide) rfl rfl d7_19 rfl (fun T2 h2 X2 e2 W2 => ?_)
  have G2 := f3.same W2
  have N2 := Fr.snoc X2 N1 ge_b0
  have O2 := (O1).wr W2 ge_b0
  have F2 := OwnF.ext O2.2 FZ
  have K2 := (K1).wr W2 (Or.inl (List.mem_of_getElem? (i := 0) rfl))
  show Go p e below _ (T2.setTop (mkF m 22 #[.val (.ref b0), .val (.ref b1), .val (.ref b2), .val (.int (2 : Int32))] []))
  have f5 := ((D_b0_elementData.other W1 (Or.inl ne_b0_b2)).other W2 (Or.inr (slot_ne (Or.inl (tw25 hw)) (Or.inl (tw41 hw)) (by decide) (t := (.array (.object "java/lang/Object"))) (t' := .int) (by decide) (by decide))))
  have f6 := ((D_b0_modCount.other W1 (Or.inl ne_b0_b2)).other W2 (Or.inr (slot_ne (Or.inl (tw22 hw)) (Or.inl (tw41 hw)) (by decide) (t := .int) (t' := .int) (by decide) (by decide))))
  have f7 := (Ary.other W2 A1 (Ne.symm ne_b0_b2))
  exact r_void B X2 rfl d7_22 (by rw [e2]; exact ⟨rfl, N2, K2, f5, f6, G2, f7⟩) (by decide) (by decide)

theorem pn_mm6_22 : plainFor mn15 = true := by first | exact plainFor_of_name (show plainName "java/util/ArrayList" = true by first | (simp [plainName, overriddenIn]; done) | decide +kernel) | decide +kernel
set_option maxRecDepth 65536 in
set_option maxHeartbeats 40000000 in
theorem mm6_22 (l : Launch) (Z : State) (a0 : Array Value) (hw : ∀ d ∈ tables_1, d.before a0 Z = true) (b0 : Addr) (b1 : Addr) (b2 : Addr) (b3 : Addr) (b4 : Addr) (k_b2 : ClassId) (w_D : Addr) (h0 : Heap) (FZ : OwnF Z Z.heap w_D) (O0 : Old Z Z.heap.size h0) (ge_b0 : Z.heap.size ≤ b0) (E_b0 : Exa Z h0 b0 "java/util/ArrayList") (D_b0_elementData : Fld Z h0 b0 "java/util/ArrayList" "elementData" "[Ljava/lang/Object;" (.ref b2)) (D_b0_modCount : Fld Z h0 b0 "java/util/AbstractList" "modCount" "I" (.int (2 : Int32))) (D_b0_size : Fld Z h0 b0 "java/util/ArrayList" "size" "I" (.int (2 : Int32))) (E_b1 : Exa Z h0 b1 "java/lang/Integer") (ge_b2 : Z.heap.size ≤ b2) (A_b2 : Ary Z h0 b2 k_b2 (.object "java/lang/Object") 10 (lst [(.ref b3), (.ref b4), .null, .null, .null, .null, .null, .null, .null, .null] .null)) (V_b2 : Ovr Z k_b2 "java/lang/Object") (E_b3 : Exa Z h0 b3 "java/lang/Integer") (E_b4 : Exa Z h0 b4 "java/lang/Integer") (ne_b0_b2 : b0 ≠ b2)  :
    OMeets l Z mn15 jdk_38_method_25_code 2 (some .boolean) [] ({ frames := 1, cells := 0, slots := 0, locals := 15 } : Room) #[(.ref b0), (.ref b1)] h0 (fun v h L => v = some (.int (1 : Int32)) ∧ Fr Z.heap.size L ∧ Keep h0 h [b0, b2] ∧ Fld Z h b0 "java/util/ArrayList" "elementData" "[Ljava/lang/Object;" (.ref b2) ∧ Fld Z h b0 "java/util/AbstractList" "modCount" "I" (.int (3 : Int32)) ∧ Fld Z h b0 "java/util/ArrayList" "size" "I" (.int (3 : Int32)) ∧ Ary Z h b2 k_b2 (.object "java/lang/Object") 10 (lst [(.ref b3), (.ref b4), (.ref b1), .null, .null, .null, .null, .null, .null, .null] .null)) := by
  refine OMeets.of pn_mm6_22 #[.val (.ref b0), .val (.ref b1)] (fun m => by first | rfl | (simp [entryFrame, mkF, argsToLocals, Value.category, maxLocals]; done)) ?_
  intro p e s m below meth c s₁ B X0 e0
  have F0 := OwnF.ext O0.2 FZ
  obtain ⟨S_D, ⟨kD, A_D⟩, S_high, T_cache⟩ := id F0
  refine s_aloadN B X0 (pc' := 1) d6_0 rfl rfl rfl ?_
  refine s_dup B X0 (pc' := 2) d6_1 rfl rfl ?_
  refine s_getF B X0 (pc' := 5) e0 (host := "") (Or.inl (tw38 hw)) (Via.of (tw39 hw)) D_b0_modCount d6_2 rfl (fun T1 X1 e1 => ?_)
  refine s_iconst B X1 (pc' := 6) (v := (1 : Int32)) d6_5 rfl rfl ?_
  refine s_iadd B X1 (pc' := 7) (v := (3 : Int32)) d6_6 rfl rfl ?_
  refine s_putF B X1 (pc' := 10) (ty := .int) e1 (host := "") (Or.inl (tw38 hw)) (Via.of (tw39 hw)) D_b0_modCount E_b0 (Or.inl (tw22 hw)) (tw1 hw) (by decide) rfl rfl d6_7 rfl (fun T2 h2 X2 e2 W2 => ?_)
  have G2 := D_b0_modCount.same W2
  have N2 := Fr.snoc X2 (Fr.nil _) ge_b0
  have O2 := (O0).wr W2 ge_b0
  have F2 := OwnF.ext O2.2 FZ
  have K2 := ((Keep.refl h0 [b0, b2])).wr W2 (Or.inl (List.mem_of_getElem? (i := 0) rfl))
  show Go p e below _ (T2.setTop (mkF m 10 #[.val (.ref b0), .val (.ref b1)] []))
  refine s_aloadN B X2 (pc' := 11) d6_10 rfl rfl rfl ?_
  refine s_aloadN B X2 (pc' := 12) d6_11 rfl rfl rfl ?_
  refine s_aloadN B X2 (pc' := 13) d6_12 rfl rfl rfl ?_
  have f3 := (D_b0_elementData.other W2 (Or.inr (slot_ne (Or.inl (tw25 hw)) (Or.inl (tw22 hw)) (by decide) (t := (.array (.object "java/lang/Object"))) (t' := .int) (by decide) (by decide))))
  refine s_getF B X2 (pc' := 16) e2 (host := "") (Or.inl (tw24 hw)) Via.refl f3 d6_13 rfl (fun T4 X4 e4 => ?_)
  refine s_aloadN B X4 (pc' := 17) d6_16 rfl rfl rfl ?_
  have f5 := (D_b0_size.other W2 (Or.inr (slot_ne (Or.inl (tw41 hw)) (Or.inl (tw22 hw)) (by decide) (t := .int) (t' := .int) (by decide) (by decide))))
  refine s_getF B X4 (pc' := 20) e4 (host := "") (Or.inl (tw40 hw)) Via.refl f5 d6_17 rfl (fun T6 X6 e6 => ?_)
  have f7 := (E_b0.wr W2)
  have f8 := (E_b1.wr W2)
  have f9 := (Ary.other W2 A_b2 (Ne.symm ne_b0_b2))
  have f10 := (E_b3.wr W2)
  have f11 := (E_b4.wr W2)
  refine c_private B X6 (y := mn14) (pc' := 23) (argsL := [(.ref b1), (.ref b2), (.int (2 : Int32))]) (under := []) (W := 0) e6 (tw42 hw) (tw1 hw) (tw44 hw) (tw43 hw) (tw46 hw) (tw2 hw) (by decide) (mm7_22 l Z a0 hw b0 b1 b2 b3 b4 k_b2 w_D h2 FZ O2 ge_b0 f7 f3 G2 f5 f8 ge_b2 f9 V_b2 f10 f11 ne_b0_b2 ) f7 (lenOf pd_8 rfl) rfl rfl (by decide) (by decide) (by decide) (by decide) rfl d6_20 rfl (fun v12 T12 L12 X12 hQ12 => ?_)
  obtain ⟨rfl, Nq12, Kq12, u12_0, u12_1, u12_2, u12_3⟩ := hQ12
  obtain ⟨h12, e12⟩ : ∃ z, T12.heap = z := ⟨_, rfl⟩
  rw [e12] at Kq12 u12_0 u12_1 u12_2 u12_3
  have N12 := Fr.app N2 Nq12
  have O12 := (O2).keep Kq12 (allS ge_b0 (allS ge_b2 all0))
  have F12 := OwnF.ext O12.2 FZ
  have K12 := (K2).trans Kq12 (allS (Or.inl (List.mem_of_getElem? (i := 0) rfl)) (allS (Or.inl (List.mem_of_getElem? (i := 1) rfl)) all0))
  show Go p e below _ (T12.setTop (mkF m 23 #[.val (.ref b0), .val (.ref b1)] []))
  refine s_iconst B X12 (pc' := 24) (v := (1 : Int32)) d6_23 rfl rfl ?_
  exact r_nar B X12 (t := .boolean) (by simp) rfl d6_24 (by rw [e12]; exact ⟨rfl, N12, K12, u12_0, u12_1, u12_2, u12_3⟩) (by decide) (by decide)

theorem pn_mm11_24 : plainFor mn7 = true := plainFor_of_name (show plainName "com/example/lichen/lichen/solver/TermSubsumption$Ways" = true by first | (simp [plainName, overriddenIn]; done) | decide +kernel)
set_option maxRecDepth 65536 in
set_option maxHeartbeats 40000000 in
theorem mm11_24 (l : Launch) (Z : State) (a0 : Array Value) (hw : ∀ d ∈ tables_1, d.before a0 Z = true) (b0 : Addr) (b1 : Addr) (b2 : Addr) (b3 : Addr) (b4 : Addr) (b5 : Addr) (b6 : Addr) (k_b3 : ClassId) (w_D : Addr) (h0 : Heap) (FZ : OwnF Z Z.heap w_D) (O0 : Old Z Z.heap.size h0) (ge_b0 : Z.heap.size ≤ b0) (E_b0 : Exa Z h0 b0 "com/example/lichen/lichen/solver/TermSubsumption$Ways") (D_b0_each : Fld Z h0 b0 "com/example/lichen/lichen/solver/TermSubsumption$Ways" "each" "Ljava/util/List;" .null) (D_b0_producers : Fld Z h0 b0 "com/example/lichen/lichen/solver/TermSubsumption$Ways" "producers" "Ljava/util/List;" .null) (ge_b1 : Z.heap.size ≤ b1) (E_b1 : Exa Z h0 b1 "java/util/ArrayList") (D_b1_elementData : Fld Z h0 b1 "java/util/ArrayList" "elementData" "[Ljava/lang/Object;" (.ref w_D)) (D_b1_modCount : Fld Z h0 b1 "java/util/AbstractList" "modCount" "I" (.int (0 : Int32))) (D_b1_size : Fld Z h0 b1 "java/util/ArrayList" "size" "I" (.int (0 : Int32))) (ge_b2 : Z.heap.size ≤ b2) (E_b2 : Exa Z h0 b2 "java/util/ArrayList") (D_b2_elementData : Fld Z h0 b2 "java/util/ArrayList" "elementData" "[Ljava/lang/Object;" (.ref b3)) (D_b2_modCount : Fld Z h0 b2 "java/util/AbstractList" "modCount" "I" (.int (3 : Int32))) (D_b2_size : Fld Z h0 b2 "java/util/ArrayList" "size" "I" (.int (3 : Int32))) (ge_b3 : Z.heap.size ≤ b3) (A_b3 : Ary Z h0 b3 k_b3 (.object "java/lang/Object") 10 (lst [(.ref b4), (.ref b5), (.ref b6), .null, .null, .null, .null, .null, .null, .null] .null)) (V_b3 : Ovr Z k_b3 "java/lang/Object") (E_b4 : Exa Z h0 b4 "java/lang/Integer") (E_b5 : Exa Z h0 b5 "java/lang/Integer") (E_b6 : Exa Z h0 b6 "java/lang/Integer") (ne_b0_b1 : b0 ≠ b1) (ne_b0_b2 : b0 ≠ b2) (ne_b0_b3 : b0 ≠ b3) (ne_b1_b2 : b1 ≠ b2) (ne_b1_b3 : b1 ≠ b3) (ne_b2_b3 : b2 ≠ b3)  :
    OMeets l Z mn7 prog_103_method_1_code 3 none [] ({ frames := 2, cells := 0, slots := 0, locals := 24 } : Room) #[(.ref b0), (.ref b1), (.ref b2)] h0 (fun v h L => v = none ∧ Fr Z.heap.size L ∧ Keep h0 h [b0] ∧ Fld Z h b0 "com/example/lichen/lichen/solver/TermSubsumption$Ways" "each" "Ljava/util/List;" (.ref b1) ∧ Fld Z h b0 "com/example/lichen/lichen/solver/TermSubsumption$Ways" "producers" "Ljava/util/List;" (.ref b2)) := by
  refine OMeets.of pn_mm11_24 #[.val (.ref b0), .val (.ref b1), .val (.ref b2)] (fun m => by first | rfl | (simp [entryFrame, mkF, argsToLocals, Value.category, maxLocals]; done)) ?_
  intro p e s m below meth c s₁ B X0 e0
  have F0 := OwnF.ext O0.2 FZ
  obtain ⟨S_D, ⟨kD, A_D⟩, S_high, T_cache⟩ := id F0
  refine s_aloadN B X0 (pc' := 1) d11_0 rfl rfl rfl ?_
  refine p_init B X0 (y := mn6) (pc' := 4) (argsL := []) (under := []) (W := 0) e0 rfl (tw70 hw) (tw71 hw) (tw74 hw) (tw73 hw) (by decide) (mm12_6 l Z a0 hw b0 w_D h0 FZ O0 ge_b0 E_b0 D_b0_each D_b0_producers ) (lenOf pd_0 rfl) rfl rfl (by decide) (by decide) rfl rfl (by decide) (by decide) rfl d11_1 rfl (fun T1 X1 e1 => ?_)
  show Go p e below _ (T1.setTop (mkF m 4 #[.val (.ref b0), .val (.ref b1), .val (.ref b2)] []))
  refine s_aloadN B X1 (pc' := 5) d11_4 rfl rfl rfl ?_
  refine s_aloadN B X1 (pc' := 6) d11_5 rfl rfl rfl ?_
  refine s_putF B X1 (pc' := 9) (ty := (.object "java/util/List")) e1 (host := "") (Or.inl (tw76 hw)) Via.refl D_b0_each E_b0 (Or.inr ⟨(tw77 hw), rfl, rfl⟩) (tw65 hw) (by decide) rfl rfl d11_6 rfl (fun T2 h2 X2 e2 W2 => ?_)
  have G2 := D_b0_each.same W2
  have N2 := Fr.snoc X2 (Fr.nil _) ge_b0
  have O2 := (O0).wr W2 ge_b0
  have F2 := OwnF.ext O2.2 FZ
  have K2 := ((Keep.refl h0 [b0])).wr W2 (Or.inl (List.mem_of_getElem? (i := 0) rfl))
  show Go p e below _ (T2.setTop (mkF m 9 #[.val (.ref b0), .val (.ref b1), .val (.ref b2)] []))
  refine s_aloadN B X2 (pc' := 10) d11_9 rfl rfl rfl ?_
  refine s_aloadN B X2 (pc' := 11) d11_10 rfl rfl rfl ?_
  have f4 := (D_b0_producers.other W2 (Or.inr (slot_ne (Or.inr (tw79 hw)) (Or.inr (tw77 hw)) (by decide) (t := (.object "java/util/List")) (t' := (.object "java/util/List")) (by decide) (by decide))))
  have f5 := (E_b0.wr W2)
  refine s_putF B X2 (pc' := 14) (ty := (.object "java/util/List")) e2 (host := "") (Or.inl (tw78 hw)) Via.refl f4 f5 (Or.inr ⟨(tw79 hw), rfl, rfl⟩) (tw65 hw) (by decide) rfl rfl d11_11 rfl (fun T3 h3 X3 e3 W3 => ?_)
  have G3 := f4.same W3
  have N3 := Fr.snoc X3 N2 ge_b0
  have O3 := (O2).wr W3 ge_b0
  have F3 := OwnF.ext O3.2 FZ
  have K3 := (K2).wr W3 (Or.inl (List.mem_of_getElem? (i := 0) rfl))
  show Go p e below _ (T3.setTop (mkF m 14 #[.val (.ref b0), .val (.ref b1), .val (.ref b2)] []))
  have f6 := (G2.other W3 (Or.inr (slot_ne (Or.inr (tw77 hw)) (Or.inr (tw79 hw)) (by decide) (t := (.object "java/util/List")) (t' := (.object "java/util/List")) (by decide) (by decide))))
  exact r_void B X3 rfl d11_14 (by rw [e3]; exact ⟨rfl, N3, K3, f6, G3⟩) (by decide) (by decide)

theorem pn_mm14_25 : plainFor mn8 = true := by first | exact plainFor_of_name (show plainName "java/util/ArrayList" = true by first | (simp [plainName, overriddenIn]; done) | decide +kernel) | decide +kernel
set_option maxRecDepth 65536 in
set_option maxHeartbeats 40000000 in
theorem mm14_25 (l : Launch) (Z : State) (a0 : Array Value) (hw : ∀ d ∈ tables_1, d.before a0 Z = true) (b0 : Addr) (b1 : Addr) (b2 : Addr) (b3 : Addr) (b4 : Addr) (k_b1 : ClassId) (w_D : Addr) (h0 : Heap) (FZ : OwnF Z Z.heap w_D) (O0 : Old Z Z.heap.size h0) (ge_b0 : Z.heap.size ≤ b0) (E_b0 : Exa Z h0 b0 "java/util/ArrayList") (D_b0_elementData : Fld Z h0 b0 "java/util/ArrayList" "elementData" "[Ljava/lang/Object;" (.ref b1)) (D_b0_modCount : Fld Z h0 b0 "java/util/AbstractList" "modCount" "I" (.int (3 : Int32))) (D_b0_size : Fld Z h0 b0 "java/util/ArrayList" "size" "I" (.int (3 : Int32))) (ge_b1 : Z.heap.size ≤ b1) (A_b1 : Ary Z h0 b1 k_b1 (.object "java/lang/Object") 10 (lst [(.ref b2), (.ref b3), (.ref b4), .null, .null, .null, .null, .null, .null, .null] .null)) (V_b1 : Ovr Z k_b1 "java/lang/Object") (E_b2 : Exa Z h0 b2 "java/lang/Integer") (E_b3 : Exa Z h0 b3 "java/lang/Integer") (E_b4 : Exa Z h0 b4 "java/lang/Integer") (ne_b0_b1 : b0 ≠ b1)  :
    OMeets l Z mn8 jdk_38_method_9_code 1 (some .boolean) [] ({ frames := 0, cells := 0, slots := 0, locals := 0 } : Room) #[(.ref b0)] h0 (PureQ (some (.int (0 : Int32))) h0) := by
  refine OMeets.of pn_mm14_25 #[.val (.ref b0)] (fun m => by first | rfl | (simp [entryFrame, mkF, argsToLocals, Value.category, maxLocals]; done)) ?_
  intro p e s m below meth c s₁ B X0 e0
  have F0 := OwnF.ext O0.2 FZ
  obtain ⟨S_D, ⟨kD, A_D⟩, S_high, T_cache⟩ := id F0
  refine s_aloadN B X0 (pc' := 1) d14_0 rfl rfl rfl ?_
  refine s_getF B X0 (pc' := 4) e0 (host := "") (Or.inl (tw40 hw)) Via.refl D_b0_size d14_1 rfl (fun T1 X1 e1 => ?_)
  refine s_ifY B X1 (pc' := 11) d14_4 (by decide) (by decide) (by decide) ?_
  refine s_iconst B X1 (pc' := 12) (v := (0 : Int32)) d14_11 rfl rfl ?_
  exact r_nar B X1 (t := .boolean) (by simp) rfl d14_12 ⟨rfl, rfl, e1⟩ (by decide) (by decide)

theorem pn_mm13_25 : plainFor mn10 = true := plainFor_of_name (show plainName "com/example/lichen/lichen/solver/TermSubsumption$Ways" = true by first | (simp [plainName, overriddenIn]; done) | decide +kernel)
set_option maxRecDepth 65536 in
set_option maxHeartbeats 40000000 in
theorem mm13_25 (l : Launch) (Z : State) (a0 : Array Value) (hw : ∀ d ∈ tables_1, d.before a0 Z = true) (b0 : Addr) (b1 : Addr) (b2 : Addr) (b3 : Addr) (b4 : Addr) (b5 : Addr) (b6 : Addr) (k_b3 : ClassId) (w_D : Addr) (h0 : Heap) (FZ : OwnF Z Z.heap w_D) (O0 : Old Z Z.heap.size h0) (ge_b0 : Z.heap.size ≤ b0) (E_b0 : Exa Z h0 b0 "com/example/lichen/lichen/solver/TermSubsumption$Ways") (D_b0_each : Fld Z h0 b0 "com/example/lichen/lichen/solver/TermSubsumption$Ways" "each" "Ljava/util/List;" (.ref b1)) (D_b0_producers : Fld Z h0 b0 "com/example/lichen/lichen/solver/TermSubsumption$Ways" "producers" "Ljava/util/List;" (.ref b2)) (ge_b1 : Z.heap.size ≤ b1) (E_b1 : Exa Z h0 b1 "java/util/ArrayList") (D_b1_elementData : Fld Z h0 b1 "java/util/ArrayList" "elementData" "[Ljava/lang/Object;" (.ref w_D)) (D_b1_modCount : Fld Z h0 b1 "java/util/AbstractList" "modCount" "I" (.int (0 : Int32))) (D_b1_size : Fld Z h0 b1 "java/util/ArrayList" "size" "I" (.int (0 : Int32))) (ge_b2 : Z.heap.size ≤ b2) (E_b2 : Exa Z h0 b2 "java/util/ArrayList") (D_b2_elementData : Fld Z h0 b2 "java/util/ArrayList" "elementData" "[Ljava/lang/Object;" (.ref b3)) (D_b2_modCount : Fld Z h0 b2 "java/util/AbstractList" "modCount" "I" (.int (3 : Int32))) (D_b2_size : Fld Z h0 b2 "java/util/ArrayList" "size" "I" (.int (3 : Int32))) (ge_b3 : Z.heap.size ≤ b3) (A_b3 : Ary Z h0 b3 k_b3 (.object "java/lang/Object") 10 (lst [(.ref b4), (.ref b5), (.ref b6), .null, .null, .null, .null, .null, .null, .null] .null)) (V_b3 : Ovr Z k_b3 "java/lang/Object") (E_b4 : Exa Z h0 b4 "java/lang/Integer") (E_b5 : Exa Z h0 b5 "java/lang/Integer") (E_b6 : Exa Z h0 b6 "java/lang/Integer") (ne_b0_b1 : b0 ≠ b1) (ne_b0_b2 : b0 ≠ b2) (ne_b0_b3 : b0 ≠ b3) (ne_b1_b2 : b1 ≠ b2) (ne_b1_b3 : b1 ≠ b3) (ne_b2_b3 : b2 ≠ b3)  :
    OMeets l Z mn10 prog_103_method_3_code 1 (some .boolean) [] ({ frames := 1, cells := 0, slots := 0, locals := 12 } : Room) #[(.ref b0)] h0 (PureQ (some (.int (0 : Int32))) h0) := by
  refine OMeets.of pn_mm13_25 #[.val (.ref b0)] (fun m => by first | rfl | (simp [entryFrame, mkF, argsToLocals, Value.category, maxLocals]; done)) ?_
  intro p e s m below meth c s₁ B X0 e0
  have F0 := OwnF.ext O0.2 FZ
  obtain ⟨S_D, ⟨kD, A_D⟩, S_high, T_cache⟩ := id F0
  refine s_aloadN B X0 (pc' := 1) d13_0 rfl rfl rfl ?_
  refine s_getF B X0 (pc' := 4) e0 (host := "") (Or.inl (tw76 hw)) Via.refl D_b0_each d13_1 rfl (fun T1 X1 e1 => ?_)
  refine p_iface B X1 (y := mn9) (z := mn8) (pc' := 9) (argsL := []) (under := []) (W := 0) e1 (tw85 hw) (tw86 hw) (tw87 hw) (tw88 hw) (tw89 hw) (tw90 hw) (tw91 hw) (tw92 hw) (tw93 hw) (tw2 hw) (by decide) (mm14_8 l Z a0 hw b1 w_D h0 FZ O0 ge_b1 E_b1 D_b1_elementData D_b1_modCount D_b1_size ) E_b1 (lenOf pd_3 rfl) rfl rfl (by decide) (by decide) rfl rfl (by decide) (by decide) rfl d13_4 rfl (fun T2 X2 e2 => ?_)
  show Go p e below _ (T2.setTop (mkF m 9 #[.val (.ref b0)] [(.int (1 : Int32))]))
  refine s_ifN B X2 (pc' := 12) d13_9 (by decide) rfl ?_
  refine s_aloadN B X2 (pc' := 13) d13_12 rfl rfl rfl ?_
  refine s_getF B X2 (pc' := 16) e2 (host := "") (Or.inl (tw78 hw)) Via.refl D_b0_producers d13_13 rfl (fun T3 X3 e3 => ?_)
  refine p_iface B X3 (y := mn9) (z := mn8) (pc' := 21) (argsL := []) (under := []) (W := 0) e3 (tw85 hw) (tw86 hw) (tw87 hw) (tw88 hw) (tw89 hw) (tw90 hw) (tw91 hw) (tw92 hw) (tw93 hw) (tw2 hw) (by decide) (mm14_25 l Z a0 hw b2 b3 b4 b5 b6 k_b3 w_D h0 FZ O0 ge_b2 E_b2 D_b2_elementData D_b2_modCount D_b2_size ge_b3 A_b3 V_b3 E_b4 E_b5 E_b6 ne_b2_b3 ) E_b2 (lenOf pd_3 rfl) rfl rfl (by decide) (by decide) rfl rfl (by decide) (by decide) rfl d13_16 rfl (fun T4 X4 e4 => ?_)
  show Go p e below _ (T4.setTop (mkF m 21 #[.val (.ref b0)] [(.int (0 : Int32))]))
  refine s_ifY B X4 (pc' := 28) d13_21 (by decide) (by decide) (by decide) ?_
  refine s_iconst B X4 (pc' := 29) (v := (0 : Int32)) d13_28 rfl rfl ?_
  exact r_nar B X4 (t := .boolean) (by simp) rfl d13_29 ⟨rfl, rfl, e4⟩ (by decide) (by decide)

theorem pn_mm7_27 : plainFor mn14 = true := by first | exact plainFor_of_name (show plainName "java/util/ArrayList" = true by first | (simp [plainName, overriddenIn]; done) | decide +kernel) | decide +kernel
set_option maxRecDepth 65536 in
set_option maxHeartbeats 40000000 in
theorem mm7_27 (l : Launch) (Z : State) (a0 : Array Value) (hw : ∀ d ∈ tables_1, d.before a0 Z = true) (b0 : Addr) (b1 : Addr) (w_D : Addr) (h0 : Heap) (FZ : OwnF Z Z.heap w_D) (O0 : Old Z Z.heap.size h0) (ge_b0 : Z.heap.size ≤ b0) (E_b0 : Exa Z h0 b0 "java/util/ArrayList") (D_b0_elementData : Fld Z h0 b0 "java/util/ArrayList" "elementData" "[Ljava/lang/Object;" (.ref w_D)) (D_b0_modCount : Fld Z h0 b0 "java/util/AbstractList" "modCount" "I" (.int (1 : Int32))) (D_b0_size : Fld Z h0 b0 "java/util/ArrayList" "size" "I" (.int (0 : Int32))) (ge_b1 : Z.heap.size ≤ b1) (E_b1 : Exa Z h0 b1 "java/util/ArrayList") (ne_b0_b1 : b0 ≠ b1)  :
    OMeets l Z mn14 jdk_38_method_24_code 4 none [] ({ frames := 3, cells := 1, slots := 10, locals := 41 } : Room) #[(.ref b0), (.ref b1), (.ref w_D), (.int (0 : Int32))] h0 (fun v h L => ∃ o1_0 : Addr, ∃ kq_o1_0 : ClassId, v = none ∧ Fr Z.heap.size L ∧ Keep h0 h [b0] ∧ h0.size ≤ o1_0 ∧ Ary Z h o1_0 kq_o1_0 (.object "java/lang/Object") 10 (lst [(.ref b1), .null, .null, .null, .null, .null, .null, .null, .null, .null] .null) ∧ Ovr Z kq_o1_0 "java/lang/Object" ∧ Fld Z h b0 "java/util/ArrayList" "elementData" "[Ljava/lang/Object;" (.ref o1_0) ∧ Fld Z h b0 "java/util/AbstractList" "modCount" "I" (.int (1 : Int32)) ∧ Fld Z h b0 "java/util/ArrayList" "size" "I" (.int (1 : Int32))) := by
  refine OMeets.of pn_mm7_27 #[.val (.ref b0), .val (.ref b1), .val (.ref w_D), .val (.int (0 : Int32))] (fun m => by first | rfl | (simp [entryFrame, mkF, argsToLocals, Value.category, maxLocals]; done)) ?_
  intro p e s m below meth c s₁ B X0 e0
  have F0 := OwnF.ext O0.2 FZ
  obtain ⟨S_D, ⟨kD, A_D⟩, S_high, T_cache⟩ := id F0
  refine s_iloadN B X0 (pc' := 1) d7_0 rfl rfl ?_
  refine s_aloadN B X0 (pc' := 2) d7_1 rfl rfl rfl ?_
  refine s_len B X0 (pc' := 3) (v := (0 : Int32)) e0 A_D rfl d7_2 rfl ?_
  refine s_icmpN B X0 (pc' := 6) d7_3 (by decide) rfl ?_
  refine s_aloadN B X0 (pc' := 7) d7_6 rfl rfl rfl ?_
  refine c_private B X0 (y := mn13) (pc' := 10) (argsL := []) (under := []) (W := 0) e0 (tw47 hw) (tw1 hw) (tw49 hw) (tw48 hw) (tw51 hw) (tw2 hw) (by decide) (mm8_10 l Z a0 hw b0 w_D h0 FZ O0 ge_b0 E_b0 D_b0_elementData D_b0_modCount D_b0_size ) E_b0 (lenOf pd_7 rfl) rfl rfl (by decide) (by decide) (by decide) (by decide) rfl d7_7 rfl (fun v1 T1 L1 X1 hQ1 => ?_)
  obtain ⟨o1_0, kq_o1_0, rfl, Nq1, Kq1, lq_o1_0, u1_0, ovu1_0, u1_1, u1_2, u1_3⟩ := hQ1
  have ne_b0_o1_0 : b0 ≠ o1_0 := Nat.ne_of_lt (Nat.lt_of_lt_of_le E_b0.lt lq_o1_0)
  have ne_b1_o1_0 : b1 ≠ o1_0 := Nat.ne_of_lt (Nat.lt_of_lt_of_le E_b1.lt lq_o1_0)
  have ge_o1_0 : Z.heap.size ≤ o1_0 := Nat.le_trans (old_le O0) lq_o1_0
  have le_o1_0 : h0.size ≤ o1_0 := Nat.le_trans ((Keep.refl h0 [b0])).1 lq_o1_0
  obtain ⟨h1, e1⟩ : ∃ z, T1.heap = z := ⟨_, rfl⟩
  rw [e1] at Kq1 u1_0 u1_1 u1_2 u1_3
  have N1 := Fr.app (Fr.nil _) Nq1
  have O1 := (O0).keep Kq1 (allS ge_b0 all0)
  have F1 := OwnF.ext O1.2 FZ
  have K1 := ((Keep.refl h0 [b0])).trans Kq1 (allS (Or.inl (List.mem_of_getElem? (i := 0) rfl)) all0)
  show Go p e below _ (T1.setTop (mkF m 10 #[.val (.ref b0), .val (.ref b1), .val (.ref w_D), .val (.int (0 : Int32))] [(.ref o1_0)]))
  refine s_astoreN B X1 (pc' := 11) (Ls' := #[.val (.ref b0), .val (.ref b1), .val (.ref o1_0), .val (.int (0 : Int32))]) d7_10 rfl rfl rfl ?_
  refine s_aloadN B X1 (pc' := 12) d7_11 rfl rfl rfl ?_
  refine s_iloadN B X1 (pc' := 13) d7_12 rfl rfl ?_
  refine s_aloadN B X1 (pc' := 14) d7_13 rfl rfl rfl ?_
  have f3 := (E_b1.keep Kq1)
  refine s_stR B X1 (pc' := 15) (jn := 0) e1 u1_0 rfl (Ary.sto u1_0 ovu1_0 (Ins.of_exa f3 (tw106 hw))) (by decide) (by decide) (by decide) d7_14 rfl (fun T2 h2 X2 e2 W2 A2 => ?_)
  replace A2 := A2.full (show 0 < 10 by decide) (L' := [(.ref b1), .null, .null, .null, .null, .null, .null, .null, .null, .null]) rfl
  have N2 := Fr.snoc X2 N1 ge_o1_0
  have O2 := (O1).wr W2 ge_o1_0
  have F2 := OwnF.ext O2.2 FZ
  have K2 := (K1).wr W2 (Or.inr le_o1_0)
  show Go p e below _ (T2.setTop (mkF m 15 #[.val (.ref b0), .val (.ref b1), .val (.ref o1_0), .val (.int (0 : Int32))] []))
  refine s_aloadN B X2 (pc' := 16) d7_15 rfl rfl rfl ?_
  refine s_iloadN B X2 (pc' := 17) d7_16 rfl rfl ?_
  refine s_iconst B X2 (pc' := 18) (v := (1 : Int32)) d7_17 rfl rfl ?_
  refine s_iadd B X2 (pc' := 19) (v := (1 : Int32)) d7_18 rfl rfl ?_
  have f5 := (u1_3.other W2 (Or.inl ne_b0_o1_0))
  have f6 := ((E_b0.keep Kq1).wr W2)
  refine s_putF B X2 (pc' := 22) (ty := .int) e2 (host := "") (Or.inl (tw40 hw)) Via.refl f5 f6 (Or.inl (tw41 hw)) (tw1 hw) (by decide) rfl rfl d7_19 rfl (fun T4 h4 X4 e4 W4 => ?_)
  have G4 := f5.same W4
  have N4 := Fr.snoc X4 N2 ge_b0
  have O4 := (O2).wr W4 ge_b0
  have F4 := OwnF.ext O4.2 FZ
  have K4 := (K2).wr W4 (Or.inl (List.mem_of_getElem? (i := 0) rfl))
  show Go p e below _ (T4.setTop (mkF m 22 #[.val (.ref b0), .val (.ref b1), .val (.ref o1_0), .val (.int (0 : Int32))] []))
  have f7 := (Ary.other W4 A2 (Ne.symm ne_b0_o1_0))
  have f8 := ((u1_1.other W2 (Or.inl ne_b0_o1_0)).other W4 (Or.inr (slot_ne (Or.inl (tw25 hw)) (Or.inl (tw41 hw)) (by decide) (t := (.array (.object "java/lang/Object"))) (t' := .int) (by decide) (by decide))))
  have f9 := ((u1_2.other W2 (Or.inl ne_b0_o1_0)).other W4 (Or.inr (slot_ne (Or.inl (tw22 hw)) (Or.inl (tw41 hw)) (by decide) (t := .int) (t' := .int) (by decide) (by decide))))
  exact r_void B X4 rfl d7_22 (by rw [e4]; exact ⟨o1_0, kq_o1_0, rfl, N4, K4, le_o1_0, f7, ovu1_0, f8, f9, G4⟩) (by decide) (by decide)

theorem pn_mm6_27 : plainFor mn15 = true := by first | exact plainFor_of_name (show plainName "java/util/ArrayList" = true by first | (simp [plainName, overriddenIn]; done) | decide +kernel) | decide +kernel
set_option maxRecDepth 65536 in
set_option maxHeartbeats 40000000 in
theorem mm6_27 (l : Launch) (Z : State) (a0 : Array Value) (hw : ∀ d ∈ tables_1, d.before a0 Z = true) (b0 : Addr) (b1 : Addr) (w_D : Addr) (h0 : Heap) (FZ : OwnF Z Z.heap w_D) (O0 : Old Z Z.heap.size h0) (ge_b0 : Z.heap.size ≤ b0) (E_b0 : Exa Z h0 b0 "java/util/ArrayList") (D_b0_elementData : Fld Z h0 b0 "java/util/ArrayList" "elementData" "[Ljava/lang/Object;" (.ref w_D)) (D_b0_modCount : Fld Z h0 b0 "java/util/AbstractList" "modCount" "I" (.int (0 : Int32))) (D_b0_size : Fld Z h0 b0 "java/util/ArrayList" "size" "I" (.int (0 : Int32))) (ge_b1 : Z.heap.size ≤ b1) (E_b1 : Exa Z h0 b1 "java/util/ArrayList") (ne_b0_b1 : b0 ≠ b1)  :
    OMeets l Z mn15 jdk_38_method_25_code 2 (some .boolean) [] ({ frames := 4, cells := 1, slots := 10, locals := 56 } : Room) #[(.ref b0), (.ref b1)] h0 (fun v h L => ∃ o9_0 : Addr, ∃ kq_o9_0 : ClassId, v = some (.int (1 : Int32)) ∧ Fr Z.heap.size L ∧ Keep h0 h [b0] ∧ h0.size ≤ o9_0 ∧ Ary Z h o9_0 kq_o9_0 (.object "java/lang/Object") 10 (lst [(.ref b1), .null, .null, .null, .null, .null, .null, .null, .null, .null] .null) ∧ Ovr Z kq_o9_0 "java/lang/Object" ∧ Fld Z h b0 "java/util/ArrayList" "elementData" "[Ljava/lang/Object;" (.ref o9_0) ∧ Fld Z h b0 "java/util/AbstractList" "modCount" "I" (.int (1 : Int32)) ∧ Fld Z h b0 "java/util/ArrayList" "size" "I" (.int (1 : Int32))) := by
  refine OMeets.of pn_mm6_27 #[.val (.ref b0), .val (.ref b1)] (fun m => by first | rfl | (simp [entryFrame, mkF, argsToLocals, Value.category, maxLocals]; done)) ?_
  intro p e s m below meth c s₁ B X0 e0
  have F0 := OwnF.ext O0.2 FZ
  obtain ⟨S_D, ⟨kD, A_D⟩, S_high, T_cache⟩ := id F0
  refine s_aloadN B X0 (pc' := 1) d6_0 rfl rfl rfl ?_
  refine s_dup B X0 (pc' := 2) d6_1 rfl rfl ?_
  refine s_getF B X0 (pc' := 5) e0 (host := "") (Or.inl (tw38 hw)) (Via.of (tw39 hw)) D_b0_modCount d6_2 rfl (fun T1 X1 e1 => ?_)
  refine s_iconst B X1 (pc' := 6) (v := (1 : Int32)) d6_5 rfl rfl ?_
  refine s_iadd B X1 (pc' := 7) (v := (1 : Int32)) d6_6 rfl rfl ?_
  refine s_putF B X1 (pc' := 10) (ty := .int) e1 (host := "") (Or.inl (tw38 hw)) (Via.of (tw39 hw)) D_b0_modCount E_b0 (Or.inl (tw22 hw)) (tw1 hw) (by decide) rfl rfl d6_7 rfl (fun T2 h2 X2 e2 W2 => ?_)
  have G2 := D_b0_modCount.same W2
  have N2 := Fr.snoc X2 (Fr.nil _) ge_b0
  have O2 := (O0).wr W2 ge_b0
  have F2 := OwnF.ext O2.2 FZ
  have K2 := ((Keep.refl h0 [b0])).wr W2 (Or.inl (List.mem_of_getElem? (i := 0) rfl))
  show Go p e below _ (T2.setTop (mkF m 10 #[.val (.ref b0), .val (.ref b1)] []))
  refine s_aloadN B X2 (pc' := 11) d6_10 rfl rfl rfl ?_
  refine s_aloadN B X2 (pc' := 12) d6_11 rfl rfl rfl ?_
  refine s_aloadN B X2 (pc' := 13) d6_12 rfl rfl rfl ?_
  have f3 := (D_b0_elementData.other W2 (Or.inr (slot_ne (Or.inl (tw25 hw)) (Or.inl (tw22 hw)) (by decide) (t := (.array (.object "java/lang/Object"))) (t' := .int) (by decide) (by decide))))
  refine s_getF B X2 (pc' := 16) e2 (host := "") (Or.inl (tw24 hw)) Via.refl f3 d6_13 rfl (fun T4 X4 e4 => ?_)
  refine s_aloadN B X4 (pc' := 17) d6_16 rfl rfl rfl ?_
  have f5 := (D_b0_size.other W2 (Or.inr (slot_ne (Or.inl (tw41 hw)) (Or.inl (tw22 hw)) (by decide) (t := .int) (t' := .int) (by decide) (by decide))))
  refine s_getF B X4 (pc' := 20) e4 (host := "") (Or.inl (tw40 hw)) Via.refl f5 d6_17 rfl (fun T6 X6 e6 => ?_)
  have f7 := (E_b0.wr W2)
  have f8 := (E_b1.wr W2)
  refine c_private B X6 (y := mn14) (pc' := 23) (argsL := [(.ref b1), (.ref w_D), (.int (0 : Int32))]) (under := []) (W := 0) e6 (tw42 hw) (tw1 hw) (tw44 hw) (tw43 hw) (tw46 hw) (tw2 hw) (by decide) (mm7_27 l Z a0 hw b0 b1 w_D h2 FZ O2 ge_b0 f7 f3 G2 f5 ge_b1 f8 ne_b0_b1 ) f7 (lenOf pd_8 rfl) rfl rfl (by decide) (by decide) (by decide) (by decide) rfl d6_20 rfl (fun v9 T9 L9 X9 hQ9 => ?_)
  obtain ⟨o9_0, kq_o9_0, rfl, Nq9, Kq9, lq_o9_0, u9_0, ovu9_0, u9_1, u9_2, u9_3⟩ := hQ9
  have ne_b0_o9_0 : b0 ≠ o9_0 := Nat.ne_of_lt (Nat.lt_of_lt_of_le f7.lt lq_o9_0)
  have ne_b1_o9_0 : b1 ≠ o9_0 := Nat.ne_of_lt (Nat.lt_of_lt_of_le f8.lt lq_o9_0)
  have ge_o9_0 : Z.heap.size ≤ o9_0 := Nat.le_trans (old_le O2) lq_o9_0
  have le_o9_0 : h0.size ≤ o9_0 := Nat.le_trans (K2).1 lq_o9_0
  obtain ⟨h9, e9⟩ : ∃ z, T9.heap = z := ⟨_, rfl⟩
  rw [e9] at Kq9 u9_0 u9_1 u9_2 u9_3
  have N9 := Fr.app N2 Nq9
  have O9 := (O2).keep Kq9 (allS ge_b0 all0)
  have F9 := OwnF.ext O9.2 FZ
  have K9 := (K2).trans Kq9 (allS (Or.inl (List.mem_of_getElem? (i := 0) rfl)) all0)
  show Go p e below _ (T9.setTop (mkF m 23 #[.val (.ref b0), .val (.ref b1)] []))
  refine s_iconst B X9 (pc' := 24) (v := (1 : Int32)) d6_23 rfl rfl ?_
  exact r_nar B X9 (t := .boolean) (by simp) rfl d6_24 (by rw [e9]; exact ⟨o9_0, kq_o9_0, rfl, N9, K9, le_o9_0, u9_0, ovu9_0, u9_1, u9_2, u9_3⟩) (by decide) (by decide)

theorem pn_mm11_29 : plainFor mn7 = true := plainFor_of_name (show plainName "com/example/lichen/lichen/solver/TermSubsumption$Ways" = true by first | (simp [plainName, overriddenIn]; done) | decide +kernel)
set_option maxRecDepth 65536 in
set_option maxHeartbeats 40000000 in
theorem mm11_29 (l : Launch) (Z : State) (a0 : Array Value) (hw : ∀ d ∈ tables_1, d.before a0 Z = true) (b0 : Addr) (b1 : Addr) (b2 : Addr) (b3 : Addr) (b4 : Addr) (k_b3 : ClassId) (w_D : Addr) (h0 : Heap) (FZ : OwnF Z Z.heap w_D) (O0 : Old Z Z.heap.size h0) (ge_b0 : Z.heap.size ≤ b0) (E_b0 : Exa Z h0 b0 "com/example/lichen/lichen/solver/TermSubsumption$Ways") (D_b0_each : Fld Z h0 b0 "com/example/lichen/lichen/solver/TermSubsumption$Ways" "each" "Ljava/util/List;" .null) (D_b0_producers : Fld Z h0 b0 "com/example/lichen/lichen/solver/TermSubsumption$Ways" "producers" "Ljava/util/List;" .null) (ge_b1 : Z.heap.size ≤ b1) (E_b1 : Exa Z h0 b1 "java/util/ArrayList") (D_b1_elementData : Fld Z h0 b1 "java/util/ArrayList" "elementData" "[Ljava/lang/Object;" (.ref b3)) (D_b1_modCount : Fld Z h0 b1 "java/util/AbstractList" "modCount" "I" (.int (1 : Int32))) (D_b1_size : Fld Z h0 b1 "java/util/ArrayList" "size" "I" (.int (1 : Int32))) (ge_b2 : Z.heap.size ≤ b2) (E_b2 : Exa Z h0 b2 "java/util/ArrayList") (D_b2_elementData : Fld Z h0 b2 "java/util/ArrayList" "elementData" "[Ljava/lang/Object;" (.ref w_D)) (D_b2_modCount : Fld Z h0 b2 "java/util/AbstractList" "modCount" "I" (.int (0 : Int32))) (D_b2_size : Fld Z h0 b2 "java/util/ArrayList" "size" "I" (.int (0 : Int32))) (ge_b3 : Z.heap.size ≤ b3) (A_b3 : Ary Z h0 b3 k_b3 (.object "java/lang/Object") 10 (lst [(.ref b4), .null, .null, .null, .null, .null, .null, .null, .null, .null] .null)) (V_b3 : Ovr Z k_b3 "java/lang/Object") (ge_b4 : Z.heap.size ≤ b4) (E_b4 : Exa Z h0 b4 "java/util/ArrayList") (ne_b0_b1 : b0 ≠ b1) (ne_b0_b2 : b0 ≠ b2) (ne_b0_b3 : b0 ≠ b3) (ne_b0_b4 : b0 ≠ b4) (ne_b1_b2 : b1 ≠ b2) (ne_b1_b3 : b1 ≠ b3) (ne_b1_b4 : b1 ≠ b4) (ne_b2_b3 : b2 ≠ b3) (ne_b2_b4 : b2 ≠ b4) (ne_b3_b4 : b3 ≠ b4)  :
    OMeets l Z mn7 prog_103_method_1_code 3 none [] ({ frames := 2, cells := 0, slots := 0, locals := 24 } : Room) #[(.ref b0), (.ref b1), (.ref b2)] h0 (fun v h L => v = none ∧ Fr Z.heap.size L ∧ Keep h0 h [b0] ∧ Fld Z h b0 "com/example/lichen/lichen/solver/TermSubsumption$Ways" "each" "Ljava/util/List;" (.ref b1) ∧ Fld Z h b0 "com/example/lichen/lichen/solver/TermSubsumption$Ways" "producers" "Ljava/util/List;" (.ref b2)) := by
  refine OMeets.of pn_mm11_29 #[.val (.ref b0), .val (.ref b1), .val (.ref b2)] (fun m => by first | rfl | (simp [entryFrame, mkF, argsToLocals, Value.category, maxLocals]; done)) ?_
  intro p e s m below meth c s₁ B X0 e0
  have F0 := OwnF.ext O0.2 FZ
  obtain ⟨S_D, ⟨kD, A_D⟩, S_high, T_cache⟩ := id F0
  refine s_aloadN B X0 (pc' := 1) d11_0 rfl rfl rfl ?_
  refine p_init B X0 (y := mn6) (pc' := 4) (argsL := []) (under := []) (W := 0) e0 rfl (tw70 hw) (tw71 hw) (tw74 hw) (tw73 hw) (by decide) (mm12_6 l Z a0 hw b0 w_D h0 FZ O0 ge_b0 E_b0 D_b0_each D_b0_producers ) (lenOf pd_0 rfl) rfl rfl (by decide) (by decide) rfl rfl (by decide) (by decide) rfl d11_1 rfl (fun T1 X1 e1 => ?_)
  show Go p e below _ (T1.setTop (mkF m 4 #[.val (.ref b0), .val (.ref b1), .val (.ref b2)] []))
  refine s_aloadN B X1 (pc' := 5) d11_4 rfl rfl rfl ?_
  refine s_aloadN B X1 (pc' := 6) d11_5 rfl rfl rfl ?_
  refine s_putF B X1 (pc' := 9) (ty := (.object "java/util/List")) e1 (host := "") (Or.inl (tw76 hw)) Via.refl D_b0_each E_b0 (Or.inr ⟨(tw77 hw), rfl, rfl⟩) (tw65 hw) (by decide) rfl rfl d11_6 rfl (fun T2 h2 X2 e2 W2 => ?_)
  have G2 := D_b0_each.same W2
  have N2 := Fr.snoc X2 (Fr.nil _) ge_b0
  have O2 := (O0).wr W2 ge_b0
  have F2 := OwnF.ext O2.2 FZ
  have K2 := ((Keep.refl h0 [b0])).wr W2 (Or.inl (List.mem_of_getElem? (i := 0) rfl))
  show Go p e below _ (T2.setTop (mkF m 9 #[.val (.ref b0), .val (.ref b1), .val (.ref b2)] []))
  refine s_aloadN B X2 (pc' := 10) d11_9 rfl rfl rfl ?_
  refine s_aloadN B X2 (pc' := 11) d11_10 rfl rfl rfl ?_
  have f4 := (D_b0_producers.other W2 (Or.inr (slot_ne (Or.inr (tw79 hw)) (Or.inr (tw77 hw)) (by decide) (t := (.object "java/util/List")) (t' := (.object "java/util/List")) (by decide) (by decide))))
  have f5 := (E_b0.wr W2)
  refine s_putF B X2 (pc' := 14) (ty := (.object "java/util/List")) e2 (host := "") (Or.inl (tw78 hw)) Via.refl f4 f5 (Or.inr ⟨(tw79 hw), rfl, rfl⟩) (tw65 hw) (by decide) rfl rfl d11_11 rfl (fun T3 h3 X3 e3 W3 => ?_)
  have G3 := f4.same W3
  have N3 := Fr.snoc X3 N2 ge_b0
  have O3 := (O2).wr W3 ge_b0
  have F3 := OwnF.ext O3.2 FZ
  have K3 := (K2).wr W3 (Or.inl (List.mem_of_getElem? (i := 0) rfl))
  show Go p e below _ (T3.setTop (mkF m 14 #[.val (.ref b0), .val (.ref b1), .val (.ref b2)] []))
  have f6 := (G2.other W3 (Or.inr (slot_ne (Or.inr (tw77 hw)) (Or.inr (tw79 hw)) (by decide) (t := (.object "java/util/List")) (t' := (.object "java/util/List")) (by decide) (by decide))))
  exact r_void B X3 rfl d11_14 (by rw [e3]; exact ⟨rfl, N3, K3, f6, G3⟩) (by decide) (by decide)

theorem pn_mm14_30 : plainFor mn8 = true := by first | exact plainFor_of_name (show plainName "java/util/ArrayList" = true by first | (simp [plainName, overriddenIn]; done) | decide +kernel) | decide +kernel
set_option maxRecDepth 65536 in
set_option maxHeartbeats 40000000 in
theorem mm14_30 (l : Launch) (Z : State) (a0 : Array Value) (hw : ∀ d ∈ tables_1, d.before a0 Z = true) (b0 : Addr) (b1 : Addr) (b2 : Addr) (k_b1 : ClassId) (w_D : Addr) (h0 : Heap) (FZ : OwnF Z Z.heap w_D) (O0 : Old Z Z.heap.size h0) (ge_b0 : Z.heap.size ≤ b0) (E_b0 : Exa Z h0 b0 "java/util/ArrayList") (D_b0_elementData : Fld Z h0 b0 "java/util/ArrayList" "elementData" "[Ljava/lang/Object;" (.ref b1)) (D_b0_modCount : Fld Z h0 b0 "java/util/AbstractList" "modCount" "I" (.int (1 : Int32))) (D_b0_size : Fld Z h0 b0 "java/util/ArrayList" "size" "I" (.int (1 : Int32))) (ge_b1 : Z.heap.size ≤ b1) (A_b1 : Ary Z h0 b1 k_b1 (.object "java/lang/Object") 10 (lst [(.ref b2), .null, .null, .null, .null, .null, .null, .null, .null, .null] .null)) (V_b1 : Ovr Z k_b1 "java/lang/Object") (ge_b2 : Z.heap.size ≤ b2) (E_b2 : Exa Z h0 b2 "java/util/ArrayList") (ne_b0_b1 : b0 ≠ b1) (ne_b0_b2 : b0 ≠ b2) (ne_b1_b2 : b1 ≠ b2)  :
    OMeets l Z mn8 jdk_38_method_9_code 1 (some .boolean) [] ({ frames := 0, cells := 0, slots := 0, locals := 0 } : Room) #[(.ref b0)] h0 (PureQ (some (.int (0 : Int32))) h0) := by
  refine OMeets.of pn_mm14_30 #[.val (.ref b0)] (fun m => by first | rfl | (simp [entryFrame, mkF, argsToLocals, Value.category, maxLocals]; done)) ?_
  intro p e s m below meth c s₁ B X0 e0
  have F0 := OwnF.ext O0.2 FZ
  obtain ⟨S_D, ⟨kD, A_D⟩, S_high, T_cache⟩ := id F0
  refine s_aloadN B X0 (pc' := 1) d14_0 rfl rfl rfl ?_
  refine s_getF B X0 (pc' := 4) e0 (host := "") (Or.inl (tw40 hw)) Via.refl D_b0_size d14_1 rfl (fun T1 X1 e1 => ?_)
  refine s_ifY B X1 (pc' := 11) d14_4 (by decide) (by decide) (by decide) ?_
  refine s_iconst B X1 (pc' := 12) (v := (0 : Int32)) d14_11 rfl rfl ?_
  exact r_nar B X1 (t := .boolean) (by simp) rfl d14_12 ⟨rfl, rfl, e1⟩ (by decide) (by decide)

theorem pn_mm13_30 : plainFor mn10 = true := plainFor_of_name (show plainName "com/example/lichen/lichen/solver/TermSubsumption$Ways" = true by first | (simp [plainName, overriddenIn]; done) | decide +kernel)
set_option maxRecDepth 65536 in
set_option maxHeartbeats 40000000 in
theorem mm13_30 (l : Launch) (Z : State) (a0 : Array Value) (hw : ∀ d ∈ tables_1, d.before a0 Z = true) (b0 : Addr) (b1 : Addr) (b2 : Addr) (b3 : Addr) (b4 : Addr) (k_b3 : ClassId) (w_D : Addr) (h0 : Heap) (FZ : OwnF Z Z.heap w_D) (O0 : Old Z Z.heap.size h0) (ge_b0 : Z.heap.size ≤ b0) (E_b0 : Exa Z h0 b0 "com/example/lichen/lichen/solver/TermSubsumption$Ways") (D_b0_each : Fld Z h0 b0 "com/example/lichen/lichen/solver/TermSubsumption$Ways" "each" "Ljava/util/List;" (.ref b1)) (D_b0_producers : Fld Z h0 b0 "com/example/lichen/lichen/solver/TermSubsumption$Ways" "producers" "Ljava/util/List;" (.ref b2)) (ge_b1 : Z.heap.size ≤ b1) (E_b1 : Exa Z h0 b1 "java/util/ArrayList") (D_b1_elementData : Fld Z h0 b1 "java/util/ArrayList" "elementData" "[Ljava/lang/Object;" (.ref b3)) (D_b1_modCount : Fld Z h0 b1 "java/util/AbstractList" "modCount" "I" (.int (1 : Int32))) (D_b1_size : Fld Z h0 b1 "java/util/ArrayList" "size" "I" (.int (1 : Int32))) (ge_b2 : Z.heap.size ≤ b2) (E_b2 : Exa Z h0 b2 "java/util/ArrayList") (D_b2_elementData : Fld Z h0 b2 "java/util/ArrayList" "elementData" "[Ljava/lang/Object;" (.ref w_D)) (D_b2_modCount : Fld Z h0 b2 "java/util/AbstractList" "modCount" "I" (.int (0 : Int32))) (D_b2_size : Fld Z h0 b2 "java/util/ArrayList" "size" "I" (.int (0 : Int32))) (ge_b3 : Z.heap.size ≤ b3) (A_b3 : Ary Z h0 b3 k_b3 (.object "java/lang/Object") 10 (lst [(.ref b4), .null, .null, .null, .null, .null, .null, .null, .null, .null] .null)) (V_b3 : Ovr Z k_b3 "java/lang/Object") (ge_b4 : Z.heap.size ≤ b4) (E_b4 : Exa Z h0 b4 "java/util/ArrayList") (ne_b0_b1 : b0 ≠ b1) (ne_b0_b2 : b0 ≠ b2) (ne_b0_b3 : b0 ≠ b3) (ne_b0_b4 : b0 ≠ b4) (ne_b1_b2 : b1 ≠ b2) (ne_b1_b3 : b1 ≠ b3) (ne_b1_b4 : b1 ≠ b4) (ne_b2_b3 : b2 ≠ b3) (ne_b2_b4 : b2 ≠ b4) (ne_b3_b4 : b3 ≠ b4)  :
    OMeets l Z mn10 prog_103_method_3_code 1 (some .boolean) [] ({ frames := 1, cells := 0, slots := 0, locals := 12 } : Room) #[(.ref b0)] h0 (PureQ (some (.int (0 : Int32))) h0) := by
  refine OMeets.of pn_mm13_30 #[.val (.ref b0)] (fun m => by first | rfl | (simp [entryFrame, mkF, argsToLocals, Value.category, maxLocals]; done)) ?_
  intro p e s m below meth c s₁ B X0 e0
  have F0 := OwnF.ext O0.2 FZ
  obtain ⟨S_D, ⟨kD, A_D⟩, S_high, T_cache⟩ := id F0
  refine s_aloadN B X0 (pc' := 1) d13_0 rfl rfl rfl ?_
  refine s_getF B X0 (pc' := 4) e0 (host := "") (Or.inl (tw76 hw)) Via.refl D_b0_each d13_1 rfl (fun T1 X1 e1 => ?_)
  refine p_iface B X1 (y := mn9) (z := mn8) (pc' := 9) (argsL := []) (under := []) (W := 0) e1 (tw85 hw) (tw86 hw) (tw87 hw) (tw88 hw) (tw89 hw) (tw90 hw) (tw91 hw) (tw92 hw) (tw93 hw) (tw2 hw) (by decide) (mm14_30 l Z a0 hw b1 b3 b4 k_b3 w_D h0 FZ O0 ge_b1 E_b1 D_b1_elementData D_b1_modCount D_b1_size ge_b3 A_b3 V_b3 ge_b4 E_b4 ne_b1_b3 ne_b1_b4 ne_b3_b4 ) E_b1 (lenOf pd_3 rfl) rfl rfl (by decide) (by decide) rfl rfl (by decide) (by decide) rfl d13_4 rfl (fun T2 X2 e2 => ?_)
  show Go p e below _ (T2.setTop (mkF m 9 #[.val (.ref b0)] [(.int (0 : Int32))]))
  refine s_ifY B X2 (pc' := 28) d13_9 (by decide) (by decide) (by decide) ?_
  refine s_iconst B X2 (pc' := 29) (v := (0 : Int32)) d13_28 rfl rfl ?_
  exact r_nar B X2 (t := .boolean) (by simp) rfl d13_29 ⟨rfl, rfl, e2⟩ (by decide) (by decide)

theorem pn_mm11_32 : plainFor mn7 = true := plainFor_of_name (show plainName "com/example/lichen/lichen/solver/TermSubsumption$Ways" = true by first | (simp [plainName, overriddenIn]; done) | decide +kernel)
set_option maxRecDepth 65536 in
set_option maxHeartbeats 40000000 in
theorem mm11_32 (l : Launch) (Z : State) (a0 : Array Value) (hw : ∀ d ∈ tables_1, d.before a0 Z = true) (b0 : Addr) (b1 : Addr) (b2 : Addr) (b3 : Addr) (b4 : Addr) (b5 : Addr) (b6 : Addr) (k_b3 : ClassId) (k_b4 : ClassId) (w_D : Addr) (h0 : Heap) (FZ : OwnF Z Z.heap w_D) (O0 : Old Z Z.heap.size h0) (ge_b0 : Z.heap.size ≤ b0) (E_b0 : Exa Z h0 b0 "com/example/lichen/lichen/solver/TermSubsumption$Ways") (D_b0_each : Fld Z h0 b0 "com/example/lichen/lichen/solver/TermSubsumption$Ways" "each" "Ljava/util/List;" .null) (D_b0_producers : Fld Z h0 b0 "com/example/lichen/lichen/solver/TermSubsumption$Ways" "producers" "Ljava/util/List;" .null) (ge_b1 : Z.heap.size ≤ b1) (E_b1 : Exa Z h0 b1 "java/util/ArrayList") (D_b1_elementData : Fld Z h0 b1 "java/util/ArrayList" "elementData" "[Ljava/lang/Object;" (.ref b3)) (D_b1_modCount : Fld Z h0 b1 "java/util/AbstractList" "modCount" "I" (.int (1 : Int32))) (D_b1_size : Fld Z h0 b1 "java/util/ArrayList" "size" "I" (.int (1 : Int32))) (ge_b2 : Z.heap.size ≤ b2) (E_b2 : Exa Z h0 b2 "java/util/ArrayList") (D_b2_elementData : Fld Z h0 b2 "java/util/ArrayList" "elementData" "[Ljava/lang/Object;" (.ref b4)) (D_b2_modCount : Fld Z h0 b2 "java/util/AbstractList" "modCount" "I" (.int (1 : Int32))) (D_b2_size : Fld Z h0 b2 "java/util/ArrayList" "size" "I" (.int (1 : Int32))) (ge_b3 : Z.heap.size ≤ b3) (A_b3 : Ary Z h0 b3 k_b3 (.object "java/lang/Object") 10 (lst [(.ref b5), .null, .null, .null, .null, .null, .null, .null, .null, .null] .null)) (V_b3 : Ovr Z k_b3 "java/lang/Object") (ge_b4 : Z.heap.size ≤ b4) (A_b4 : Ary Z h0 b4 k_b4 (.object "java/lang/Object") 10 (lst [(.ref b6), .null, .null, .null, .null, .null, .null, .null, .null, .null] .null)) (V_b4 : Ovr Z k_b4 "java/lang/Object") (ge_b5 : Z.heap.size ≤ b5) (E_b5 : Exa Z h0 b5 "java/util/ArrayList") (E_b6 : Exa Z h0 b6 "java/lang/Integer") (ne_b0_b1 : b0 ≠ b1) (ne_b0_b2 : b0 ≠ b2) (ne_b0_b3 : b0 ≠ b3) (ne_b0_b4 : b0 ≠ b4) (ne_b0_b5 : b0 ≠ b5) (ne_b1_b2 : b1 ≠ b2) (ne_b1_b3 : b1 ≠ b3) (ne_b1_b4 : b1 ≠ b4) (ne_b1_b5 : b1 ≠ b5) (ne_b2_b3 : b2 ≠ b3) (ne_b2_b4 : b2 ≠ b4) (ne_b2_b5 : b2 ≠ b5) (ne_b3_b4 : b3 ≠ b4) (ne_b3_b5 : b3 ≠ b5) (ne_b4_b5 : b4 ≠ b5)  :
    OMeets l Z mn7 prog_103_method_1_code 3 none [] ({ frames := 2, cells := 0, slots := 0, locals := 24 } : Room) #[(.ref b0), (.ref b1), (.ref b2)] h0 (fun v h L => v = none ∧ Fr Z.heap.size L ∧ Keep h0 h [b0] ∧ Fld Z h b0 "com/example/lichen/lichen/solver/TermSubsumption$Ways" "each" "Ljava/util/List;" (.ref b1) ∧ Fld Z h b0 "com/example/lichen/lichen/solver/TermSubsumption$Ways" "producers" "Ljava/util/List;" (.ref b2)) := by
  refine OMeets.of pn_mm11_32 #[.val (.ref b0), .val (.ref b1), .val (.ref b2)] (fun m => by first | rfl | (simp [entryFrame, mkF, argsToLocals, Value.category, maxLocals]; done)) ?_
  intro p e s m below meth c s₁ B X0 e0
  have F0 := OwnF.ext O0.2 FZ
  obtain ⟨S_D, ⟨kD, A_D⟩, S_high, T_cache⟩ := id F0
  refine s_aloadN B X0 (pc' := 1) d11_0 rfl rfl rfl ?_
  refine p_init B X0 (y := mn6) (pc' := 4) (argsL := []) (under := []) (W := 0) e0 rfl (tw70 hw) (tw71 hw) (tw74 hw) (tw73 hw) (by decide) (mm12_6 l Z a0 hw b0 w_D h0 FZ O0 ge_b0 E_b0 D_b0_each D_b0_producers ) (lenOf pd_0 rfl) rfl rfl (by decide) (by decide) rfl rfl (by decide) (by decide) rfl d11_1 rfl (fun T1 X1 e1 => ?_)
  show Go p e below _ (T1.setTop (mkF m 4 #[.val (.ref b0), .val (.ref b1), .val (.ref b2)] []))
  refine s_aloadN B X1 (pc' := 5) d11_4 rfl rfl rfl ?_
  refine s_aloadN B X1 (pc' := 6) d11_5 rfl rfl rfl ?_
  refine s_putF B X1 (pc' := 9) (ty := (.object "java/util/List")) e1 (host := "") (Or.inl (tw76 hw)) Via.refl D_b0_each E_b0 (Or.inr ⟨(tw77 hw), rfl, rfl⟩) (tw65 hw) (by decide) rfl rfl d11_6 rfl (fun T2 h2 X2 e2 W2 => ?_)
  have G2 := D_b0_each.same W2
  have N2 := Fr.snoc X2 (Fr.nil _) ge_b0
  have O2 := (O0).wr W2 ge_b0
  have F2 := OwnF.ext O2.2 FZ
  have K2 := ((Keep.refl h0 [b0])).wr W2 (Or.inl (List.mem_of_getElem? (i := 0) rfl))
  show Go p e below _ (T2.setTop (mkF m 9 #[.val (.ref b0), .val (.ref b1), .val (.ref b2)] []))
  refine s_aloadN B X2 (pc' := 10) d11_9 rfl rfl rfl ?_
  refine s_aloadN B X2 (pc' := 11) d11_10 rfl rfl rfl ?_
  have f4 := (D_b0_producers.other W2 (Or.inr (slot_ne (Or.inr (tw79 hw)) (Or.inr (tw77 hw)) (by decide) (t := (.object "java/util/List")) (t' := (.object "java/util/List")) (by decide) (by decide))))
  have f5 := (E_b0.wr W2)
  refine s_putF B X2 (pc' := 14) (ty := (.object "java/util/List")) e2 (host := "") (Or.inl (tw78 hw)) Via.refl f4 f5 (Or.inr ⟨(tw79 hw), rfl, rfl⟩) (tw65 hw) (by decide) rfl rfl d11_11 rfl (fun T3 h3 X3 e3 W3 => ?_)
  have G3 := f4.same W3
  have N3 := Fr.snoc X3 N2 ge_b0
  have O3 := (O2).wr W3 ge_b0
  have F3 := OwnF.ext O3.2 FZ
  have K3 := (K2).wr W3 (Or.inl (List.mem_of_getElem? (i := 0) rfl))
  show Go p e below _ (T3.setTop (mkF m 14 #[.val (.ref b0), .val (.ref b1), .val (.ref b2)] []))
  have f6 := (G2.other W3 (Or.inr (slot_ne (Or.inr (tw77 hw)) (Or.inr (tw79 hw)) (by decide) (t := (.object "java/util/List")) (t' := (.object "java/util/List")) (by decide) (by decide))))
  exact r_void B X3 rfl d11_14 (by rw [e3]; exact ⟨rfl, N3, K3, f6, G3⟩) (by decide) (by decide)

theorem pn_mm13_33 : plainFor mn10 = true := plainFor_of_name (show plainName "com/example/lichen/lichen/solver/TermSubsumption$Ways" = true by first | (simp [plainName, overriddenIn]; done) | decide +kernel)
set_option maxRecDepth 65536 in
set_option maxHeartbeats 40000000 in
theorem mm13_33 (l : Launch) (Z : State) (a0 : Array Value) (hw : ∀ d ∈ tables_1, d.before a0 Z = true) (b0 : Addr) (b1 : Addr) (b2 : Addr) (b3 : Addr) (b4 : Addr) (b5 : Addr) (b6 : Addr) (k_b3 : ClassId) (k_b4 : ClassId) (w_D : Addr) (h0 : Heap) (FZ : OwnF Z Z.heap w_D) (O0 : Old Z Z.heap.size h0) (ge_b0 : Z.heap.size ≤ b0) (E_b0 : Exa Z h0 b0 "com/example/lichen/lichen/solver/TermSubsumption$Ways") (D_b0_each : Fld Z h0 b0 "com/example/lichen/lichen/solver/TermSubsumption$Ways" "each" "Ljava/util/List;" (.ref b1)) (D_b0_producers : Fld Z h0 b0 "com/example/lichen/lichen/solver/TermSubsumption$Ways" "producers" "Ljava/util/List;" (.ref b2)) (ge_b1 : Z.heap.size ≤ b1) (E_b1 : Exa Z h0 b1 "java/util/ArrayList") (D_b1_elementData : Fld Z h0 b1 "java/util/ArrayList" "elementData" "[Ljava/lang/Object;" (.ref b3)) (D_b1_modCount : Fld Z h0 b1 "java/util/AbstractList" "modCount" "I" (.int (1 : Int32))) (D_b1_size : Fld Z h0 b1 "java/util/ArrayList" "size" "I" (.int (1 : Int32))) (ge_b2 : Z.heap.size ≤ b2) (E_b2 : Exa Z h0 b2 "java/util/ArrayList") (D_b2_elementData : Fld Z h0 b2 "java/util/ArrayList" "elementData" "[Ljava/lang/Object;" (.ref b4)) (D_b2_modCount : Fld Z h0 b2 "java/util/AbstractList" "modCount" "I" (.int (1 : Int32))) (D_b2_size : Fld Z h0 b2 "java/util/ArrayList" "size" "I" (.int (1 : Int32))) (ge_b3 : Z.heap.size ≤ b3) (A_b3 : Ary Z h0 b3 k_b3 (.object "java/lang/Object") 10 (lst [(.ref b5), .null, .null, .null, .null, .null, .null, .null, .null, .null] .null)) (V_b3 : Ovr Z k_b3 "java/lang/Object") (ge_b4 : Z.heap.size ≤ b4) (A_b4 : Ary Z h0 b4 k_b4 (.object "java/lang/Object") 10 (lst [(.ref b6), .null, .null, .null, .null, .null, .null, .null, .null, .null] .null)) (V_b4 : Ovr Z k_b4 "java/lang/Object") (ge_b5 : Z.heap.size ≤ b5) (E_b5 : Exa Z h0 b5 "java/util/ArrayList") (E_b6 : Exa Z h0 b6 "java/lang/Integer") (ne_b0_b1 : b0 ≠ b1) (ne_b0_b2 : b0 ≠ b2) (ne_b0_b3 : b0 ≠ b3) (ne_b0_b4 : b0 ≠ b4) (ne_b0_b5 : b0 ≠ b5) (ne_b1_b2 : b1 ≠ b2) (ne_b1_b3 : b1 ≠ b3) (ne_b1_b4 : b1 ≠ b4) (ne_b1_b5 : b1 ≠ b5) (ne_b2_b3 : b2 ≠ b3) (ne_b2_b4 : b2 ≠ b4) (ne_b2_b5 : b2 ≠ b5) (ne_b3_b4 : b3 ≠ b4) (ne_b3_b5 : b3 ≠ b5) (ne_b4_b5 : b4 ≠ b5)  :
    OMeets l Z mn10 prog_103_method_3_code 1 (some .boolean) [] ({ frames := 1, cells := 0, slots := 0, locals := 12 } : Room) #[(.ref b0)] h0 (PureQ (some (.int (0 : Int32))) h0) := by
  refine OMeets.of pn_mm13_33 #[.val (.ref b0)] (fun m => by first | rfl | (simp [entryFrame, mkF, argsToLocals, Value.category, maxLocals]; done)) ?_
  intro p e s m below meth c s₁ B X0 e0
  have F0 := OwnF.ext O0.2 FZ
  obtain ⟨S_D, ⟨kD, A_D⟩, S_high, T_cache⟩ := id F0
  refine s_aloadN B X0 (pc' := 1) d13_0 rfl rfl rfl ?_
  refine s_getF B X0 (pc' := 4) e0 (host := "") (Or.inl (tw76 hw)) Via.refl D_b0_each d13_1 rfl (fun T1 X1 e1 => ?_)
  refine p_iface B X1 (y := mn9) (z := mn8) (pc' := 9) (argsL := []) (under := []) (W := 0) e1 (tw85 hw) (tw86 hw) (tw87 hw) (tw88 hw) (tw89 hw) (tw90 hw) (tw91 hw) (tw92 hw) (tw93 hw) (tw2 hw) (by decide) (mm14_30 l Z a0 hw b1 b3 b5 k_b3 w_D h0 FZ O0 ge_b1 E_b1 D_b1_elementData D_b1_modCount D_b1_size ge_b3 A_b3 V_b3 ge_b5 E_b5 ne_b1_b3 ne_b1_b5 ne_b3_b5 ) E_b1 (lenOf pd_3 rfl) rfl rfl (by decide) (by decide) rfl rfl (by decide) (by decide) rfl d13_4 rfl (fun T2 X2 e2 => ?_)
  show Go p e below _ (T2.setTop (mkF m 9 #[.val (.ref b0)] [(.int (0 : Int32))]))
  refine s_ifY B X2 (pc' := 28) d13_9 (by decide) (by decide) (by decide) ?_
  refine s_iconst B X2 (pc' := 29) (v := (0 : Int32)) d13_28 rfl rfl ?_
  exact r_nar B X2 (t := .boolean) (by simp) rfl d13_29 ⟨rfl, rfl, e2⟩ (by decide) (by decide)

theorem pn_mm11_34 : plainFor mn7 = true := plainFor_of_name (show plainName "com/example/lichen/lichen/solver/TermSubsumption$Ways" = true by first | (simp [plainName, overriddenIn]; done) | decide +kernel)
set_option maxRecDepth 65536 in
set_option maxHeartbeats 40000000 in
theorem mm11_34 (l : Launch) (Z : State) (a0 : Array Value) (hw : ∀ d ∈ tables_1, d.before a0 Z = true) (b0 : Addr) (b1 : Addr) (b2 : Addr) (b3 : Addr) (b4 : Addr) (b5 : Addr) (b6 : Addr) (b7 : Addr) (k_b3 : ClassId) (k_b4 : ClassId) (w_D : Addr) (h0 : Heap) (FZ : OwnF Z Z.heap w_D) (O0 : Old Z Z.heap.size h0) (ge_b0 : Z.heap.size ≤ b0) (E_b0 : Exa Z h0 b0 "com/example/lichen/lichen/solver/TermSubsumption$Ways") (D_b0_each : Fld Z h0 b0 "com/example/lichen/lichen/solver/TermSubsumption$Ways" "each" "Ljava/util/List;" .null) (D_b0_producers : Fld Z h0 b0 "com/example/lichen/lichen/solver/TermSubsumption$Ways" "producers" "Ljava/util/List;" .null) (ge_b1 : Z.heap.size ≤ b1) (E_b1 : Exa Z h0 b1 "java/util/ArrayList") (D_b1_elementData : Fld Z h0 b1 "java/util/ArrayList" "elementData" "[Ljava/lang/Object;" (.ref b3)) (D_b1_modCount : Fld Z h0 b1 "java/util/AbstractList" "modCount" "I" (.int (1 : Int32))) (D_b1_size : Fld Z h0 b1 "java/util/ArrayList" "size" "I" (.int (1 : Int32))) (ge_b2 : Z.heap.size ≤ b2) (E_b2 : Exa Z h0 b2 "java/util/ArrayList") (D_b2_elementData : Fld Z h0 b2 "java/util/ArrayList" "elementData" "[Ljava/lang/Object;" (.ref b4)) (D_b2_modCount : Fld Z h0 b2 "java/util/AbstractList" "modCount" "I" (.int (2 : Int32))) (D_b2_size : Fld Z h0 b2 "java/util/ArrayList" "size" "I" (.int (2 : Int32))) (ge_b3 : Z.heap.size ≤ b3) (A_b3 : Ary Z h0 b3 k_b3 (.object "java/lang/Object") 10 (lst [(.ref b5), .null, .null, .null, .null, .null, .null, .null, .null, .null] .null)) (V_b3 : Ovr Z k_b3 "java/lang/Object") (ge_b4 : Z.heap.size ≤ b4) (A_b4 : Ary Z h0 b4 k_b4 (.object "java/lang/Object") 10 (lst [(.ref b6), (.ref b7), .null, .null, .null, .null, .null, .null, .null, .null] .null)) (V_b4 : Ovr Z k_b4 "java/lang/Object") (ge_b5 : Z.heap.size ≤ b5) (E_b5 : Exa Z h0 b5 "java/util/ArrayList") (E_b6 : Exa Z h0 b6 "java/lang/Integer") (E_b7 : Exa Z h0 b7 "java/lang/Integer") (ne_b0_b1 : b0 ≠ b1) (ne_b0_b2 : b0 ≠ b2) (ne_b0_b3 : b0 ≠ b3) (ne_b0_b4 : b0 ≠ b4) (ne_b0_b5 : b0 ≠ b5) (ne_b1_b2 : b1 ≠ b2) (ne_b1_b3 : b1 ≠ b3) (ne_b1_b4 : b1 ≠ b4) (ne_b1_b5 : b1 ≠ b5) (ne_b2_b3 : b2 ≠ b3) (ne_b2_b4 : b2 ≠ b4) (ne_b2_b5 : b2 ≠ b5) (ne_b3_b4 : b3 ≠ b4) (ne_b3_b5 : b3 ≠ b5) (ne_b4_b5 : b4 ≠ b5)  :
    OMeets l Z mn7 prog_103_method_1_code 3 none [] ({ frames := 2, cells := 0, slots := 0, locals := 24 } : Room) #[(.ref b0), (.ref b1), (.ref b2)] h0 (fun v h L => v = none ∧ Fr Z.heap.size L ∧ Keep h0 h [b0] ∧ Fld Z h b0 "com/example/lichen/lichen/solver/TermSubsumption$Ways" "each" "Ljava/util/List;" (.ref b1) ∧ Fld Z h b0 "com/example/lichen/lichen/solver/TermSubsumption$Ways" "producers" "Ljava/util/List;" (.ref b2)) := by
  refine OMeets.of pn_mm11_34 #[.val (.ref b0), .val (.ref b1), .val (.ref b2)] (fun m => by first | rfl | (simp [entryFrame, mkF, argsToLocals, Value.category, maxLocals]; done)) ?_
  intro p e s m below meth c s₁ B X0 e0
  have F0 := OwnF.ext O0.2 FZ
  obtain ⟨S_D, ⟨kD, A_D⟩, S_high, T_cache⟩ := id F0
  refine s_aloadN B X0 (pc' := 1) d11_0 rfl rfl rfl ?_
  refine p_init B X0 (y := mn6) (pc' := 4) (argsL := []) (under := []) (W := 0) e0 rfl (tw70 hw) (tw71 hw) (tw74 hw) (tw73 hw) (by decide) (mm12_6 l Z a0 hw b0 w_D h0 FZ O0 ge_b0 E_b0 D_b0_each D_b0_producers ) (lenOf pd_0 rfl) rfl rfl (by decide) (by decide) rfl rfl (by decide) (by decide) rfl d11_1 rfl (fun T1 X1 e1 => ?_)
  show Go p e below _ (T1.setTop (mkF m 4 #[.val (.ref b0), .val (.ref b1), .val (.ref b2)] []))
  refine s_aloadN B X1 (pc' := 5) d11_4 rfl rfl rfl ?_
  refine s_aloadN B X1 (pc' := 6) d11_5 rfl rfl rfl ?_
  refine s_putF B X1 (pc' := 9) (ty := (.object "java/util/List")) e1 (host := "") (Or.inl (tw76 hw)) Via.refl D_b0_each E_b0 (Or.inr ⟨(tw77 hw), rfl, rfl⟩) (tw65 hw) (by decide) rfl rfl d11_6 rfl (fun T2 h2 X2 e2 W2 => ?_)
  have G2 := D_b0_each.same W2
  have N2 := Fr.snoc X2 (Fr.nil _) ge_b0
  have O2 := (O0).wr W2 ge_b0
  have F2 := OwnF.ext O2.2 FZ
  have K2 := ((Keep.refl h0 [b0])).wr W2 (Or.inl (List.mem_of_getElem? (i := 0) rfl))
  show Go p e below _ (T2.setTop (mkF m 9 #[.val (.ref b0), .val (.ref b1), .val (.ref b2)] []))
  refine s_aloadN B X2 (pc' := 10) d11_9 rfl rfl rfl ?_
  refine s_aloadN B X2 (pc' := 11) d11_10 rfl rfl rfl ?_
  have f4 := (D_b0_producers.other W2 (Or.inr (slot_ne (Or.inr (tw79 hw)) (Or.inr (tw77 hw)) (by decide) (t := (.object "java/util/List")) (t' := (.object "java/util/List")) (by decide) (by decide))))
  have f5 := (E_b0.wr W2)
  refine s_putF B X2 (pc' := 14) (ty := (.object "java/util/List")) e2 (host := "") (Or.inl (tw78 hw)) Via.refl f4 f5 (Or.inr ⟨(tw79 hw), rfl, rfl⟩) (tw65 hw) (by decide) rfl rfl d11_11 rfl (fun T3 h3 X3 e3 W3 => ?_)
  have G3 := f4.same W3
  have N3 := Fr.snoc X3 N2 ge_b0
  have O3 := (O2).wr W3 ge_b0
  have F3 := OwnF.ext O3.2 FZ
  have K3 := (K2).wr W3 (Or.inl (List.mem_of_getElem? (i := 0) rfl))
  show Go p e below _ (T3.setTop (mkF m 14 #[.val (.ref b0), .val (.ref b1), .val (.ref b2)] []))
  have f6 := (G2.other W3 (Or.inr (slot_ne (Or.inr (tw77 hw)) (Or.inr (tw79 hw)) (by decide) (t := (.object "java/util/List")) (t' := (.object "java/util/List")) (by decide) (by decide))))
  exact r_void B X3 rfl d11_14 (by rw [e3]; exact ⟨rfl, N3, K3, f6, G3⟩) (by decide) (by decide)

theorem pn_mm13_35 : plainFor mn10 = true := plainFor_of_name (show plainName "com/example/lichen/lichen/solver/TermSubsumption$Ways" = true by first | (simp [plainName, overriddenIn]; done) | decide +kernel)
set_option maxRecDepth 65536 in
set_option maxHeartbeats 40000000 in
theorem mm13_35 (l : Launch) (Z : State) (a0 : Array Value) (hw : ∀ d ∈ tables_1, d.before a0 Z = true) (b0 : Addr) (b1 : Addr) (b2 : Addr) (b3 : Addr) (b4 : Addr) (b5 : Addr) (b6 : Addr) (b7 : Addr) (k_b3 : ClassId) (k_b4 : ClassId) (w_D : Addr) (h0 : Heap) (FZ : OwnF Z Z.heap w_D) (O0 : Old Z Z.heap.size h0) (ge_b0 : Z.heap.size ≤ b0) (E_b0 : Exa Z h0 b0 "com/example/lichen/lichen/solver/TermSubsumption$Ways") (D_b0_each : Fld Z h0 b0 "com/example/lichen/lichen/solver/TermSubsumption$Ways" "each" "Ljava/util/List;" (.ref b1)) (D_b0_producers : Fld Z h0 b0 "com/example/lichen/lichen/solver/TermSubsumption$Ways" "producers" "Ljava/util/List;" (.ref b2)) (ge_b1 : Z.heap.size ≤ b1) (E_b1 : Exa Z h0 b1 "java/util/ArrayList") (D_b1_elementData : Fld Z h0 b1 "java/util/ArrayList" "elementData" "[Ljava/lang/Object;" (.ref b3)) (D_b1_modCount : Fld Z h0 b1 "java/util/AbstractList" "modCount" "I" (.int (1 : Int32))) (D_b1_size : Fld Z h0 b1 "java/util/ArrayList" "size" "I" (.int (1 : Int32))) (ge_b2 : Z.heap.size ≤ b2) (E_b2 : Exa Z h0 b2 "java/util/ArrayList") (D_b2_elementData : Fld Z h0 b2 "java/util/ArrayList" "elementData" "[Ljava/lang/Object;" (.ref b4)) (D_b2_modCount : Fld Z h0 b2 "java/util/AbstractList" "modCount" "I" (.int (2 : Int32))) (D_b2_size : Fld Z h0 b2 "java/util/ArrayList" "size" "I" (.int (2 : Int32))) (ge_b3 : Z.heap.size ≤ b3) (A_b3 : Ary Z h0 b3 k_b3 (.object "java/lang/Object") 10 (lst [(.ref b5), .null, .null, .null, .null, .null, .null, .null, .null, .null] .null)) (V_b3 : Ovr Z k_b3 "java/lang/Object") (ge_b4 : Z.heap.size ≤ b4) (A_b4 : Ary Z h0 b4 k_b4 (.object "java/lang/Object") 10 (lst [(.ref b6), (.ref b7), .null, .null, .null, .null, .null, .null, .null, .null] .null)) (V_b4 : Ovr Z k_b4 "java/lang/Object") (ge_b5 : Z.heap.size ≤ b5) (E_b5 : Exa Z h0 b5 "java/util/ArrayList") (E_b6 : Exa Z h0 b6 "java/lang/Integer") (E_b7 : Exa Z h0 b7 "java/lang/Integer") (ne_b0_b1 : b0 ≠ b1) (ne_b0_b2 : b0 ≠ b2) (ne_b0_b3 : b0 ≠ b3) (ne_b0_b4 : b0 ≠ b4) (ne_b0_b5 : b0 ≠ b5) (ne_b1_b2 : b1 ≠ b2) (ne_b1_b3 : b1 ≠ b3) (ne_b1_b4 : b1 ≠ b4) (ne_b1_b5 : b1 ≠ b5) (ne_b2_b3 : b2 ≠ b3) (ne_b2_b4 : b2 ≠ b4) (ne_b2_b5 : b2 ≠ b5) (ne_b3_b4 : b3 ≠ b4) (ne_b3_b5 : b3 ≠ b5) (ne_b4_b5 : b4 ≠ b5)  :
    OMeets l Z mn10 prog_103_method_3_code 1 (some .boolean) [] ({ frames := 1, cells := 0, slots := 0, locals := 12 } : Room) #[(.ref b0)] h0 (PureQ (some (.int (0 : Int32))) h0) := by
  refine OMeets.of pn_mm13_35 #[.val (.ref b0)] (fun m => by first | rfl | (simp [entryFrame, mkF, argsToLocals, Value.category, maxLocals]; done)) ?_
  intro p e s m below meth c s₁ B X0 e0
  have F0 := OwnF.ext O0.2 FZ
  obtain ⟨S_D, ⟨kD, A_D⟩, S_high, T_cache⟩ := id F0
  refine s_aloadN B X0 (pc' := 1) d13_0 rfl rfl rfl ?_
  refine s_getF B X0 (pc' := 4) e0 (host := "") (Or.inl (tw76 hw)) Via.refl D_b0_each d13_1 rfl (fun T1 X1 e1 => ?_)
  refine p_iface B X1 (y := mn9) (z := mn8) (pc' := 9) (argsL := []) (under := []) (W := 0) e1 (tw85 hw) (tw86 hw) (tw87 hw) (tw88 hw) (tw89 hw) (tw90 hw) (tw91 hw) (tw92 hw) (tw93 hw) (tw2 hw) (by decide) (mm14_30 l Z a0 hw b1 b3 b5 k_b3 w_D h0 FZ O0 ge_b1 E_b1 D_b1_elementData D_b1_modCount D_b1_size ge_b3 A_b3 V_b3 ge_b5 E_b5 ne_b1_b3 ne_b1_b5 ne_b3_b5 ) E_b1 (lenOf pd_3 rfl) rfl rfl (by decide) (by decide) rfl rfl (by decide) (by decide) rfl d13_4 rfl (fun T2 X2 e2 => ?_)
  show Go p e below _ (T2.setTop (mkF m 9 #[.val (.ref b0)] [(.int (0 : Int32))]))
  refine s_ifY B X2 (pc' := 28) d13_9 (by decide) (by decide) (by decide) ?_
  refine s_iconst B X2 (pc' := 29) (v := (0 : Int32)) d13_28 rfl rfl ?_
  exact r_nar B X2 (t := .boolean) (by simp) rfl d13_29 ⟨rfl, rfl, e2⟩ (by decide) (by decide)

theorem pn_mm11_36 : plainFor mn7 = true := plainFor_of_name (show plainName "com/example/lichen/lichen/solver/TermSubsumption$Ways" = true by first | (simp [plainName, overriddenIn]; done) | decide +kernel)
set_option maxRecDepth 65536 in
set_option maxHeartbeats 40000000 in
theorem mm11_36 (l : Launch) (Z : State) (a0 : Array Value) (hw : ∀ d ∈ tables_1, d.before a0 Z = true) (b0 : Addr) (b1 : Addr) (b2 : Addr) (b3 : Addr) (b4 : Addr) (b5 : Addr) (b6 : Addr) (b7 : Addr) (b8 : Addr) (k_b3 : ClassId) (k_b4 : ClassId) (w_D : Addr) (h0 : Heap) (FZ : OwnF Z Z.heap w_D) (O0 : Old Z Z.heap.size h0) (ge_b0 : Z.heap.size ≤ b0) (E_b0 : Exa Z h0 b0 "com/example/lichen/lichen/solver/TermSubsumption$Ways") (D_b0_each : Fld Z h0 b0 "com/example/lichen/lichen/solver/TermSubsumption$Ways" "each" "Ljava/util/List;" .null) (D_b0_producers : Fld Z h0 b0 "com/example/lichen/lichen/solver/TermSubsumption$Ways" "producers" "Ljava/util/List;" .null) (ge_b1 : Z.heap.size ≤ b1) (E_b1 : Exa Z h0 b1 "java/util/ArrayList") (D_b1_elementData : Fld Z h0 b1 "java/util/ArrayList" "elementData" "[Ljava/lang/Object;" (.ref b3)) (D_b1_modCount : Fld Z h0 b1 "java/util/AbstractList" "modCount" "I" (.int (1 : Int32))) (D_b1_size : Fld Z h0 b1 "java/util/ArrayList" "size" "I" (.int (1 : Int32))) (ge_b2 : Z.heap.size ≤ b2) (E_b2 : Exa Z h0 b2 "java/util/ArrayList") (D_b2_elementData : Fld Z h0 b2 "java/util/ArrayList" "elementData" "[Ljava/lang/Object;" (.ref b4)) (D_b2_modCount : Fld Z h0 b2 "java/util/AbstractList" "modCount" "I" (.int (3 : Int32))) (D_b2_size : Fld Z h0 b2 "java/util/ArrayList" "size" "I" (.int (3 : Int32))) (ge_b3 : Z.heap.size ≤ b3) (A_b3 : Ary Z h0 b3 k_b3 (.object "java/lang/Object") 10 (lst [(.ref b5), .null, .null, .null, .null, .null, .null, .null, .null, .null] .null)) (V_b3 : Ovr Z k_b3 "java/lang/Object") (ge_b4 : Z.heap.size ≤ b4) (A_b4 : Ary Z h0 b4 k_b4 (.object "java/lang/Object") 10 (lst [(.ref b6), (.ref b7), (.ref b8), .null, .null, .null, .null, .null, .null, .null] .null)) (V_b4 : Ovr Z k_b4 "java/lang/Object") (ge_b5 : Z.heap.size ≤ b5) (E_b5 : Exa Z h0 b5 "java/util/ArrayList") (E_b6 : Exa Z h0 b6 "java/lang/Integer") (E_b7 : Exa Z h0 b7 "java/lang/Integer") (E_b8 : Exa Z h0 b8 "java/lang/Integer") (ne_b0_b1 : b0 ≠ b1) (ne_b0_b2 : b0 ≠ b2) (ne_b0_b3 : b0 ≠ b3) (ne_b0_b4 : b0 ≠ b4) (ne_b0_b5 : b0 ≠ b5) (ne_b1_b2 : b1 ≠ b2) (ne_b1_b3 : b1 ≠ b3) (ne_b1_b4 : b1 ≠ b4) (ne_b1_b5 : b1 ≠ b5) (ne_b2_b3 : b2 ≠ b3) (ne_b2_b4 : b2 ≠ b4) (ne_b2_b5 : b2 ≠ b5) (ne_b3_b4 : b3 ≠ b4) (ne_b3_b5 : b3 ≠ b5) (ne_b4_b5 : b4 ≠ b5)  :
    OMeets l Z mn7 prog_103_method_1_code 3 none [] ({ frames := 2, cells := 0, slots := 0, locals := 24 } : Room) #[(.ref b0), (.ref b1), (.ref b2)] h0 (fun v h L => v = none ∧ Fr Z.heap.size L ∧ Keep h0 h [b0] ∧ Fld Z h b0 "com/example/lichen/lichen/solver/TermSubsumption$Ways" "each" "Ljava/util/List;" (.ref b1) ∧ Fld Z h b0 "com/example/lichen/lichen/solver/TermSubsumption$Ways" "producers" "Ljava/util/List;" (.ref b2)) := by
  refine OMeets.of pn_mm11_36 #[.val (.ref b0), .val (.ref b1), .val (.ref b2)] (fun m => by first | rfl | (simp [entryFrame, mkF, argsToLocals, Value.category, maxLocals]; done)) ?_
  intro p e s m below meth c s₁ B X0 e0
  have F0 := OwnF.ext O0.2 FZ
  obtain ⟨S_D, ⟨kD, A_D⟩, S_high, T_cache⟩ := id F0
  refine s_aloadN B X0 (pc' := 1) d11_0 rfl rfl rfl ?_
  refine p_init B X0 (y := mn6) (pc' := 4) (argsL := []) (under := []) (W := 0) e0 rfl (tw70 hw) (tw71 hw) (tw74 hw) (tw73 hw) (by decide) (mm12_6 l Z a0 hw b0 w_D h0 FZ O0 ge_b0 E_b0 D_b0_each D_b0_producers ) (lenOf pd_0 rfl) rfl rfl (by decide) (by decide) rfl rfl (by decide) (by decide) rfl d11_1 rfl (fun T1 X1 e1 => ?_)
  show Go p e below _ (T1.setTop (mkF m 4 #[.val (.ref b0), .val (.ref b1), .val (.ref b2)] []))
  refine s_aloadN B X1 (pc' := 5) d11_4 rfl rfl rfl ?_
  refine s_aloadN B X1 (pc' := 6) d11_5 rfl rfl rfl ?_
  refine s_putF B X1 (pc' := 9) (ty := (.object "java/util/List")) e1 (host := "") (Or.inl (tw76 hw)) Via.refl D_b0_each E_b0 (Or.inr ⟨(tw77 hw), rfl, rfl⟩) (tw65 hw) (by decide) rfl rfl d11_6 rfl (fun T2 h2 X2 e2 W2 => ?_)
  have G2 := D_b0_each.same W2
  have N2 := Fr.snoc X2 (Fr.nil _) ge_b0
  have O2 := (O0).wr W2 ge_b0
  have F2 := OwnF.ext O2.2 FZ
  have K2 := ((Keep.refl h0 [b0])).wr W2 (Or.inl (List.mem_of_getElem? (i := 0) rfl))
  show Go p e below _ (T2.setTop (mkF m 9 #[.val (.ref b0), .val (.ref b1), .val (.ref b2)] []))
  refine s_aloadN B X2 (pc' := 10) d11_9 rfl rfl rfl ?_
  refine s_aloadN B X2 (pc' := 11) d11_10 rfl rfl rfl ?_
  have f4 := (D_b0_producers.other W2 (Or.inr (slot_ne (Or.inr (tw79 hw)) (Or.inr (tw77 hw)) (by decide) (t := (.object "java/util/List")) (t' := (.object "java/util/List")) (by decide) (by decide))))
  have f5 := (E_b0.wr W2)
  refine s_putF B X2 (pc' := 14) (ty := (.object "java/util/List")) e2 (host := "") (Or.inl (tw78 hw)) Via.refl f4 f5 (Or.inr ⟨(tw79 hw), rfl, rfl⟩) (tw65 hw) (by decide) rfl rfl d11_11 rfl (fun T3 h3 X3 e3 W3 => ?_)
  have G3 := f4.same W3
  have N3 := Fr.snoc X3 N2 ge_b0
  have O3 := (O2).wr W3 ge_b0
  have F3 := OwnF.ext O3.2 FZ
  have K3 := (K2).wr W3 (Or.inl (List.mem_of_getElem? (i := 0) rfl))
  show Go p e below _ (T3.setTop (mkF m 14 #[.val (.ref b0), .val (.ref b1), .val (.ref b2)] []))
  have f6 := (G2.other W3 (Or.inr (slot_ne (Or.inr (tw77 hw)) (Or.inr (tw79 hw)) (by decide) (t := (.object "java/util/List")) (t' := (.object "java/util/List")) (by decide) (by decide))))
  exact r_void B X3 rfl d11_14 (by rw [e3]; exact ⟨rfl, N3, K3, f6, G3⟩) (by decide) (by decide)

theorem pn_mm13_37 : plainFor mn10 = true := plainFor_of_name (show plainName "com/example/lichen/lichen/solver/TermSubsumption$Ways" = true by first | (simp [plainName, overriddenIn]; done) | decide +kernel)
set_option maxRecDepth 65536 in
set_option maxHeartbeats 40000000 in
theorem mm13_37 (l : Launch) (Z : State) (a0 : Array Value) (hw : ∀ d ∈ tables_1, d.before a0 Z = true) (b0 : Addr) (b1 : Addr) (b2 : Addr) (b3 : Addr) (b4 : Addr) (b5 : Addr) (b6 : Addr) (b7 : Addr) (b8 : Addr) (k_b3 : ClassId) (k_b4 : ClassId) (w_D : Addr) (h0 : Heap) (FZ : OwnF Z Z.heap w_D) (O0 : Old Z Z.heap.size h0) (ge_b0 : Z.heap.size ≤ b0) (E_b0 : Exa Z h0 b0 "com/example/lichen/lichen/solver/TermSubsumption$Ways") (D_b0_each : Fld Z h0 b0 "com/example/lichen/lichen/solver/TermSubsumption$Ways" "each" "Ljava/util/List;" (.ref b1)) (D_b0_producers : Fld Z h0 b0 "com/example/lichen/lichen/solver/TermSubsumption$Ways" "producers" "Ljava/util/List;" (.ref b2)) (ge_b1 : Z.heap.size ≤ b1) (E_b1 : Exa Z h0 b1 "java/util/ArrayList") (D_b1_elementData : Fld Z h0 b1 "java/util/ArrayList" "elementData" "[Ljava/lang/Object;" (.ref b3)) (D_b1_modCount : Fld Z h0 b1 "java/util/AbstractList" "modCount" "I" (.int (1 : Int32))) (D_b1_size : Fld Z h0 b1 "java/util/ArrayList" "size" "I" (.int (1 : Int32))) (ge_b2 : Z.heap.size ≤ b2) (E_b2 : Exa Z h0 b2 "java/util/ArrayList") (D_b2_elementData : Fld Z h0 b2 "java/util/ArrayList" "elementData" "[Ljava/lang/Object;" (.ref b4)) (D_b2_modCount : Fld Z h0 b2 "java/util/AbstractList" "modCount" "I" (.int (3 : Int32))) (D_b2_size : Fld Z h0 b2 "java/util/ArrayList" "size" "I" (.int (3 : Int32))) (ge_b3 : Z.heap.size ≤ b3) (A_b3 : Ary Z h0 b3 k_b3 (.object "java/lang/Object") 10 (lst [(.ref b5), .null, .null, .null, .null, .null, .null, .null, .null, .null] .null)) (V_b3 : Ovr Z k_b3 "java/lang/Object") (ge_b4 : Z.heap.size ≤ b4) (A_b4 : Ary Z h0 b4 k_b4 (.object "java/lang/Object") 10 (lst [(.ref b6), (.ref b7), (.ref b8), .null, .null, .null, .null, .null, .null, .null] .null)) (V_b4 : Ovr Z k_b4 "java/lang/Object") (ge_b5 : Z.heap.size ≤ b5) (E_b5 : Exa Z h0 b5 "java/util/ArrayList") (E_b6 : Exa Z h0 b6 "java/lang/Integer") (E_b7 : Exa Z h0 b7 "java/lang/Integer") (E_b8 : Exa Z h0 b8 "java/lang/Integer") (ne_b0_b1 : b0 ≠ b1) (ne_b0_b2 : b0 ≠ b2) (ne_b0_b3 : b0 ≠ b3) (ne_b0_b4 : b0 ≠ b4) (ne_b0_b5 : b0 ≠ b5) (ne_b1_b2 : b1 ≠ b2) (ne_b1_b3 : b1 ≠ b3) (ne_b1_b4 : b1 ≠ b4) (ne_b1_b5 : b1 ≠ b5) (ne_b2_b3 : b2 ≠ b3) (ne_b2_b4 : b2 ≠ b4) (ne_b2_b5 : b2 ≠ b5) (ne_b3_b4 : b3 ≠ b4) (ne_b3_b5 : b3 ≠ b5) (ne_b4_b5 : b4 ≠ b5)  :
    OMeets l Z mn10 prog_103_method_3_code 1 (some .boolean) [] ({ frames := 1, cells := 0, slots := 0, locals := 12 } : Room) #[(.ref b0)] h0 (PureQ (some (.int (0 : Int32))) h0) := by
  refine OMeets.of pn_mm13_37 #[.val (.ref b0)] (fun m => by first | rfl | (simp [entryFrame, mkF, argsToLocals, Value.category, maxLocals]; done)) ?_
  intro p e s m below meth c s₁ B X0 e0
  have F0 := OwnF.ext O0.2 FZ
  obtain ⟨S_D, ⟨kD, A_D⟩, S_high, T_cache⟩ := id F0
  refine s_aloadN B X0 (pc' := 1) d13_0 rfl rfl rfl ?_
  refine s_getF B X0 (pc' := 4) e0 (host := "") (Or.inl (tw76 hw)) Via.refl D_b0_each d13_1 rfl (fun T1 X1 e1 => ?_)
  refine p_iface B X1 (y := mn9) (z := mn8) (pc' := 9) (argsL := []) (under := []) (W := 0) e1 (tw85 hw) (tw86 hw) (tw87 hw) (tw88 hw) (tw89 hw) (tw90 hw) (tw91 hw) (tw92 hw) (tw93 hw) (tw2 hw) (by decide) (mm14_30 l Z a0 hw b1 b3 b5 k_b3 w_D h0 FZ O0 ge_b1 E_b1 D_b1_elementData D_b1_modCount D_b1_size ge_b3 A_b3 V_b3 ge_b5 E_b5 ne_b1_b3 ne_b1_b5 ne_b3_b5 ) E_b1 (lenOf pd_3 rfl) rfl rfl (by decide) (by decide) rfl rfl (by decide) (by decide) rfl d13_4 rfl (fun T2 X2 e2 => ?_)
  show Go p e below _ (T2.setTop (mkF m 9 #[.val (.ref b0)] [(.int (0 : Int32))]))
  refine s_ifY B X2 (pc' := 28) d13_9 (by decide) (by decide) (by decide) ?_
  refine s_iconst B X2 (pc' := 29) (v := (0 : Int32)) d13_28 rfl rfl ?_
  exact r_nar B X2 (t := .boolean) (by simp) rfl d13_29 ⟨rfl, rfl, e2⟩ (by decide) (by decide)

theorem pn_mm7_38 : plainFor mn14 = true := by first | exact plainFor_of_name (show plainName "java/util/ArrayList" = true by first | (simp [plainName, overriddenIn]; done) | decide +kernel) | decide +kernel
set_option maxRecDepth 65536 in
set_option maxHeartbeats 40000000 in
theorem mm7_38 (l : Launch) (Z : State) (a0 : Array Value) (hw : ∀ d ∈ tables_1, d.before a0 Z = true) (b0 : Addr) (b1 : Addr) (b2 : Addr) (b3 : Addr) (k_b2 : ClassId) (w_D : Addr) (h0 : Heap) (FZ : OwnF Z Z.heap w_D) (O0 : Old Z Z.heap.size h0) (ge_b0 : Z.heap.size ≤ b0) (E_b0 : Exa Z h0 b0 "java/util/ArrayList") (D_b0_elementData : Fld Z h0 b0 "java/util/ArrayList" "elementData" "[Ljava/lang/Object;" (.ref b2)) (D_b0_modCount : Fld Z h0 b0 "java/util/AbstractList" "modCount" "I" (.int (2 : Int32))) (D_b0_size : Fld Z h0 b0 "java/util/ArrayList" "size" "I" (.int (1 : Int32))) (ge_b1 : Z.heap.size ≤ b1) (E_b1 : Exa Z h0 b1 "java/util/ArrayList") (ge_b2 : Z.heap.size ≤ b2) (A_b2 : Ary Z h0 b2 k_b2 (.object "java/lang/Object") 10 (lst [(.ref b3), .null, .null, .null, .null, .null, .null, .null, .null, .null] .null)) (V_b2 : Ovr Z k_b2 "java/lang/Object") (ge_b3 : Z.heap.size ≤ b3) (E_b3 : Exa Z h0 b3 "java/util/ArrayList") (ne_b0_b1 : b0 ≠ b1) (ne_b0_b2 : b0 ≠ b2) (ne_b0_b3 : b0 ≠ b3) (ne_b1_b2 : b1 ≠ b2) (ne_b1_b3 : b1 ≠ b3) (ne_b2_b3 : b2 ≠ b3)  :
    OMeets l Z mn14 jdk_38_method_24_code 4 none [] ({ frames := 0, cells := 0, slots := 0, locals := 0 } : Room) #[(.ref b0), (.ref b1), (.ref b2), (.int (1 : Int32))] h0 (fun v h L => v = none ∧ Fr Z.heap.size L ∧ Keep h0 h [b0, b2] ∧ Fld Z h b0 "java/util/ArrayList" "elementData" "[Ljava/lang/Object;" (.ref b2) ∧ Fld Z h b0 "java/util/AbstractList" "modCount" "I" (.int (2 : Int32)) ∧ Fld Z h b0 "java/util/ArrayList" "size" "I" (.int (2 : Int32)) ∧ Ary Z h b2 k_b2 (.object "java/lang/Object") 10 (lst [(.ref b3), (.ref b1), .null, .null, .null, .null, .null, .null, .null, .null] .null)) := by
  refine OMeets.of pn_mm7_38 #[.val (.ref b0), .val (.ref b1), .val (.ref b2), .val (.int (1 : Int32))] (fun m => by first | rfl | (simp [entryFrame, mkF, argsToLocals, Value.category, maxLocals]; done)) ?_
  intro p e s m below meth c s₁ B X0 e0
  have F0 := OwnF.ext O0.2 FZ
  obtain ⟨S_D, ⟨kD, A_D⟩, S_high, T_cache⟩ := id F0
  refine s_iloadN B X0 (pc' := 1) d7_0 rfl rfl ?_
  refine s_aloadN B X0 (pc' := 2) d7_1 rfl rfl rfl ?_
  refine s_len B X0 (pc' := 3) (v := (10 : Int32)) e0 A_b2 rfl d7_2 rfl ?_
  refine s_icmpY B X0 (pc' := 11) d7_3 (by decide) (by decide) (by decide) ?_
  refine s_aloadN B X0 (pc' := 12) d7_11 rfl rfl rfl ?_
  refine s_iloadN B X0 (pc' := 13) d7_12 rfl rfl ?_
  refine s_aloadN B X0 (pc' := 14) d7_13 rfl rfl rfl ?_
  refine s_stR B X0 (pc' := 15) (jn := 1) e0 A_b2 rfl (Ary.sto A_b2 V_b2 (Ins.of_exa E_b1 (tw106 hw))) (by decide) (by decide) (by decide) d7_14 rfl (fun T1 h1 X1 e1 W1 A1 => ?_)
  replace A1 := A1.full (show 1 < 10 by decide) (L' := [(.ref b3), (.ref b1), .null, .null, .null, .null, .null, .null, .null, .null]) rfl
  have N1 := Fr.snoc X1 (Fr.nil _) ge_b2
  have O1 := (O0).wr W1 ge_b2
  have F1 := OwnF.ext O1.2 FZ
  have K1 := ((Keep.refl h0 [b0, b2])).wr W1 (Or.inl (List.mem_of_getElem? (i := 1) rfl))
  show Go p e below _ (T1.setTop (mkF m 15 #[.val (.ref b0), .val (.ref b1), .val (.ref b2), .val (.int (1 : Int32))] []))
  refine s_aloadN B X1 (pc' := 16) d7_15 rfl rfl rfl ?_
  refine s_iloadN B X1 (pc' := 17) d7_16 rfl rfl ?_
  refine s_iconst B X1 (pc' := 18) (v := (1 : Int32)) d7_17 rfl rfl ?_
  refine s_iadd B X1 (pc' := 19) (v := (2 : Int32)) d7_18 rfl rfl ?_
  have f3 := (D_b0_size.other W1 (Or.inl ne_b0_b2))
  have f4 := (E_b0.wr W1)
  refine s_putF B X1 (pc' := 22) (ty := .int) e1 (host := "") (Or.inl (tw40 hw)) Via.refl f3 f4 (Or.inl (tw41 hw)) (tw1 hw) (by decide) rfl rfl d7_19 rfl (fun T2 h2 X2 e2 W2 => ?_)
  have G2 := f3.same W2
  have N2 := Fr.snoc X2 N1 ge_b0
  have O2 := (O1).wr W2 ge_b0
  have F2 := OwnF.ext O2.2 FZ
  have K2 := (K1).wr W2 (Or.inl (List.mem_of_getElem? (i := 0) rfl))
  show Go p e below _ (T2.setTop (mkF m 22 #[.val (.ref b0), .val (.ref b1), .val (.ref b2), .val (.int (1 : Int32))] []))
  have f5 := ((D_b0_elementData.other W1 (Or.inl ne_b0_b2)).other W2 (Or.inr (slot_ne (Or.inl (tw25 hw)) (Or.inl (tw41 hw)) (by decide) (t := (.array (.object "java/lang/Object"))) (t' := .int) (by decide) (by decide))))
  have f6 := ((D_b0_modCount.other W1 (Or.inl ne_b0_b2)).other W2 (Or.inr (slot_ne (Or.inl (tw22 hw)) (Or.inl (tw41 hw)) (by decide) (t := .int) (t' := .int) (by decide) (by decide))))
  have f7 := (Ary.other W2 A1 (Ne.symm ne_b0_b2))
  exact r_void B X2 rfl d7_22 (by rw [e2]; exact ⟨rfl, N2, K2, f5, f6, G2, f7⟩) (by decide) (by decide)

theorem pn_mm6_38 : plainFor mn15 = true := by first | exact plainFor_of_name (show plainName "java/util/ArrayList" = true by first | (simp [plainName, overriddenIn]; done) | decide +kernel) | decide +kernel
set_option maxRecDepth 65536 in
set_option maxHeartbeats 40000000 in
theorem mm6_38 (l : Launch) (Z : State) (a0 : Array Value) (hw : ∀ d ∈ tables_1, d.before a0 Z = true) (b0 : Addr) (b1 : Addr) (b2 : Addr) (b3 : Addr) (k_b2 : ClassId) (w_D : Addr) (h0 : Heap) (FZ : OwnF Z Z.heap w_D) (O0 : Old Z Z.heap.size h0) (ge_b0 : Z.heap.size ≤ b0) (E_b0 : Exa Z h0 b0 "java/util/ArrayList") (D_b0_elementData : Fld Z h0 b0 "java/util/ArrayList" "elementData" "[Ljava/lang/Object;" (.ref b2)) (D_b0_modCount : Fld Z h0 b0 "java/util/AbstractList" "modCount" "I" (.int (1 : Int32))) (D_b0_size : Fld Z h0 b0 "java/util/ArrayList" "size" "I" (.int (1 : Int32))) (ge_b1 : Z.heap.size ≤ b1) (E_b1 : Exa Z h0 b1 "java/util/ArrayList") (ge_b2 : Z.heap.size ≤ b2) (A_b2 : Ary Z h0 b2 k_b2 (.object "java/lang/Object") 10 (lst [(.ref b3), .null, .null, .null, .null, .null, .null, .null, .null, .null] .null)) (V_b2 : Ovr Z k_b2 "java/lang/Object") (ge_b3 : Z.heap.size ≤ b3) (E_b3 : Exa Z h0 b3 "java/util/ArrayList") (ne_b0_b1 : b0 ≠ b1) (ne_b0_b2 : b0 ≠ b2) (ne_b0_b3 : b0 ≠ b3) (ne_b1_b2 : b1 ≠ b2) (ne_b1_b3 : b1 ≠ b3) (ne_b2_b3 : b2 ≠ b3)  :
    OMeets l Z mn15 jdk_38_method_25_code 2 (some .boolean) [] ({ frames := 1, cells := 0, slots := 0, locals := 15 } : Room) #[(.ref b0), (.ref b1)] h0 (fun v h L => v = some (.int (1 : Int32)) ∧ Fr Z.heap.size L ∧ Keep h0 h [b0, b2] ∧ Fld Z h b0 "java/util/ArrayList" "elementData" "[Ljava/lang/Object;" (.ref b2) ∧ Fld Z h b0 "java/util/AbstractList" "modCount" "I" (.int (2 : Int32)) ∧ Fld Z h b0 "java/util/ArrayList" "size" "I" (.int (2 : Int32)) ∧ Ary Z h b2 k_b2 (.object "java/lang/Object") 10 (lst [(.ref b3), (.ref b1), .null, .null, .null, .null, .null, .null, .null, .null] .null)) := by
  refine OMeets.of pn_mm6_38 #[.val (.ref b0), .val (.ref b1)] (fun m => by first | rfl | (simp [entryFrame, mkF, argsToLocals, Value.category, maxLocals]; done)) ?_
  intro p e s m below meth c s₁ B X0 e0
  have F0 := OwnF.ext O0.2 FZ
  obtain ⟨S_D, ⟨kD, A_D⟩, S_high, T_cache⟩ := id F0
  refine s_aloadN B X0 (pc' := 1) d6_0 rfl rfl rfl ?_
  refine s_dup B X0 (pc' := 2) d6_1 rfl rfl ?_
  refine s_getF B X0 (pc' := 5) e0 (host := "") (Or.inl (tw38 hw)) (Via.of (tw39 hw)) D_b0_modCount d6_2 rfl (fun T1 X1 e1 => ?_)
  refine s_iconst B X1 (pc' := 6) (v := (1 : Int32)) d6_5 rfl rfl ?_
  refine s_iadd B X1 (pc' := 7) (v := (2 : Int32)) d6_6 rfl rfl ?_
  refine s_putF B X1 (pc' := 10) (ty := .int) e1 (host := "") (Or.inl (tw38 hw)) (Via.of (tw39 hw)) D_b0_modCount E_b0 (Or.inl (tw22 hw)) (tw1 hw) (by decide) rfl rfl d6_7 rfl (fun T2 h2 X2 e2 W2 => ?_)
  have G2 := D_b0_modCount.same W2
  have N2 := Fr.snoc X2 (Fr.nil _) ge_b0
  have O2 := (O0).wr W2 ge_b0
  have F2 := OwnF.ext O2.2 FZ
  have K2 := ((Keep.refl h0 [b0, b2])).wr W2 (Or.inl (List.mem_of_getElem? (i := 0) rfl))
  show Go p e below _ (T2.setTop (mkF m 10 #[.val (.ref b0), .val (.ref b1)] []))
  refine s_aloadN B X2 (pc' := 11) d6_10 rfl rfl rfl ?_
  refine s_aloadN B X2 (pc' := 12) d6_11 rfl rfl rfl ?_
  refine s_aloadN B X2 (pc' := 13) d6_12 rfl rfl rfl ?_
  have f3 := (D_b0_elementData.other W2 (Or.inr (slot_ne (Or.inl (tw25 hw)) (Or.inl (tw22 hw)) (by decide) (t := (.array (.object "java/lang/Object"))) (t' := .int) (by decide) (by decide))))
  refine s_getF B X2 (pc' := 16) e2 (host := "") (Or.inl (tw24 hw)) Via.refl f3 d6_13 rfl (fun T4 X4 e4 => ?_)
  refine s_aloadN B X4 (pc' := 17) d6_16 rfl rfl rfl ?_
  have f5 := (D_b0_size.other W2 (Or.inr (slot_ne (Or.inl (tw41 hw)) (Or.inl (tw22 hw)) (by decide) (t := .int) (t' := .int) (by decide) (by decide))))
  refine s_getF B X4 (pc' := 20) e4 (host := "") (Or.inl (tw40 hw)) Via.refl f5 d6_17 rfl (fun T6 X6 e6 => ?_)
  have f7 := (E_b0.wr W2)
  have f8 := (E_b1.wr W2)
  have f9 := (Ary.other W2 A_b2 (Ne.symm ne_b0_b2))
  have f10 := (E_b3.wr W2)
  refine c_private B X6 (y := mn14) (pc' := 23) (argsL := [(.ref b1), (.ref b2), (.int (1 : Int32))]) (under := []) (W := 0) e6 (tw42 hw) (tw1 hw) (tw44 hw) (tw43 hw) (tw46 hw) (tw2 hw) (by decide) (mm7_38 l Z a0 hw b0 b1 b2 b3 k_b2 w_D h2 FZ O2 ge_b0 f7 f3 G2 f5 ge_b1 f8 ge_b2 f9 V_b2 ge_b3 f10 ne_b0_b1 ne_b0_b2 ne_b0_b3 ne_b1_b2 ne_b1_b3 ne_b2_b3 ) f7 (lenOf pd_8 rfl) rfl rfl (by decide) (by decide) (by decide) (by decide) rfl d6_20 rfl (fun v11 T11 L11 X11 hQ11 => ?_)
  obtain ⟨rfl, Nq11, Kq11, u11_0, u11_1, u11_2, u11_3⟩ := hQ11
  obtain ⟨h11, e11⟩ : ∃ z, T11.heap = z := ⟨_, rfl⟩
  rw [e11] at Kq11 u11_0 u11_1 u11_2 u11_3
  have N11 := Fr.app N2 Nq11
  have O11 := (O2).keep Kq11 (allS ge_b0 (allS ge_b2 all0))
  have F11 := OwnF.ext O11.2 FZ
  have K11 := (K2).trans Kq11 (allS (Or.inl (List.mem_of_getElem? (i := 0) rfl)) (allS (Or.inl (List.mem_of_getElem? (i := 1) rfl)) all0))
  show Go p e below _ (T11.setTop (mkF m 23 #[.val (.ref b0), .val (.ref b1)] []))
  refine s_iconst B X11 (pc' := 24) (v := (1 : Int32)) d6_23 rfl rfl ?_
  exact r_nar B X11 (t := .boolean) (by simp) rfl d6_24 (by rw [e11]; exact ⟨rfl, N11, K11, u11_0, u11_1, u11_2, u11_3⟩) (by decide) (by decide)

theorem pn_mm11_40 : plainFor mn7 = true := plainFor_of_name (show plainName "com/example/lichen/lichen/solver/TermSubsumption$Ways" = true by first | (simp [plainName, overriddenIn]; done) | decide +kernel)
set_option maxRecDepth 65536 in
set_option maxHeartbeats 40000000 in
theorem mm11_40 (l : Launch) (Z : State) (a0 : Array Value) (hw : ∀ d ∈ tables_1, d.before a0 Z = true) (b0 : Addr) (b1 : Addr) (b2 : Addr) (b3 : Addr) (b4 : Addr) (b5 : Addr) (k_b3 : ClassId) (w_D : Addr) (h0 : Heap) (FZ : OwnF Z Z.heap w_D) (O0 : Old Z Z.heap.size h0) (ge_b0 : Z.heap.size ≤ b0) (E_b0 : Exa Z h0 b0 "com/example/lichen/lichen/solver/TermSubsumption$Ways") (D_b0_each : Fld Z h0 b0 "com/example/lichen/lichen/solver/TermSubsumption$Ways" "each" "Ljava/util/List;" .null) (D_b0_producers : Fld Z h0 b0 "com/example/lichen/lichen/solver/TermSubsumption$Ways" "producers" "Ljava/util/List;" .null) (ge_b1 : Z.heap.size ≤ b1) (E_b1 : Exa Z h0 b1 "java/util/ArrayList") (D_b1_elementData : Fld Z h0 b1 "java/util/ArrayList" "elementData" "[Ljava/lang/Object;" (.ref b3)) (D_b1_modCount : Fld Z h0 b1 "java/util/AbstractList" "modCount" "I" (.int (2 : Int32))) (D_b1_size : Fld Z h0 b1 "java/util/ArrayList" "size" "I" (.int (2 : Int32))) (ge_b2 : Z.heap.size ≤ b2) (E_b2 : Exa Z h0 b2 "java/util/ArrayList") (D_b2_elementData : Fld Z h0 b2 "java/util/ArrayList" "elementData" "[Ljava/lang/Object;" (.ref w_D)) (D_b2_modCount : Fld Z h0 b2 "java/util/AbstractList" "modCount" "I" (.int (0 : Int32))) (D_b2_size : Fld Z h0 b2 "java/util/ArrayList" "size" "I" (.int (0 : Int32))) (ge_b3 : Z.heap.size ≤ b3) (A_b3 : Ary Z h0 b3 k_b3 (.object "java/lang/Object") 10 (lst [(.ref b4), (.ref b5), .null, .null, .null, .null, .null, .null, .null, .null] .null)) (V_b3 : Ovr Z k_b3 "java/lang/Object") (ge_b4 : Z.heap.size ≤ b4) (E_b4 : Exa Z h0 b4 "java/util/ArrayList") (ge_b5 : Z.heap.size ≤ b5) (E_b5 : Exa Z h0 b5 "java/util/ArrayList") (ne_b0_b1 : b0 ≠ b1) (ne_b0_b2 : b0 ≠ b2) (ne_b0_b3 : b0 ≠ b3) (ne_b0_b4 : b0 ≠ b4) (ne_b0_b5 : b0 ≠ b5) (ne_b1_b2 : b1 ≠ b2) (ne_b1_b3 : b1 ≠ b3) (ne_b1_b4 : b1 ≠ b4) (ne_b1_b5 : b1 ≠ b5) (ne_b2_b3 : b2 ≠ b3) (ne_b2_b4 : b2 ≠ b4) (ne_b2_b5 : b2 ≠ b5) (ne_b3_b4 : b3 ≠ b4) (ne_b3_b5 : b3 ≠ b5) (ne_b4_b5 : b4 ≠ b5)  :
    OMeets l Z mn7 prog_103_method_1_code 3 none [] ({ frames := 2, cells := 0, slots := 0, locals := 24 } : Room) #[(.ref b0), (.ref b1), (.ref b2)] h0 (fun v h L => v = none ∧ Fr Z.heap.size L ∧ Keep h0 h [b0] ∧ Fld Z h b0 "com/example/lichen/lichen/solver/TermSubsumption$Ways" "each" "Ljava/util/List;" (.ref b1) ∧ Fld Z h b0 "com/example/lichen/lichen/solver/TermSubsumption$Ways" "producers" "Ljava/util/List;" (.ref b2)) := by
  refine OMeets.of pn_mm11_40 #[.val (.ref b0), .val (.ref b1), .val (.ref b2)] (fun m => by first | rfl | (simp [entryFrame, mkF, argsToLocals, Value.category, maxLocals]; done)) ?_
  intro p e s m below meth c s₁ B X0 e0
  have F0 := OwnF.ext O0.2 FZ
  obtain ⟨S_D, ⟨kD, A_D⟩, S_high, T_cache⟩ := id F0
  refine s_aloadN B X0 (pc' := 1) d11_0 rfl rfl rfl ?_
  refine p_init B X0 (y := mn6) (pc' := 4) (argsL := []) (under := []) (W := 0) e0 rfl (tw70 hw) (tw71 hw) (tw74 hw) (tw73 hw) (by decide) (mm12_6 l Z a0 hw b0 w_D h0 FZ O0 ge_b0 E_b0 D_b0_each D_b0_producers ) (lenOf pd_0 rfl) rfl rfl (by decide) (by decide) rfl rfl (by decide) (by decide) rfl d11_1 rfl (fun T1 X1 e1 => ?_)
  show Go p e below _ (T1.setTop (mkF m 4 #[.val (.ref b0), .val (.ref b1), .val (.ref b2)] []))
  refine s_aloadN B X1 (pc' := 5) d11_4 rfl rfl rfl ?_
  refine s_aloadN B X1 (pc' := 6) d11_5 rfl rfl rfl ?_
  refine s_putF B X1 (pc' := 9) (ty := (.object "java/util/List")) e1 (host := "") (Or.inl (tw76 hw)) Via.refl D_b0_each E_b0 (Or.inr ⟨(tw77 hw), rfl, rfl⟩) (tw65 hw) (by decide) rfl rfl d11_6 rfl (fun T2 h2 X2 e2 W2 => ?_)
  have G2 := D_b0_each.same W2
  have N2 := Fr.snoc X2 (Fr.nil _) ge_b0
  have O2 := (O0).wr W2 ge_b0
  have F2 := OwnF.ext O2.2 FZ
  have K2 := ((Keep.refl h0 [b0])).wr W2 (Or.inl (List.mem_of_getElem? (i := 0) rfl))
  show Go p e below _ (T2.setTop (mkF m 9 #[.val (.ref b0), .val (.ref b1), .val (.ref b2)] []))
  refine s_aloadN B X2 (pc' := 10) d11_9 rfl rfl rfl ?_
  refine s_aloadN B X2 (pc' := 11) d11_10 rfl rfl rfl ?_
  have f4 := (D_b0_producers.other W2 (Or.inr (slot_ne (Or.inr (tw79 hw)) (Or.inr (tw77 hw)) (by decide) (t := (.object "java/util/List")) (t' := (.object "java/util/List")) (by decide) (by decide))))
  have f5 := (E_b0.wr W2)
  refine s_putF B X2 (pc' := 14) (ty := (.object "java/util/List")) e2 (host := "") (Or.inl (tw78 hw)) Via.refl f4 f5 (Or.inr ⟨(tw79 hw), rfl, rfl⟩) (tw65 hw) (by decide) rfl rfl d11_11 rfl (fun T3 h3 X3 e3 W3 => ?_)
  have G3 := f4.same W3
  have N3 := Fr.snoc X3 N2 ge_b0
  have O3 := (O2).wr W3 ge_b0
  have F3 := OwnF.ext O3.2 FZ
  have K3 := (K2).wr W3 (Or.inl (List.mem_of_getElem? (i := 0) rfl))
  show Go p e below _ (T3.setTop (mkF m 14 #[.val (.ref b0), .val (.ref b1), .val (.ref b2)] []))
  have f6 := (G2.other W3 (Or.inr (slot_ne (Or.inr (tw77 hw)) (Or.inr (tw79 hw)) (by decide) (t := (.object "java/util/List")) (t' := (.object "java/util/List")) (by decide) (by decide))))
  exact r_void B X3 rfl d11_14 (by rw [e3]; exact ⟨rfl, N3, K3, f6, G3⟩) (by decide) (by decide)

theorem pn_mm14_41 : plainFor mn8 = true := by first | exact plainFor_of_name (show plainName "java/util/ArrayList" = true by first | (simp [plainName, overriddenIn]; done) | decide +kernel) | decide +kernel
set_option maxRecDepth 65536 in
set_option maxHeartbeats 40000000 in
theorem mm14_41 (l : Launch) (Z : State) (a0 : Array Value) (hw : ∀ d ∈ tables_1, d.before a0 Z = true) (b0 : Addr) (b1 : Addr) (b2 : Addr) (b3 : Addr) (k_b1 : ClassId) (w_D : Addr) (h0 : Heap) (FZ : OwnF Z Z.heap w_D) (O0 : Old Z Z.heap.size h0) (ge_b0 : Z.heap.size ≤ b0) (E_b0 : Exa Z h0 b0 "java/util/ArrayList") (D_b0_elementData : Fld Z h0 b0 "java/util/ArrayList" "elementData" "[Ljava/lang/Object;" (.ref b1)) (D_b0_modCount : Fld Z h0 b0 "java/util/AbstractList" "modCount" "I" (.int (2 : Int32))) (D_b0_size : Fld Z h0 b0 "java/util/ArrayList" "size" "I" (.int (2 : Int32))) (ge_b1 : Z.heap.size ≤ b1) (A_b1 : Ary Z h0 b1 k_b1 (.object "java/lang/Object") 10 (lst [(.ref b2), (.ref b3), .null, .null, .null, .null, .null, .null, .null, .null] .null)) (V_b1 : Ovr Z k_b1 "java/lang/Object") (ge_b2 : Z.heap.size ≤ b2) (E_b2 : Exa Z h0 b2 "java/util/ArrayList") (ge_b3 : Z.heap.size ≤ b3) (E_b3 : Exa Z h0 b3 "java/util/ArrayList") (ne_b0_b1 : b0 ≠ b1) (ne_b0_b2 : b0 ≠ b2) (ne_b0_b3 : b0 ≠ b3) (ne_b1_b2 : b1 ≠ b2) (ne_b1_b3 : b1 ≠ b3) (ne_b2_b3 : b2 ≠ b3)  :
    OMeets l Z mn8 jdk_38_method_9_code 1 (some .boolean) [] ({ frames := 0, cells := 0, slots := 0, locals := 0 } : Room) #[(.ref b0)] h0 (PureQ (some (.int (0 : Int32))) h0) := by
  refine OMeets.of pn_mm14_41 #[.val (.ref b0)] (fun m => by first | rfl | (simp [entryFrame, mkF, argsToLocals, Value.category, maxLocals]; done)) ?_
  intro p e s m below meth c s₁ B X0 e0
  have F0 := OwnF.ext O0.2 FZ
  obtain ⟨S_D, ⟨kD, A_D⟩, S_high, T_cache⟩ := id F0
  refine s_aloadN B X0 (pc' := 1) d14_0 rfl rfl rfl ?_
  refine s_getF B X0 (pc' := 4) e0 (host := "") (Or.inl (tw40 hw)) Via.refl D_b0_size d14_1 rfl (fun T1 X1 e1 => ?_)
  refine s_ifY B X1 (pc' := 11) d14_4 (by decide) (by decide) (by decide) ?_
  refine s_iconst B X1 (pc' := 12) (v := (0 : Int32)) d14_11 rfl rfl ?_
  exact r_nar B X1 (t := .boolean) (by simp) rfl d14_12 ⟨rfl, rfl, e1⟩ (by decide) (by decide)

theorem pn_mm13_41 : plainFor mn10 = true := plainFor_of_name (show plainName "com/example/lichen/lichen/solver/TermSubsumption$Ways" = true by first | (simp [plainName, overriddenIn]; done) | decide +kernel)
set_option maxRecDepth 65536 in
set_option maxHeartbeats 40000000 in
theorem mm13_41 (l : Launch) (Z : State) (a0 : Array Value) (hw : ∀ d ∈ tables_1, d.before a0 Z = true) (b0 : Addr) (b1 : Addr) (b2 : Addr) (b3 : Addr) (b4 : Addr) (b5 : Addr) (k_b3 : ClassId) (w_D : Addr) (h0 : Heap) (FZ : OwnF Z Z.heap w_D) (O0 : Old Z Z.heap.size h0) (ge_b0 : Z.heap.size ≤ b0) (E_b0 : Exa Z h0 b0 "com/example/lichen/lichen/solver/TermSubsumption$Ways") (D_b0_each : Fld Z h0 b0 "com/example/lichen/lichen/solver/TermSubsumption$Ways" "each" "Ljava/util/List;" (.ref b1)) (D_b0_producers : Fld Z h0 b0 "com/example/lichen/lichen/solver/TermSubsumption$Ways" "producers" "Ljava/util/List;" (.ref b2)) (ge_b1 : Z.heap.size ≤ b1) (E_b1 : Exa Z h0 b1 "java/util/ArrayList") (D_b1_elementData : Fld Z h0 b1 "java/util/ArrayList" "elementData" "[Ljava/lang/Object;" (.ref b3)) (D_b1_modCount : Fld Z h0 b1 "java/util/AbstractList" "modCount" "I" (.int (2 : Int32))) (D_b1_size : Fld Z h0 b1 "java/util/ArrayList" "size" "I" (.int (2 : Int32))) (ge_b2 : Z.heap.size ≤ b2) (E_b2 : Exa Z h0 b2 "java/util/ArrayList") (D_b2_elementData : Fld Z h0 b2 "java/util/ArrayList" "elementData" "[Ljava/lang/Object;" (.ref w_D)) (D_b2_modCount : Fld Z h0 b2 "java/util/AbstractList" "modCount" "I" (.int (0 : Int32))) (D_b2_size : Fld Z h0 b2 "java/util/ArrayList" "size" "I" (.int (0 : Int32))) (ge_b3 : Z.heap.size ≤ b3) (A_b3 : Ary Z h0 b3 k_b3 (.object "java/lang/Object") 10 (lst [(.ref b4), (.ref b5), .null, .null, .null, .null, .null, .null, .null, .null] .null)) (V_b3 : Ovr Z k_b3 "java/lang/Object") (ge_b4 : Z.heap.size ≤ b4) (E_b4 : Exa Z h0 b4 "java/util/ArrayList") (ge_b5 : Z.heap.size ≤ b5) (E_b5 : Exa Z h0 b5 "java/util/ArrayList") (ne_b0_b1 : b0 ≠ b1) (ne_b0_b2 : b0 ≠ b2) (ne_b0_b3 : b0 ≠ b3) (ne_b0_b4 : b0 ≠ b4) (ne_b0_b5 : b0 ≠ b5) (ne_b1_b2 : b1 ≠ b2) (ne_b1_b3 : b1 ≠ b3) (ne_b1_b4 : b1 ≠ b4) (ne_b1_b5 : b1 ≠ b5) (ne_b2_b3 : b2 ≠ b3) (ne_b2_b4 : b2 ≠ b4) (ne_b2_b5 : b2 ≠ b5) (ne_b3_b4 : b3 ≠ b4) (ne_b3_b5 : b3 ≠ b5) (ne_b4_b5 : b4 ≠ b5)  :
    OMeets l Z mn10 prog_103_method_3_code 1 (some .boolean) [] ({ frames := 1, cells := 0, slots := 0, locals := 12 } : Room) #[(.ref b0)] h0 (PureQ (some (.int (0 : Int32))) h0) := by
  refine OMeets.of pn_mm13_41 #[.val (.ref b0)] (fun m => by first | rfl | (simp [entryFrame, mkF, argsToLocals, Value.category, maxLocals]; done)) ?_
  intro p e s m below meth c s₁ B X0 e0
  have F0 := OwnF.ext O0.2 FZ
  obtain ⟨S_D, ⟨kD, A_D⟩, S_high, T_cache⟩ := id F0
  refine s_aloadN B X0 (pc' := 1) d13_0 rfl rfl rfl ?_
  refine s_getF B X0 (pc' := 4) e0 (host := "") (Or.inl (tw76 hw)) Via.refl D_b0_each d13_1 rfl (fun T1 X1 e1 => ?_)
  refine p_iface B X1 (y := mn9) (z := mn8) (pc' := 9) (argsL := []) (under := []) (W := 0) e1 (tw85 hw) (tw86 hw) (tw87 hw) (tw88 hw) (tw89 hw) (tw90 hw) (tw91 hw) (tw92 hw) (tw93 hw) (tw2 hw) (by decide) (mm14_41 l Z a0 hw b1 b3 b4 b5 k_b3 w_D h0 FZ O0 ge_b1 E_b1 D_b1_elementData D_b1_modCount D_b1_size ge_b3 A_b3 V_b3 ge_b4 E_b4 ge_b5 E_b5 ne_b1_b3 ne_b1_b4 ne_b1_b5 ne_b3_b4 ne_b3_b5 ne_b4_b5 ) E_b1 (lenOf pd_3 rfl) rfl rfl (by decide) (by decide) rfl rfl (by decide) (by decide) rfl d13_4 rfl (fun T2 X2 e2 => ?_)
  show Go p e below _ (T2.setTop (mkF m 9 #[.val (.ref b0)] [(.int (0 : Int32))]))
  refine s_ifY B X2 (pc' := 28) d13_9 (by decide) (by decide) (by decide) ?_
  refine s_iconst B X2 (pc' := 29) (v := (0 : Int32)) d13_28 rfl rfl ?_
  exact r_nar B X2 (t := .boolean) (by simp) rfl d13_29 ⟨rfl, rfl, e2⟩ (by decide) (by decide)

theorem pn_mm11_43 : plainFor mn7 = true := plainFor_of_name (show plainName "com/example/lichen/lichen/solver/TermSubsumption$Ways" = true by first | (simp [plainName, overriddenIn]; done) | decide +kernel)
set_option maxRecDepth 65536 in
set_option maxHeartbeats 40000000 in
theorem mm11_43 (l : Launch) (Z : State) (a0 : Array Value) (hw : ∀ d ∈ tables_1, d.before a0 Z = true) (b0 : Addr) (b1 : Addr) (b2 : Addr) (b3 : Addr) (b4 : Addr) (b5 : Addr) (b6 : Addr) (b7 : Addr) (k_b3 : ClassId) (k_b4 : ClassId) (w_D : Addr) (h0 : Heap) (FZ : OwnF Z Z.heap w_D) (O0 : Old Z Z.heap.size h0) (ge_b0 : Z.heap.size ≤ b0) (E_b0 : Exa Z h0 b0 "com/example/lichen/lichen/solver/TermSubsumption$Ways") (D_b0_each : Fld Z h0 b0 "com/example/lichen/lichen/solver/TermSubsumption$Ways" "each" "Ljava/util/List;" .null) (D_b0_producers : Fld Z h0 b0 "com/example/lichen/lichen/solver/TermSubsumption$Ways" "producers" "Ljava/util/List;" .null) (ge_b1 : Z.heap.size ≤ b1) (E_b1 : Exa Z h0 b1 "java/util/ArrayList") (D_b1_elementData : Fld Z h0 b1 "java/util/ArrayList" "elementData" "[Ljava/lang/Object;" (.ref b3)) (D_b1_modCount : Fld Z h0 b1 "java/util/AbstractList" "modCount" "I" (.int (2 : Int32))) (D_b1_size : Fld Z h0 b1 "java/util/ArrayList" "size" "I" (.int (2 : Int32))) (ge_b2 : Z.heap.size ≤ b2) (E_b2 : Exa Z h0 b2 "java/util/ArrayList") (D_b2_elementData : Fld Z h0 b2 "java/util/ArrayList" "elementData" "[Ljava/lang/Object;" (.ref b4)) (D_b2_modCount : Fld Z h0 b2 "java/util/AbstractList" "modCount" "I" (.int (1 : Int32))) (D_b2_size : Fld Z h0 b2 "java/util/ArrayList" "size" "I" (.int (1 : Int32))) (ge_b3 : Z.heap.size ≤ b3) (A_b3 : Ary Z h0 b3 k_b3 (.object "java/lang/Object") 10 (lst [(.ref b5), (.ref b6), .null, .null, .null, .null, .null, .null, .null, .null] .null)) (V_b3 : Ovr Z k_b3 "java/lang/Object") (ge_b4 : Z.heap.size ≤ b4) (A_b4 : Ary Z h0 b4 k_b4 (.object "java/lang/Object") 10 (lst [(.ref b7), .null, .null, .null, .null, .null, .null, .null, .null, .null] .null)) (V_b4 : Ovr Z k_b4 "java/lang/Object") (ge_b5 : Z.heap.size ≤ b5) (E_b5 : Exa Z h0 b5 "java/util/ArrayList") (ge_b6 : Z.heap.size ≤ b6) (E_b6 : Exa Z h0 b6 "java/util/ArrayList") (E_b7 : Exa Z h0 b7 "java/lang/Integer") (ne_b0_b1 : b0 ≠ b1) (ne_b0_b2 : b0 ≠ b2) (ne_b0_b3 : b0 ≠ b3) (ne_b0_b4 : b0 ≠ b4) (ne_b0_b5 : b0 ≠ b5) (ne_b0_b6 : b0 ≠ b6) (ne_b1_b2 : b1 ≠ b2) (ne_b1_b3 : b1 ≠ b3) (ne_b1_b4 : b1 ≠ b4) (ne_b1_b5 : b1 ≠ b5) (ne_b1_b6 : b1 ≠ b6) (ne_b2_b3 : b2 ≠ b3) (ne_b2_b4 : b2 ≠ b4) (ne_b2_b5 : b2 ≠ b5) (ne_b2_b6 : b2 ≠ b6) (ne_b3_b4 : b3 ≠ b4) (ne_b3_b5 : b3 ≠ b5) (ne_b3_b6 : b3 ≠ b6) (ne_b4_b5 : b4 ≠ b5) (ne_b4_b6 : b4 ≠ b6) (ne_b5_b6 : b5 ≠ b6)  :
    OMeets l Z mn7 prog_103_method_1_code 3 none [] ({ frames := 2, cells := 0, slots := 0, locals := 24 } : Room) #[(.ref b0), (.ref b1), (.ref b2)] h0 (fun v h L => v = none ∧ Fr Z.heap.size L ∧ Keep h0 h [b0] ∧ Fld Z h b0 "com/example/lichen/lichen/solver/TermSubsumption$Ways" "each" "Ljava/util/List;" (.ref b1) ∧ Fld Z h b0 "com/example/lichen/lichen/solver/TermSubsumption$Ways" "producers" "Ljava/util/List;" (.ref b2)) := by
  refine OMeets.of pn_mm11_43 #[.val (.ref b0), .val (.ref b1), .val (.ref b2)] (fun m => by first | rfl | (simp [entryFrame, mkF, argsToLocals, Value.category, maxLocals]; done)) ?_
  intro p e s m below meth c s₁ B X0 e0
  have F0 := OwnF.ext O0.2 FZ
  obtain ⟨S_D, ⟨kD, A_D⟩, S_high, T_cache⟩ := id F0
  refine s_aloadN B X0 (pc' := 1) d11_0 rfl rfl rfl ?_
  refine p_init B X0 (y := mn6) (pc' := 4) (argsL := []) (under := []) (W := 0) e0 rfl (tw70 hw) (tw71 hw) (tw74 hw) (tw73 hw) (by decide) (mm12_6 l Z a0 hw b0 w_D h0 FZ O0 ge_b0 E_b0 D_b0_each D_b0_producers ) (lenOf pd_0 rfl) rfl rfl (by decide) (by decide) rfl rfl (by decide) (by decide) rfl d11_1 rfl (fun T1 X1 e1 => ?_)
  show Go p e below _ (T1.setTop (mkF m 4 #[.val (.ref b0), .val (.ref b1), .val (.ref b2)] []))
  refine s_aloadN B X1 (pc' := 5) d11_4 rfl rfl rfl ?_
  refine s_aloadN B X1 (pc' := 6) d11_5 rfl rfl rfl ?_
  refine s_putF B X1 (pc' := 9) (ty := (.object "java/util/List")) e1 (host := "") (Or.inl (tw76 hw)) Via.refl D_b0_each E_b0 (Or.inr ⟨(tw77 hw), rfl, rfl⟩) (tw65 hw) (by decide) rfl rfl d11_6 rfl (fun T2 h2 X2 e2 W2 => ?_)
  have G2 := D_b0_each.same W2
  have N2 := Fr.snoc X2 (Fr.nil _) ge_b0
  have O2 := (O0).wr W2 ge_b0
  have F2 := OwnF.ext O2.2 FZ
  have K2 := ((Keep.refl h0 [b0])).wr W2 (Or.inl (List.mem_of_getElem? (i := 0) rfl))
  show Go p e below _ (T2.setTop (mkF m 9 #[.val (.ref b0), .val (.ref b1), .val (.ref b2)] []))
  refine s_aloadN B X2 (pc' := 10) d11_9 rfl rfl rfl ?_
  refine s_aloadN B X2 (pc' := 11) d11_10 rfl rfl rfl ?_
  have f4 := (D_b0_producers.other W2 (Or.inr (slot_ne (Or.inr (tw79 hw)) (Or.inr (tw77 hw)) (by decide) (t := (.object "java/util/List")) (t' := (.object "java/util/List")) (by decide) (by decide))))
  have f5 := (E_b0.wr W2)
  refine s_putF B X2 (pc' := 14) (ty := (.object "java/util/List")) e2 (host := "") (Or.inl (tw78 hw)) Via.refl f4 f5 (Or.inr ⟨(tw79 hw), rfl, rfl⟩) (tw65 hw) (by decide) rfl rfl d11_11 rfl (fun T3 h3 X3 e3 W3 => ?_)
  have G3 := f4.same W3
  have N3 := Fr.snoc X3 N2 ge_b0
  have O3 := (O2).wr W3 ge_b0
  have F3 := OwnF.ext O3.2 FZ
  have K3 := (K2).wr W3 (Or.inl (List.mem_of_getElem? (i := 0) rfl))
  show Go p e below _ (T3.setTop (mkF m 14 #[.val (.ref b0), .val (.ref b1), .val (.ref b2)] []))
  have f6 := (G2.other W3 (Or.inr (slot_ne (Or.inr (tw77 hw)) (Or.inr (tw79 hw)) (by decide) (t := (.object "java/util/List")) (t' := (.object "java/util/List")) (by decide) (by decide))))
  exact r_void B X3 rfl d11_14 (by rw [e3]; exact ⟨rfl, N3, K3, f6, G3⟩) (by decide) (by decide)

theorem pn_mm13_44 : plainFor mn10 = true := plainFor_of_name (show plainName "com/example/lichen/lichen/solver/TermSubsumption$Ways" = true by first | (simp [plainName, overriddenIn]; done) | decide +kernel)
set_option maxRecDepth 65536 in
set_option maxHeartbeats 40000000 in
theorem mm13_44 (l : Launch) (Z : State) (a0 : Array Value) (hw : ∀ d ∈ tables_1, d.before a0 Z = true) (b0 : Addr) (b1 : Addr) (b2 : Addr) (b3 : Addr) (b4 : Addr) (b5 : Addr) (b6 : Addr) (b7 : Addr) (k_b3 : ClassId) (k_b4 : ClassId) (w_D : Addr) (h0 : Heap) (FZ : OwnF Z Z.heap w_D) (O0 : Old Z Z.heap.size h0) (ge_b0 : Z.heap.size ≤ b0) (E_b0 : Exa Z h0 b0 "com/example/lichen/lichen/solver/TermSubsumption$Ways") (D_b0_each : Fld Z h0 b0 "com/example/lichen/lichen/solver/TermSubsumption$Ways" "each" "Ljava/util/List;" (.ref b1)) (D_b0_producers : Fld Z h0 b0 "com/example/lichen/lichen/solver/TermSubsumption$Ways" "producers" "Ljava/util/List;" (.ref b2)) (ge_b1 : Z.heap.size ≤ b1) (E_b1 : Exa Z h0 b1 "java/util/ArrayList") (D_b1_elementData : Fld Z h0 b1 "java/util/ArrayList" "elementData" "[Ljava/lang/Object;" (.ref b3)) (D_b1_modCount : Fld Z h0 b1 "java/util/AbstractList" "modCount" "I" (.int (2 : Int32))) (D_b1_size : Fld Z h0 b1 "java/util/ArrayList" "size" "I" (.int (2 : Int32))) (ge_b2 : Z.heap.size ≤ b2) (E_b2 : Exa Z h0 b2 "java/util/ArrayList") (D_b2_elementData : Fld Z h0 b2 "java/util/ArrayList" "elementData" "[Ljava/lang/Object;" (.ref b4)) (D_b2_modCount : Fld Z h0 b2 "java/util/AbstractList" "modCount" "I" (.int (1 : Int32))) (D_b2_size : Fld Z h0 b2 "java/util/ArrayList" "size" "I" (.int (1 : Int32))) (ge_b3 : Z.heap.size ≤ b3) (A_b3 : Ary Z h0 b3 k_b3 (.object "java/lang/Object") 10 (lst [(.ref b5), (.ref b6), .null, .null, .null, .null, .null, .null, .null, .null] .null)) (V_b3 : Ovr Z k_b3 "java/lang/Object") (ge_b4 : Z.heap.size ≤ b4) (A_b4 : Ary Z h0 b4 k_b4 (.object "java/lang/Object") 10 (lst [(.ref b7), .null, .null, .null, .null, .null, .null, .null, .null, .null] .null)) (V_b4 : Ovr Z k_b4 "java/lang/Object") (ge_b5 : Z.heap.size ≤ b5) (E_b5 : Exa Z h0 b5 "java/util/ArrayList") (ge_b6 : Z.heap.size ≤ b6) (E_b6 : Exa Z h0 b6 "java/util/ArrayList") (E_b7 : Exa Z h0 b7 "java/lang/Integer") (ne_b0_b1 : b0 ≠ b1) (ne_b0_b2 : b0 ≠ b2) (ne_b0_b3 : b0 ≠ b3) (ne_b0_b4 : b0 ≠ b4) (ne_b0_b5 : b0 ≠ b5) (ne_b0_b6 : b0 ≠ b6) (ne_b1_b2 : b1 ≠ b2) (ne_b1_b3 : b1 ≠ b3) (ne_b1_b4 : b1 ≠ b4) (ne_b1_b5 : b1 ≠ b5) (ne_b1_b6 : b1 ≠ b6) (ne_b2_b3 : b2 ≠ b3) (ne_b2_b4 : b2 ≠ b4) (ne_b2_b5 : b2 ≠ b5) (ne_b2_b6 : b2 ≠ b6) (ne_b3_b4 : b3 ≠ b4) (ne_b3_b5 : b3 ≠ b5) (ne_b3_b6 : b3 ≠ b6) (ne_b4_b5 : b4 ≠ b5) (ne_b4_b6 : b4 ≠ b6) (ne_b5_b6 : b5 ≠ b6)  :
    OMeets l Z mn10 prog_103_method_3_code 1 (some .boolean) [] ({ frames := 1, cells := 0, slots := 0, locals := 12 } : Room) #[(.ref b0)] h0 (PureQ (some (.int (0 : Int32))) h0) := by
  refine OMeets.of pn_mm13_44 #[.val (.ref b0)] (fun m => by first | rfl | (simp [entryFrame, mkF, argsToLocals, Value.category, maxLocals]; done)) ?_
  intro p e s m below meth c s₁ B X0 e0
  have F0 := OwnF.ext O0.2 FZ
  obtain ⟨S_D, ⟨kD, A_D⟩, S_high, T_cache⟩ := id F0
  refine s_aloadN B X0 (pc' := 1) d13_0 rfl rfl rfl ?_
  refine s_getF B X0 (pc' := 4) e0 (host := "") (Or.inl (tw76 hw)) Via.refl D_b0_each d13_1 rfl (fun T1 X1 e1 => ?_)
  refine p_iface B X1 (y := mn9) (z := mn8) (pc' := 9) (argsL := []) (under := []) (W := 0) e1 (tw85 hw) (tw86 hw) (tw87 hw) (tw88 hw) (tw89 hw) (tw90 hw) (tw91 hw) (tw92 hw) (tw93 hw) (tw2 hw) (by decide) (mm14_41 l Z a0 hw b1 b3 b5 b6 k_b3 w_D h0 FZ O0 ge_b1 E_b1 D_b1_elementData D_b1_modCount D_b1_size ge_b3 A_b3 V_b3 ge_b5 E_b5 ge_b6 E_b6 ne_b1_b3 ne_b1_b5 ne_b1_b6 ne_b3_b5 ne_b3_b6 ne_b5_b6 ) E_b1 (lenOf pd_3 rfl) rfl rfl (by decide) (by decide) rfl rfl (by decide) (by decide) rfl d13_4 rfl (fun T2 X2 e2 => ?_)
  show Go p e below _ (T2.setTop (mkF m 9 #[.val (.ref b0)] [(.int (0 : Int32))]))
  refine s_ifY B X2 (pc' := 28) d13_9 (by decide) (by decide) (by decide) ?_
  refine s_iconst B X2 (pc' := 29) (v := (0 : Int32)) d13_28 rfl rfl ?_
  exact r_nar B X2 (t := .boolean) (by simp) rfl d13_29 ⟨rfl, rfl, e2⟩ (by decide) (by decide)

theorem pn_mm11_45 : plainFor mn7 = true := plainFor_of_name (show plainName "com/example/lichen/lichen/solver/TermSubsumption$Ways" = true by first | (simp [plainName, overriddenIn]; done) | decide +kernel)
set_option maxRecDepth 65536 in
set_option maxHeartbeats 40000000 in
theorem mm11_45 (l : Launch) (Z : State) (a0 : Array Value) (hw : ∀ d ∈ tables_1, d.before a0 Z = true) (b0 : Addr) (b1 : Addr) (b2 : Addr) (b3 : Addr) (b4 : Addr) (b5 : Addr) (b6 : Addr) (b7 : Addr) (b8 : Addr) (k_b3 : ClassId) (k_b4 : ClassId) (w_D : Addr) (h0 : Heap) (FZ : OwnF Z Z.heap w_D) (O0 : Old Z Z.heap.size h0) (ge_b0 : Z.heap.size ≤ b0) (E_b0 : Exa Z h0 b0 "com/example/lichen/lichen/solver/TermSubsumption$Ways") (D_b0_each : Fld Z h0 b0 "com/example/lichen/lichen/solver/TermSubsumption$Ways" "each" "Ljava/util/List;" .null) (D_b0_producers : Fld Z h0 b0 "com/example/lichen/lichen/solver/TermSubsumption$Ways" "producers" "Ljava/util/List;" .null) (ge_b1 : Z.heap.size ≤ b1) (E_b1 : Exa Z h0 b1 "java/util/ArrayList") (D_b1_elementData : Fld Z h0 b1 "java/util/ArrayList" "elementData" "[Ljava/lang/Object;" (.ref b3)) (D_b1_modCount : Fld Z h0 b1 "java/util/AbstractList" "modCount" "I" (.int (2 : Int32))) (D_b1_size : Fld Z h0 b1 "java/util/ArrayList" "size" "I" (.int (2 : Int32))) (ge_b2 : Z.heap.size ≤ b2) (E_b2 : Exa Z h0 b2 "java/util/ArrayList") (D_b2_elementData : Fld Z h0 b2 "java/util/ArrayList" "elementData" "[Ljava/lang/Object;" (.ref b4)) (D_b2_modCount : Fld Z h0 b2 "java/util/AbstractList" "modCount" "I" (.int (2 : Int32))) (D_b2_size : Fld Z h0 b2 "java/util/ArrayList" "size" "I" (.int (2 : Int32))) (ge_b3 : Z.heap.size ≤ b3) (A_b3 : Ary Z h0 b3 k_b3 (.object "java/lang/Object") 10 (lst [(.ref b5), (.ref b6), .null, .null, .null, .null, .null, .null, .null, .null] .null)) (V_b3 : Ovr Z k_b3 "java/lang/Object") (ge_b4 : Z.heap.size ≤ b4) (A_b4 : Ary Z h0 b4 k_b4 (.object "java/lang/Object") 10 (lst [(.ref b7), (.ref b8), .null, .null, .null, .null, .null, .null, .null, .null] .null)) (V_b4 : Ovr Z k_b4 "java/lang/Object") (ge_b5 : Z.heap.size ≤ b5) (E_b5 : Exa Z h0 b5 "java/util/ArrayList") (ge_b6 : Z.heap.size ≤ b6) (E_b6 : Exa Z h0 b6 "java/util/ArrayList") (E_b7 : Exa Z h0 b7 "java/lang/Integer") (E_b8 : Exa Z h0 b8 "java/lang/Integer") (ne_b0_b1 : b0 ≠ b1) (ne_b0_b2 : b0 ≠ b2) (ne_b0_b3 : b0 ≠ b3) (ne_b0_b4 : b0 ≠ b4) (ne_b0_b5 : b0 ≠ b5) (ne_b0_b6 : b0 ≠ b6) (ne_b1_b2 : b1 ≠ b2) (ne_b1_b3 : b1 ≠ b3) (ne_b1_b4 : b1 ≠ b4) (ne_b1_b5 : b1 ≠ b5) (ne_b1_b6 : b1 ≠ b6) (ne_b2_b3 : b2 ≠ b3) (ne_b2_b4 : b2 ≠ b4) (ne_b2_b5 : b2 ≠ b5) (ne_b2_b6 : b2 ≠ b6) (ne_b3_b4 : b3 ≠ b4) (ne_b3_b5 : b3 ≠ b5) (ne_b3_b6 : b3 ≠ b6) (ne_b4_b5 : b4 ≠ b5) (ne_b4_b6 : b4 ≠ b6) (ne_b5_b6 : b5 ≠ b6)  :
    OMeets l Z mn7 prog_103_method_1_code 3 none [] ({ frames := 2, cells := 0, slots := 0, locals := 24 } : Room) #[(.ref b0), (.ref b1), (.ref b2)] h0 (fun v h L => v = none ∧ Fr Z.heap.size L ∧ Keep h0 h [b0] ∧ Fld Z h b0 "com/example/lichen/lichen/solver/TermSubsumption$Ways" "each" "Ljava/util/List;" (.ref b1) ∧ Fld Z h b0 "com/example/lichen/lichen/solver/TermSubsumption$Ways" "producers" "Ljava/util/List;" (.ref b2)) := by
  refine OMeets.of pn_mm11_45 #[.val (.ref b0), .val (.ref b1), .val (.ref b2)] (fun m => by first | rfl | (simp [entryFrame, mkF, argsToLocals, Value.category, maxLocals]; done)) ?_
  intro p e s m below meth c s₁ B X0 e0
  have F0 := OwnF.ext O0.2 FZ
  obtain ⟨S_D, ⟨kD, A_D⟩, S_high, T_cache⟩ := id F0
  refine s_aloadN B X0 (pc' := 1) d11_0 rfl rfl rfl ?_
  refine p_init B X0 (y := mn6) (pc' := 4) (argsL := []) (under := []) (W := 0) e0 rfl (tw70 hw) (tw71 hw) (tw74 hw) (tw73 hw) (by decide) (mm12_6 l Z a0 hw b0 w_D h0 FZ O0 ge_b0 E_b0 D_b0_each D_b0_producers ) (lenOf pd_0 rfl) rfl rfl (by decide) (by decide) rfl rfl (by decide) (by decide) rfl d11_1 rfl (fun T1 X1 e1 => ?_)
  show Go p e below _ (T1.setTop (mkF m 4 #[.val (.ref b0), .val (.ref b1), .val (.ref b2)] []))
  refine s_aloadN B X1 (pc' := 5) d11_4 rfl rfl rfl ?_
  refine s_aloadN B X1 (pc' := 6) d11_5 rfl rfl rfl ?_
  refine s_putF B X1 (pc' := 9) (ty := (.object "java/util/List")) e1 (host := "") (Or.inl (tw76 hw)) Via.refl D_b0_each E_b0 (Or.inr ⟨(tw77 hw), rfl, rfl⟩) (tw65 hw) (by decide) rfl rfl d11_6 rfl (fun T2 h2 X2 e2 W2 => ?_)
  have G2 := D_b0_each.same W2
  have N2 := Fr.snoc X2 (Fr.nil _) ge_b0
  have O2 := (O0).wr W2 ge_b0
  have F2 := OwnF.ext O2.2 FZ
  have K2 := ((Keep.refl h0 [b0])).wr W2 (Or.inl (List.mem_of_getElem? (i := 0) rfl))
  show Go p e below _ (T2.setTop (mkF m 9 #[.val (.ref b0), .val (.ref b1), .val (.ref b2)] []))
  refine s_aloadN B X2 (pc' := 10) d11_9 rfl rfl rfl ?_
  refine s_aloadN B X2 (pc' := 11) d11_10 rfl rfl rfl ?_
  have f4 := (D_b0_producers.other W2 (Or.inr (slot_ne (Or.inr (tw79 hw)) (Or.inr (tw77 hw)) (by decide) (t := (.object "java/util/List")) (t' := (.object "java/util/List")) (by decide) (by decide))))
  have f5 := (E_b0.wr W2)
  refine s_putF B X2 (pc' := 14) (ty := (.object "java/util/List")) e2 (host := "") (Or.inl (tw78 hw)) Via.refl f4 f5 (Or.inr ⟨(tw79 hw), rfl, rfl⟩) (tw65 hw) (by decide) rfl rfl d11_11 rfl (fun T3 h3 X3 e3 W3 => ?_)
  have G3 := f4.same W3
  have N3 := Fr.snoc X3 N2 ge_b0
  have O3 := (O2).wr W3 ge_b0
  have F3 := OwnF.ext O3.2 FZ
  have K3 := (K2).wr W3 (Or.inl (List.mem_of_getElem? (i := 0) rfl))
  show Go p e below _ (T3.setTop (mkF m 14 #[.val (.ref b0), .val (.ref b1), .val (.ref b2)] []))
  have f6 := (G2.other W3 (Or.inr (slot_ne (Or.inr (tw77 hw)) (Or.inr (tw79 hw)) (by decide) (t := (.object "java/util/List")) (t' := (.object "java/util/List")) (by decide) (by decide))))
  exact r_void B X3 rfl d11_14 (by rw [e3]; exact ⟨rfl, N3, K3, f6, G3⟩) (by decide) (by decide)

theorem pn_mm13_46 : plainFor mn10 = true := plainFor_of_name (show plainName "com/example/lichen/lichen/solver/TermSubsumption$Ways" = true by first | (simp [plainName, overriddenIn]; done) | decide +kernel)
set_option maxRecDepth 65536 in
set_option maxHeartbeats 40000000 in
theorem mm13_46 (l : Launch) (Z : State) (a0 : Array Value) (hw : ∀ d ∈ tables_1, d.before a0 Z = true) (b0 : Addr) (b1 : Addr) (b2 : Addr) (b3 : Addr) (b4 : Addr) (b5 : Addr) (b6 : Addr) (b7 : Addr) (b8 : Addr) (k_b3 : ClassId) (k_b4 : ClassId) (w_D : Addr) (h0 : Heap) (FZ : OwnF Z Z.heap w_D) (O0 : Old Z Z.heap.size h0) (ge_b0 : Z.heap.size ≤ b0) (E_b0 : Exa Z h0 b0 "com/example/lichen/lichen/solver/TermSubsumption$Ways") (D_b0_each : Fld Z h0 b0 "com/example/lichen/lichen/solver/TermSubsumption$Ways" "each" "Ljava/util/List;" (.ref b1)) (D_b0_producers : Fld Z h0 b0 "com/example/lichen/lichen/solver/TermSubsumption$Ways" "producers" "Ljava/util/List;" (.ref b2)) (ge_b1 : Z.heap.size ≤ b1) (E_b1 : Exa Z h0 b1 "java/util/ArrayList") (D_b1_elementData : Fld Z h0 b1 "java/util/ArrayList" "elementData" "[Ljava/lang/Object;" (.ref b3)) (D_b1_modCount : Fld Z h0 b1 "java/util/AbstractList" "modCount" "I" (.int (2 : Int32))) (D_b1_size : Fld Z h0 b1 "java/util/ArrayList" "size" "I" (.int (2 : Int32))) (ge_b2 : Z.heap.size ≤ b2) (E_b2 : Exa Z h0 b2 "java/util/ArrayList") (D_b2_elementData : Fld Z h0 b2 "java/util/ArrayList" "elementData" "[Ljava/lang/Object;" (.ref b4)) (D_b2_modCount : Fld Z h0 b2 "java/util/AbstractList" "modCount" "I" (.int (2 : Int32))) (D_b2_size : Fld Z h0 b2 "java/util/ArrayList" "size" "I" (.int (2 : Int32))) (ge_b3 : Z.heap.size ≤ b3) (A_b3 : Ary Z h0 b3 k_b3 (.object "java/lang/Object") 10 (lst [(.ref b5), (.ref b6), .null, .null, .null, .null, .null, .null, .null, .null] .null)) (V_b3 : Ovr Z k_b3 "java/lang/Object") (ge_b4 : Z.heap.size ≤ b4) (A_b4 : Ary Z h0 b4 k_b4 (.object "java/lang/Object") 10 (lst [(.ref b7), (.ref b8), .null, .null, .null, .null, .null, .null, .null, .null] .null)) (V_b4 : Ovr Z k_b4 "java/lang/Object") (ge_b5 : Z.heap.size ≤ b5) (E_b5 : Exa Z h0 b5 "java/util/ArrayList") (ge_b6 : Z.heap.size ≤ b6) (E_b6 : Exa Z h0 b6 "java/util/ArrayList") (E_b7 : Exa Z h0 b7 "java/lang/Integer") (E_b8 : Exa Z h0 b8 "java/lang/Integer") (ne_b0_b1 : b0 ≠ b1) (ne_b0_b2 : b0 ≠ b2) (ne_b0_b3 : b0 ≠ b3) (ne_b0_b4 : b0 ≠ b4) (ne_b0_b5 : b0 ≠ b5) (ne_b0_b6 : b0 ≠ b6) (ne_b1_b2 : b1 ≠ b2) (ne_b1_b3 : b1 ≠ b3) (ne_b1_b4 : b1 ≠ b4) (ne_b1_b5 : b1 ≠ b5) (ne_b1_b6 : b1 ≠ b6) (ne_b2_b3 : b2 ≠ b3) (ne_b2_b4 : b2 ≠ b4) (ne_b2_b5 : b2 ≠ b5) (ne_b2_b6 : b2 ≠ b6) (ne_b3_b4 : b3 ≠ b4) (ne_b3_b5 : b3 ≠ b5) (ne_b3_b6 : b3 ≠ b6) (ne_b4_b5 : b4 ≠ b5) (ne_b4_b6 : b4 ≠ b6) (ne_b5_b6 : b5 ≠ b6)  :
    OMeets l Z mn10 prog_103_method_3_code 1 (some .boolean) [] ({ frames := 1, cells := 0, slots := 0, locals := 12 } : Room) #[(.ref b0)] h0 (PureQ (some (.int (0 : Int32))) h0) := by
  refine OMeets.of pn_mm13_46 #[.val (.ref b0)] (fun m => by first | rfl | (simp [entryFrame, mkF, argsToLocals, Value.category, maxLocals]; done)) ?_
  intro p e s m below meth c s₁ B X0 e0
  have F0 := OwnF.ext O0.2 FZ
  obtain ⟨S_D, ⟨kD, A_D⟩, S_high, T_cache⟩ := id F0
  refine s_aloadN B X0 (pc' := 1) d13_0 rfl rfl rfl ?_
  refine s_getF B X0 (pc' := 4) e0 (host := "") (Or.inl (tw76 hw)) Via.refl D_b0_each d13_1 rfl (fun T1 X1 e1 => ?_)
  refine p_iface B X1 (y := mn9) (z := mn8) (pc' := 9) (argsL := []) (under := []) (W := 0) e1 (tw85 hw) (tw86 hw) (tw87 hw) (tw88 hw) (tw89 hw) (tw90 hw) (tw91 hw) (tw92 hw) (tw93 hw) (tw2 hw) (by decide) (mm14_41 l Z a0 hw b1 b3 b5 b6 k_b3 w_D h0 FZ O0 ge_b1 E_b1 D_b1_elementData D_b1_modCount D_b1_size ge_b3 A_b3 V_b3 ge_b5 E_b5 ge_b6 E_b6 ne_b1_b3 ne_b1_b5 ne_b1_b6 ne_b3_b5 ne_b3_b6 ne_b5_b6 ) E_b1 (lenOf pd_3 rfl) rfl rfl (by decide) (by decide) rfl rfl (by decide) (by decide) rfl d13_4 rfl (fun T2 X2 e2 => ?_)
  show Go p e below _ (T2.setTop (mkF m 9 #[.val (.ref b0)] [(.int (0 : Int32))]))
  refine s_ifY B X2 (pc' := 28) d13_9 (by decide) (by decide) (by decide) ?_
  refine s_iconst B X2 (pc' := 29) (v := (0 : Int32)) d13_28 rfl rfl ?_
  exact r_nar B X2 (t := .boolean) (by simp) rfl d13_29 ⟨rfl, rfl, e2⟩ (by decide) (by decide)

theorem pn_mm11_47 : plainFor mn7 = true := plainFor_of_name (show plainName "com/example/lichen/lichen/solver/TermSubsumption$Ways" = true by first | (simp [plainName, overriddenIn]; done) | decide +kernel)
set_option maxRecDepth 65536 in
set_option maxHeartbeats 40000000 in
theorem mm11_47 (l : Launch) (Z : State) (a0 : Array Value) (hw : ∀ d ∈ tables_1, d.before a0 Z = true) (b0 : Addr) (b1 : Addr) (b2 : Addr) (b3 : Addr) (b4 : Addr) (b5 : Addr) (b6 : Addr) (b7 : Addr) (b8 : Addr) (b9 : Addr) (k_b3 : ClassId) (k_b4 : ClassId) (w_D : Addr) (h0 : Heap) (FZ : OwnF Z Z.heap w_D) (O0 : Old Z Z.heap.size h0) (ge_b0 : Z.heap.size ≤ b0) (E_b0 : Exa Z h0 b0 "com/example/lichen/lichen/solver/TermSubsumption$Ways") (D_b0_each : Fld Z h0 b0 "com/example/lichen/lichen/solver/TermSubsumption$Ways" "each" "Ljava/util/List;" .null) (D_b0_producers : Fld Z h0 b0 "com/example/lichen/lichen/solver/TermSubsumption$Ways" "producers" "Ljava/util/List;" .null) (ge_b1 : Z.heap.size ≤ b1) (E_b1 : Exa Z h0 b1 "java/util/ArrayList") (D_b1_elementData : Fld Z h0 b1 "java/util/ArrayList" "elementData" "[Ljava/lang/Object;" (.ref b3)) (D_b1_modCount : Fld Z h0 b1 "java/util/AbstractList" "modCount" "I" (.int (2 : Int32))) (D_b1_size : Fld Z h0 b1 "java/util/ArrayList" "size" "I" (.int (2 : Int32))) (ge_b2 : Z.heap.size ≤ b2) (E_b2 : Exa Z h0 b2 "java/util/ArrayList") (D_b2_elementData : Fld Z h0 b2 "java/util/ArrayList" "elementData" "[Ljava/lang/Object;" (.ref b4)) (D_b2_modCount : Fld Z h0 b2 "java/util/AbstractList" "modCount" "I" (.int (3 : Int32))) (D_b2_size : Fld Z h0 b2 "java/util/ArrayList" "size" "I" (.int (3 : Int32))) (ge_b3 : Z.heap.size ≤ b3) (A_b3 : Ary Z h0 b3 k_b3 (.object "java/lang/Object") 10 (lst [(.ref b5), (.ref b6), .null, .null, .null, .null, .null, .null, .null, .null] .null)) (V_b3 : Ovr Z k_b3 "java/lang/Object") (ge_b4 : Z.heap.size ≤ b4) (A_b4 : Ary Z h0 b4 k_b4 (.object "java/lang/Object") 10 (lst [(.ref b7), (.ref b8), (.ref b9), .null, .null, .null, .null, .null, .null, .null] .null)) (V_b4 : Ovr Z k_b4 "java/lang/Object") (ge_b5 : Z.heap.size ≤ b5) (E_b5 : Exa Z h0 b5 "java/util/ArrayList") (ge_b6 : Z.heap.size ≤ b6) (E_b6 : Exa Z h0 b6 "java/util/ArrayList") (E_b7 : Exa Z h0 b7 "java/lang/Integer") (E_b8 : Exa Z h0 b8 "java/lang/Integer") (E_b9 : Exa Z h0 b9 "java/lang/Integer") (ne_b0_b1 : b0 ≠ b1) (ne_b0_b2 : b0 ≠ b2) (ne_b0_b3 : b0 ≠ b3) (ne_b0_b4 : b0 ≠ b4) (ne_b0_b5 : b0 ≠ b5) (ne_b0_b6 : b0 ≠ b6) (ne_b1_b2 : b1 ≠ b2) (ne_b1_b3 : b1 ≠ b3) (ne_b1_b4 : b1 ≠ b4) (ne_b1_b5 : b1 ≠ b5) (ne_b1_b6 : b1 ≠ b6) (ne_b2_b3 : b2 ≠ b3) (ne_b2_b4 : b2 ≠ b4) (ne_b2_b5 : b2 ≠ b5) (ne_b2_b6 : b2 ≠ b6) (ne_b3_b4 : b3 ≠ b4) (ne_b3_b5 : b3 ≠ b5) (ne_b3_b6 : b3 ≠ b6) (ne_b4_b5 : b4 ≠ b5) (ne_b4_b6 : b4 ≠ b6) (ne_b5_b6 : b5 ≠ b6)  :
    OMeets l Z mn7 prog_103_method_1_code 3 none [] ({ frames := 2, cells := 0, slots := 0, locals := 24 } : Room) #[(.ref b0), (.ref b1), (.ref b2)] h0 (fun v h L => v = none ∧ Fr Z.heap.size L ∧ Keep h0 h [b0] ∧ Fld Z h b0 "com/example/lichen/lichen/solver/TermSubsumption$Ways" "each" "Ljava/util/List;" (.ref b1) ∧ Fld Z h b0 "com/example/lichen/lichen/solver/TermSubsumption$Ways" "producers" "Ljava/util/List;" (.ref b2)) := by
  refine OMeets.of pn_mm11_47 #[.val (.ref b0), .val (.ref b1), .val (.ref b2)] (fun m => by first | rfl | (simp [entryFrame, mkF, argsToLocals, Value.category, maxLocals]; done)) ?_
  intro p e s m below meth c s₁ B X0 e0
  have F0 := OwnF.ext O0.2 FZ
  obtain ⟨S_D, ⟨kD, A_D⟩, S_high, T_cache⟩ := id F0
  refine s_aloadN B X0 (pc' := 1) d11_0 rfl rfl rfl ?_
  refine p_init B X0 (y := mn6) (pc' := 4) (argsL := []) (under := []) (W := 0) e0 rfl (tw70 hw) (tw71 hw) (tw74 hw) (tw73 hw) (by decide) (mm12_6 l Z a0 hw b0 w_D h0 FZ O0 ge_b0 E_b0 D_b0_each D_b0_producers ) (lenOf pd_0 rfl) rfl rfl (by decide) (by decide) rfl rfl (by decide) (by decide) rfl d11_1 rfl (fun T1 X1 e1 => ?_)
  show Go p e below _ (T1.setTop (mkF m 4 #[.val (.ref b0), .val (.ref b1), .val (.ref b2)] []))
  refine s_aloadN B X1 (pc' := 5) d11_4 rfl rfl rfl ?_
  refine s_aloadN B X1 (pc' := 6) d11_5 rfl rfl rfl ?_
  refine s_putF B X1 (pc' := 9) (ty := (.object "java/util/List")) e1 (host := "") (Or.inl (tw76 hw)) Via.refl D_b0_each E_b0 (Or.inr ⟨(tw77 hw), rfl, rfl⟩) (tw65 hw) (by decide) rfl rfl d11_6 rfl (fun T2 h2 X2 e2 W2 => ?_)
  have G2 := D_b0_each.same W2
  have N2 := Fr.snoc X2 (Fr.nil _) ge_b0
  have O2 := (O0).wr W2 ge_b0
  have F2 := OwnF.ext O2.2 FZ
  have K2 := ((Keep.refl h0 [b0])).wr W2 (Or.inl (List.mem_of_getElem? (i := 0) rfl))
  show Go p e below _ (T2.setTop (mkF m 9 #[.val (.ref b0), .val (.ref b1), .val (.ref b2)] []))
  refine s_aloadN B X2 (pc' := 10) d11_9 rfl rfl rfl ?_
  refine s_aloadN B X2 (pc' := 11) d11_10 rfl rfl rfl ?_
  have f4 := (D_b0_producers.other W2 (Or.inr (slot_ne (Or.inr (tw79 hw)) (Or.inr (tw77 hw)) (by decide) (t := (.object "java/util/List")) (t' := (.object "java/util/List")) (by decide) (by decide))))
  have f5 := (E_b0.wr W2)
  refine s_putF B X2 (pc' := 14) (ty := (.object "java/util/List")) e2 (host := "") (Or.inl (tw78 hw)) Via.refl f4 f5 (Or.inr ⟨(tw79 hw), rfl, rfl⟩) (tw65 hw) (by decide) rfl rfl d11_11 rfl (fun T3 h3 X3 e3 W3 => ?_)
  have G3 := f4.same W3
  have N3 := Fr.snoc X3 N2 ge_b0
  have O3 := (O2).wr W3 ge_b0
  have F3 := OwnF.ext O3.2 FZ
  have K3 := (K2).wr W3 (Or.inl (List.mem_of_getElem? (i := 0) rfl))
  show Go p e below _ (T3.setTop (mkF m 14 #[.val (.ref b0), .val (.ref b1), .val (.ref b2)] []))
  have f6 := (G2.other W3 (Or.inr (slot_ne (Or.inr (tw77 hw)) (Or.inr (tw79 hw)) (by decide) (t := (.object "java/util/List")) (t' := (.object "java/util/List")) (by decide) (by decide))))
  exact r_void B X3 rfl d11_14 (by rw [e3]; exact ⟨rfl, N3, K3, f6, G3⟩) (by decide) (by decide)

theorem pn_mm13_48 : plainFor mn10 = true := plainFor_of_name (show plainName "com/example/lichen/lichen/solver/TermSubsumption$Ways" = true by first | (simp [plainName, overriddenIn]; done) | decide +kernel)
set_option maxRecDepth 65536 in
set_option maxHeartbeats 40000000 in
theorem mm13_48 (l : Launch) (Z : State) (a0 : Array Value) (hw : ∀ d ∈ tables_1, d.before a0 Z = true) (b0 : Addr) (b1 : Addr) (b2 : Addr) (b3 : Addr) (b4 : Addr) (b5 : Addr) (b6 : Addr) (b7 : Addr) (b8 : Addr) (b9 : Addr) (k_b3 : ClassId) (k_b4 : ClassId) (w_D : Addr) (h0 : Heap) (FZ : OwnF Z Z.heap w_D) (O0 : Old Z Z.heap.size h0) (ge_b0 : Z.heap.size ≤ b0) (E_b0 : Exa Z h0 b0 "com/example/lichen/lichen/solver/TermSubsumption$Ways") (D_b0_each : Fld Z h0 b0 "com/example/lichen/lichen/solver/TermSubsumption$Ways" "each" "Ljava/util/List;" (.ref b1)) (D_b0_producers : Fld Z h0 b0 "com/example/lichen/lichen/solver/TermSubsumption$Ways" "producers" "Ljava/util/List;" (.ref b2)) (ge_b1 : Z.heap.size ≤ b1) (E_b1 : Exa Z h0 b1 "java/util/ArrayList") (D_b1_elementData : Fld Z h0 b1 "java/util/ArrayList" "elementData" "[Ljava/lang/Object;" (.ref b3)) (D_b1_modCount : Fld Z h0 b1 "java/util/AbstractList" "modCount" "I" (.int (2 : Int32))) (D_b1_size : Fld Z h0 b1 "java/util/ArrayList" "size" "I" (.int (2 : Int32))) (ge_b2 : Z.heap.size ≤ b2) (E_b2 : Exa Z h0 b2 "java/util/ArrayList") (D_b2_elementData : Fld Z h0 b2 "java/util/ArrayList" "elementData" "[Ljava/lang/Object;" (.ref b4)) (D_b2_modCount : Fld Z h0 b2 "java/util/AbstractList" "modCount" "I" (.int (3 : Int32))) (D_b2_size : Fld Z h0 b2 "java/util/ArrayList" "size" "I" (.int (3 : Int32))) (ge_b3 : Z.heap.size ≤ b3) (A_b3 : Ary Z h0 b3 k_b3 (.object "java/lang/Object") 10 (lst [(.ref b5), (.ref b6), .null, .null, .null, .null, .null, .null, .null, .null] .null)) (V_b3 : Ovr Z k_b3 "java/lang/Object") (ge_b4 : Z.heap.size ≤ b4) (A_b4 : Ary Z h0 b4 k_b4 (.object "java/lang/Object") 10 (lst [(.ref b7), (.ref b8), (.ref b9), .null, .null, .null, .null, .null, .null, .null] .null)) (V_b4 : Ovr Z k_b4 "java/lang/Object") (ge_b5 : Z.heap.size ≤ b5) (E_b5 : Exa Z h0 b5 "java/util/ArrayList") (ge_b6 : Z.heap.size ≤ b6) (E_b6 : Exa Z h0 b6 "java/util/ArrayList") (E_b7 : Exa Z h0 b7 "java/lang/Integer") (E_b8 : Exa Z h0 b8 "java/lang/Integer") (E_b9 : Exa Z h0 b9 "java/lang/Integer") (ne_b0_b1 : b0 ≠ b1) (ne_b0_b2 : b0 ≠ b2) (ne_b0_b3 : b0 ≠ b3) (ne_b0_b4 : b0 ≠ b4) (ne_b0_b5 : b0 ≠ b5) (ne_b0_b6 : b0 ≠ b6) (ne_b1_b2 : b1 ≠ b2) (ne_b1_b3 : b1 ≠ b3) (ne_b1_b4 : b1 ≠ b4) (ne_b1_b5 : b1 ≠ b5) (ne_b1_b6 : b1 ≠ b6) (ne_b2_b3 : b2 ≠ b3) (ne_b2_b4 : b2 ≠ b4) (ne_b2_b5 : b2 ≠ b5) (ne_b2_b6 : b2 ≠ b6) (ne_b3_b4 : b3 ≠ b4) (ne_b3_b5 : b3 ≠ b5) (ne_b3_b6 : b3 ≠ b6) (ne_b4_b5 : b4 ≠ b5) (ne_b4_b6 : b4 ≠ b6) (ne_b5_b6 : b5 ≠ b6)  :
    OMeets l Z mn10 prog_103_method_3_code 1 (some .boolean) [] ({ frames := 1, cells := 0, slots := 0, locals := 12 } : Room) #[(.ref b0)] h0 (PureQ (some (.int (0 : Int32))) h0) := by
  refine OMeets.of pn_mm13_48 #[.val (.ref b0)] (fun m => by first | rfl | (simp [entryFrame, mkF, argsToLocals, Value.category, maxLocals]; done)) ?_
  intro p e s m below meth c s₁ B X0 e0
  have F0 := OwnF.ext O0.2 FZ
  obtain ⟨S_D, ⟨kD, A_D⟩, S_high, T_cache⟩ := id F0
  refine s_aloadN B X0 (pc' := 1) d13_0 rfl rfl rfl ?_
  refine s_getF B X0 (pc' := 4) e0 (host := "") (Or.inl (tw76 hw)) Via.refl D_b0_each d13_1 rfl (fun T1 X1 e1 => ?_)
  refine p_iface B X1 (y := mn9) (z := mn8) (pc' := 9) (argsL := []) (under := []) (W := 0) e1 (tw85 hw) (tw86 hw) (tw87 hw) (tw88 hw) (tw89 hw) (tw90 hw) (tw91 hw) (tw92 hw) (tw93 hw) (tw2 hw) (by decide) (mm14_41 l Z a0 hw b1 b3 b5 b6 k_b3 w_D h0 FZ O0 ge_b1 E_b1 D_b1_elementData D_b1_modCount D_b1_size ge_b3 A_b3 V_b3 ge_b5 E_b5 ge_b6 E_b6 ne_b1_b3 ne_b1_b5 ne_b1_b6 ne_b3_b5 ne_b3_b6 ne_b5_b6 ) E_b1 (lenOf pd_3 rfl) rfl rfl (by decide) (by decide) rfl rfl (by decide) (by decide) rfl d13_4 rfl (fun T2 X2 e2 => ?_)
  show Go p e below _ (T2.setTop (mkF m 9 #[.val (.ref b0)] [(.int (0 : Int32))]))
  refine s_ifY B X2 (pc' := 28) d13_9 (by decide) (by decide) (by decide) ?_
  refine s_iconst B X2 (pc' := 29) (v := (0 : Int32)) d13_28 rfl rfl ?_
  exact r_nar B X2 (t := .boolean) (by simp) rfl d13_29 ⟨rfl, rfl, e2⟩ (by decide) (by decide)

theorem pn_mm7_49 : plainFor mn14 = true := by first | exact plainFor_of_name (show plainName "java/util/ArrayList" = true by first | (simp [plainName, overriddenIn]; done) | decide +kernel) | decide +kernel
set_option maxRecDepth 65536 in
set_option maxHeartbeats 40000000 in
theorem mm7_49 (l : Launch) (Z : State) (a0 : Array Value) (hw : ∀ d ∈ tables_1, d.before a0 Z = true) (b0 : Addr) (b1 : Addr) (b2 : Addr) (b3 : Addr) (b4 : Addr) (k_b2 : ClassId) (w_D : Addr) (h0 : Heap) (FZ : OwnF Z Z.heap w_D) (O0 : Old Z Z.heap.size h0) (ge_b0 : Z.heap.size ≤ b0) (E_b0 : Exa Z h0 b0 "java/util/ArrayList") (D_b0_elementData : Fld Z h0 b0 "java/util/ArrayList" "elementData" "[Ljava/lang/Object;" (.ref b2)) (D_b0_modCount : Fld Z h0 b0 "java/util/AbstractList" "modCount" "I" (.int (3 : Int32))) (D_b0_size : Fld Z h0 b0 "java/util/ArrayList" "size" "I" (.int (2 : Int32))) (ge_b1 : Z.heap.size ≤ b1) (E_b1 : Exa Z h0 b1 "java/util/ArrayList") (ge_b2 : Z.heap.size ≤ b2) (A_b2 : Ary Z h0 b2 k_b2 (.object "java/lang/Object") 10 (lst [(.ref b3), (.ref b4), .null, .null, .null, .null, .null, .null, .null, .null] .null)) (V_b2 : Ovr Z k_b2 "java/lang/Object") (ge_b3 : Z.heap.size ≤ b3) (E_b3 : Exa Z h0 b3 "java/util/ArrayList") (ge_b4 : Z.heap.size ≤ b4) (E_b4 : Exa Z h0 b4 "java/util/ArrayList") (ne_b0_b1 : b0 ≠ b1) (ne_b0_b2 : b0 ≠ b2) (ne_b0_b3 : b0 ≠ b3) (ne_b0_b4 : b0 ≠ b4) (ne_b1_b2 : b1 ≠ b2) (ne_b1_b3 : b1 ≠ b3) (ne_b1_b4 : b1 ≠ b4) (ne_b2_b3 : b2 ≠ b3) (ne_b2_b4 : b2 ≠ b4) (ne_b3_b4 : b3 ≠ b4)  :
    OMeets l Z mn14 jdk_38_method_24_code 4 none [] ({ frames := 0, cells := 0, slots := 0, locals := 0 } : Room) #[(.ref b0), (.ref b1), (.ref b2), (.int (2 : Int32))] h0 (fun v h L => v = none ∧ Fr Z.heap.size L ∧ Keep h0 h [b0, b2] ∧ Fld Z h b0 "java/util/ArrayList" "elementData" "[Ljava/lang/Object;" (.ref b2) ∧ Fld Z h b0 "java/util/AbstractList" "modCount" "I" (.int (3 : Int32)) ∧ Fld Z h b0 "java/util/ArrayList" "size" "I" (.int (3 : Int32)) ∧ Ary Z h b2 k_b2 (.object "java/lang/Object") 10 (lst [(.ref b3), (.ref b4), (.ref b1), .null, .null, .null, .null, .null, .null, .null] .null)) := by
  refine OMeets.of pn_mm7_49 #[.val (.ref b0), .val (.ref b1), .val (.ref b2), .val (.int (2 : Int32))] (fun m => by first | rfl | (simp [entryFrame, mkF, argsToLocals, Value.category, maxLocals]; done)) ?_
  intro p e s m below meth c s₁ B X0 e0
  have F0 := OwnF.ext O0.2 FZ
  obtain ⟨S_D, ⟨kD, A_D⟩, S_high, T_cache⟩ := id F0
  refine s_iloadN B X0 (pc' := 1) d7_0 rfl rfl ?_
  refine s_aloadN B X0 (pc' := 2) d7_1 rfl rfl rfl ?_
  refine s_len B X0 (pc' := 3) (v := (10 : Int32)) e0 A_b2 rfl d7_2 rfl ?_
  refine s_icmpY B X0 (pc' := 11) d7_3 (by decide) (by decide) (by decide) ?_
  refine s_aloadN B X0 (pc' := 12) d7_11 rfl rfl rfl ?_
  refine s_iloadN B X0 (pc' := 13) d7_12 rfl rfl ?_
  refine s_aloadN B X0 (pc' := 14) d7_13 rfl rfl rfl ?_
  refine s_stR B X0 (pc' := 15) (jn := 2) e0 A_b2 rfl (Ary.sto A_b2 V_b2 (Ins.of_exa E_b1 (tw106 hw))) (by decide) (by decide) (by decide) d7_14 rfl (fun T1 h1 X1 e1 W1 A1 => ?_)
  replace A1 := A1.full (show 2 < 10 by decide) (L' := [(.ref b3), (.ref b4), (.ref b1), .null, .null, .null, .null, .null, .null, .null]) rfl
  have N1 := Fr.snoc X1 (Fr.nil _) ge_b2
  have O1 := (O0).wr W1 ge_b2
  have F1 := OwnF.ext O1.2 FZ
  have K1 := ((Keep.refl h0 [b0, b2])).wr W1 (Or.inl (List.mem_of_getElem? (i := 1) rfl))
  show Go p e below _ (T1.setTop (mkF m 15 #[.val (.ref b0), .val (.ref b1), .val (.ref b2), .val (.int (2 : Int32))] []))
  refine s_aloadN B X1 (pc' := 16) d7_15 rfl rfl rfl ?_
  refine s_iloadN B X1 (pc' := 17) d7_16 rfl rfl ?_
  refine s_iconst B X1 (pc' := 18) (v := (1 : Int32)) d7_17 rfl rfl ?_
  refine s_iadd B X1 (pc' := 19) (v := (3 : Int32)) d7_18 rfl rfl ?_
  have f3 := (D_b0_size.other W1 (Or.inl ne_b0_b2))
  have f4 := (E_b0.wr W1)
  refine s_putF B X1 (pc' := 22) (ty := .int) e1 (host := "") (Or.inl (tw40 hw)) Via.refl f3 f4 (Or.inl (tw41 hw)) (tw1 hw) (by decide) rfl rfl d7_19 rfl (fun T2 h2 X2 e2 W2 => ?_)
  have G2 := f3.same W2
  have N2 := Fr.snoc X2 N1 ge_b0
  have O2 := (O1).wr W2 ge_b0
  have F2 := OwnF.ext O2.2 FZ
  have K2 := (K1).wr W2 (Or.inl (List.mem_of_getElem? (i := 0) rfl))
  show Go p e below _ (T2.setTop (mkF m 22 #[.val (.ref b0), .val (.ref b1), .val (.ref b2), .val (.int (2 : Int32))] []))
  have f5 := ((D_b0_elementData.other W1 (Or.inl ne_b0_b2)).other W2 (Or.inr (slot_ne (Or.inl (tw25 hw)) (Or.inl (tw41 hw)) (by decide) (t := (.array (.object "java/lang/Object"))) (t' := .int) (by decide) (by decide))))
  have f6 := ((D_b0_modCount.other W1 (Or.inl ne_b0_b2)).other W2 (Or.inr (slot_ne (Or.inl (tw22 hw)) (Or.inl (tw41 hw)) (by decide) (t := .int) (t' := .int) (by decide) (by decide))))
  have f7 := (Ary.other W2 A1 (Ne.symm ne_b0_b2))
  exact r_void B X2 rfl d7_22 (by rw [e2]; exact ⟨rfl, N2, K2, f5, f6, G2, f7⟩) (by decide) (by decide)

theorem pn_mm6_49 : plainFor mn15 = true := by first | exact plainFor_of_name (show plainName "java/util/ArrayList" = true by first | (simp [plainName, overriddenIn]; done) | decide +kernel) | decide +kernel
set_option maxRecDepth 65536 in
set_option maxHeartbeats 40000000 in
theorem mm6_49 (l : Launch) (Z : State) (a0 : Array Value) (hw : ∀ d ∈ tables_1, d.before a0 Z = true) (b0 : Addr) (b1 : Addr) (b2 : Addr) (b3 : Addr) (b4 : Addr) (k_b2 : ClassId) (w_D : Addr) (h0 : Heap) (FZ : OwnF Z Z.heap w_D) (O0 : Old Z Z.heap.size h0) (ge_b0 : Z.heap.size ≤ b0) (E_b0 : Exa Z h0 b0 "java/util/ArrayList") (D_b0_elementData : Fld Z h0 b0 "java/util/ArrayList" "elementData" "[Ljava/lang/Object;" (.ref b2)) (D_b0_modCount : Fld Z h0 b0 "java/util/AbstractList" "modCount" "I" (.int (2 : Int32))) (D_b0_size : Fld Z h0 b0 "java/util/ArrayList" "size" "I" (.int (2 : Int32))) (ge_b1 : Z.heap.size ≤ b1) (E_b1 : Exa Z h0 b1 "java/util/ArrayList") (ge_b2 : Z.heap.size ≤ b2) (A_b2 : Ary Z h0 b2 k_b2 (.object "java/lang/Object") 10 (lst [(.ref b3), (.ref b4), .null, .null, .null, .null, .null, .null, .null, .null] .null)) (V_b2 : Ovr Z k_b2 "java/lang/Object") (ge_b3 : Z.heap.size ≤ b3) (E_b3 : Exa Z h0 b3 "java/util/ArrayList") (ge_b4 : Z.heap.size ≤ b4) (E_b4 : Exa Z h0 b4 "java/util/ArrayList") (ne_b0_b1 : b0 ≠ b1) (ne_b0_b2 : b0 ≠ b2) (ne_b0_b3 : b0 ≠ b3) (ne_b0_b4 : b0 ≠ b4) (ne_b1_b2 : b1 ≠ b2) (ne_b1_b3 : b1 ≠ b3) (ne_b1_b4 : b1 ≠ b4) (ne_b2_b3 : b2 ≠ b3) (ne_b2_b4 : b2 ≠ b4) (ne_b3_b4 : b3 ≠ b4)  :
    OMeets l Z mn15 jdk_38_method_25_code 2 (some .boolean) [] ({ frames := 1, cells := 0, slots := 0, locals := 15 } : Room) #[(.ref b0), (.ref b1)] h0 (fun v h L => v = some (.int (1 : Int32)) ∧ Fr Z.heap.size L ∧ Keep h0 h [b0, b2] ∧ Fld Z h b0 "java/util/ArrayList" "elementData" "[Ljava/lang/Object;" (.ref b2) ∧ Fld Z h b0 "java/util/AbstractList" "modCount" "I" (.int (3 : Int32)) ∧ Fld Z h b0 "java/util/ArrayList" "size" "I" (.int (3 : Int32)) ∧ Ary Z h b2 k_b2 (.object "java/lang/Object") 10 (lst [(.ref b3), (.ref b4), (.ref b1), .null, .null, .null, .null, .null, .null, .null] .null)) := by
  refine OMeets.of pn_mm6_49 #[.val (.ref b0), .val (.ref b1)] (fun m => by first | rfl | (simp [entryFrame, mkF, argsToLocals, Value.category, maxLocals]; done)) ?_
  intro p e s m below meth c s₁ B X0 e0
  have F0 := OwnF.ext O0.2 FZ
  obtain ⟨S_D, ⟨kD, A_D⟩, S_high, T_cache⟩ := id F0
  refine s_aloadN B X0 (pc' := 1) d6_0 rfl rfl rfl ?_
  refine s_dup B X0 (pc' := 2) d6_1 rfl rfl ?_
  refine s_getF B X0 (pc' := 5) e0 (host := "") (Or.inl (tw38 hw)) (Via.of (tw39 hw)) D_b0_modCount d6_2 rfl (fun T1 X1 e1 => ?_)
  refine s_iconst B X1 (pc' := 6) (v := (1 : Int32)) d6_5 rfl rfl ?_
  refine s_iadd B X1 (pc' := 7) (v := (3 : Int32)) d6_6 rfl rfl ?_
  refine s_putF B X1 (pc' := 10) (ty := .int) e1 (host := "") (Or.inl (tw38 hw)) (Via.of (tw39 hw)) D_b0_modCount E_b0 (Or.inl (tw22 hw)) (tw1 hw) (by decide) rfl rfl d6_7 rfl (fun T2 h2 X2 e2 W2 => ?_)
  have G2 := D_b0_modCount.same W2
  have N2 := Fr.snoc X2 (Fr.nil _) ge_b0
  have O2 := (O0).wr W2 ge_b0
  have F2 := OwnF.ext O2.2 FZ
  have K2 := ((Keep.refl h0 [b0, b2])).wr W2 (Or.inl (List.mem_of_getElem? (i := 0) rfl))
  show Go p e below _ (T2.setTop (mkF m 10 #[.val (.ref b0), .val (.ref b1)] []))
  refine s_aloadN B X2 (pc' := 11) d6_10 rfl rfl rfl ?_
  refine s_aloadN B X2 (pc' := 12) d6_11 rfl rfl rfl ?_
  refine s_aloadN B X2 (pc' := 13) d6_12 rfl rfl rfl ?_
  have f3 := (D_b0_elementData.other W2 (Or.inr (slot_ne (Or.inl (tw25 hw)) (Or.inl (tw22 hw)) (by decide) (t := (.array (.object "java/lang/Object"))) (t' := .int) (by decide) (by decide))))
  refine s_getF B X2 (pc' := 16) e2 (host := "") (Or.inl (tw24 hw)) Via.refl f3 d6_13 rfl (fun T4 X4 e4 => ?_)
  refine s_aloadN B X4 (pc' := 17) d6_16 rfl rfl rfl ?_
  have f5 := (D_b0_size.other W2 (Or.inr (slot_ne (Or.inl (tw41 hw)) (Or.inl (tw22 hw)) (by decide) (t := .int) (t' := .int) (by decide) (by decide))))
  refine s_getF B X4 (pc' := 20) e4 (host := "") (Or.inl (tw40 hw)) Via.refl f5 d6_17 rfl (fun T6 X6 e6 => ?_)
  have f7 := (E_b0.wr W2)
  have f8 := (E_b1.wr W2)
  have f9 := (Ary.other W2 A_b2 (Ne.symm ne_b0_b2))
  have f10 := (E_b3.wr W2)
  have f11 := (E_b4.wr W2)
  refine c_private B X6 (y := mn14) (pc' := 23) (argsL := [(.ref b1), (.ref b2), (.int (2 : Int32))]) (under := []) (W := 0) e6 (tw42 hw) (tw1 hw) (tw44 hw) (tw43 hw) (tw46 hw) (tw2 hw) (by decide) (mm7_49 l Z a0 hw b0 b1 b2 b3 b4 k_b2 w_D h2 FZ O2 ge_b0 f7 f3 G2 f5 ge_b1 f8 ge_b2 f9 V_b2 ge_b3 f10 ge_b4 f11 ne_b0_b1 ne_b0_b2 ne_b0_b3 ne_b0_b4 ne_b1_b2 ne_b1_b3 ne_b1_b4 ne_b2_b3 ne_b2_b4 ne_b3_b4 ) f7 (lenOf pd_8 rfl) rfl rfl (by decide) (by decide) (by decide) (by decide) rfl d6_20 rfl (fun v12 T12 L12 X12 hQ12 => ?_)
  obtain ⟨rfl, Nq12, Kq12, u12_0, u12_1, u12_2, u12_3⟩ := hQ12
  obtain ⟨h12, e12⟩ : ∃ z, T12.heap = z := ⟨_, rfl⟩
  rw [e12] at Kq12 u12_0 u12_1 u12_2 u12_3
  have N12 := Fr.app N2 Nq12
  have O12 := (O2).keep Kq12 (allS ge_b0 (allS ge_b2 all0))
  have F12 := OwnF.ext O12.2 FZ
  have K12 := (K2).trans Kq12 (allS (Or.inl (List.mem_of_getElem? (i := 0) rfl)) (allS (Or.inl (List.mem_of_getElem? (i := 1) rfl)) all0))
  show Go p e below _ (T12.setTop (mkF m 23 #[.val (.ref b0), .val (.ref b1)] []))
  refine s_iconst B X12 (pc' := 24) (v := (1 : Int32)) d6_23 rfl rfl ?_
  exact r_nar B X12 (t := .boolean) (by simp) rfl d6_24 (by rw [e12]; exact ⟨rfl, N12, K12, u12_0, u12_1, u12_2, u12_3⟩) (by decide) (by decide)

theorem pn_mm11_51 : plainFor mn7 = true := plainFor_of_name (show plainName "com/example/lichen/lichen/solver/TermSubsumption$Ways" = true by first | (simp [plainName, overriddenIn]; done) | decide +kernel)
set_option maxRecDepth 65536 in
set_option maxHeartbeats 40000000 in
theorem mm11_51 (l : Launch) (Z : State) (a0 : Array Value) (hw : ∀ d ∈ tables_1, d.before a0 Z = true) (b0 : Addr) (b1 : Addr) (b2 : Addr) (b3 : Addr) (b4 : Addr) (b5 : Addr) (b6 : Addr) (k_b3 : ClassId) (w_D : Addr) (h0 : Heap) (FZ : OwnF Z Z.heap w_D) (O0 : Old Z Z.heap.size h0) (ge_b0 : Z.heap.size ≤ b0) (E_b0 : Exa Z h0 b0 "com/example/lichen/lichen/solver/TermSubsumption$Ways") (D_b0_each : Fld Z h0 b0 "com/example/lichen/lichen/solver/TermSubsumption$Ways" "each" "Ljava/util/List;" .null) (D_b0_producers : Fld Z h0 b0 "com/example/lichen/lichen/solver/TermSubsumption$Ways" "producers" "Ljava/util/List;" .null) (ge_b1 : Z.heap.size ≤ b1) (E_b1 : Exa Z h0 b1 "java/util/ArrayList") (D_b1_elementData : Fld Z h0 b1 "java/util/ArrayList" "elementData" "[Ljava/lang/Object;" (.ref b3)) (D_b1_modCount : Fld Z h0 b1 "java/util/AbstractList" "modCount" "I" (.int (3 : Int32))) (D_b1_size : Fld Z h0 b1 "java/util/ArrayList" "size" "I" (.int (3 : Int32))) (ge_b2 : Z.heap.size ≤ b2) (E_b2 : Exa Z h0 b2 "java/util/ArrayList") (D_b2_elementData : Fld Z h0 b2 "java/util/ArrayList" "elementData" "[Ljava/lang/Object;" (.ref w_D)) (D_b2_modCount : Fld Z h0 b2 "java/util/AbstractList" "modCount" "I" (.int (0 : Int32))) (D_b2_size : Fld Z h0 b2 "java/util/ArrayList" "size" "I" (.int (0 : Int32))) (ge_b3 : Z.heap.size ≤ b3) (A_b3 : Ary Z h0 b3 k_b3 (.object "java/lang/Object") 10 (lst [(.ref b4), (.ref b5), (.ref b6), .null, .null, .null, .null, .null, .null, .null] .null)) (V_b3 : Ovr Z k_b3 "java/lang/Object") (ge_b4 : Z.heap.size ≤ b4) (E_b4 : Exa Z h0 b4 "java/util/ArrayList") (ge_b5 : Z.heap.size ≤ b5) (E_b5 : Exa Z h0 b5 "java/util/ArrayList") (ge_b6 : Z.heap.size ≤ b6) (E_b6 : Exa Z h0 b6 "java/util/ArrayList") (ne_b0_b1 : b0 ≠ b1) (ne_b0_b2 : b0 ≠ b2) (ne_b0_b3 : b0 ≠ b3) (ne_b0_b4 : b0 ≠ b4) (ne_b0_b5 : b0 ≠ b5) (ne_b0_b6 : b0 ≠ b6) (ne_b1_b2 : b1 ≠ b2) (ne_b1_b3 : b1 ≠ b3) (ne_b1_b4 : b1 ≠ b4) (ne_b1_b5 : b1 ≠ b5) (ne_b1_b6 : b1 ≠ b6) (ne_b2_b3 : b2 ≠ b3) (ne_b2_b4 : b2 ≠ b4) (ne_b2_b5 : b2 ≠ b5) (ne_b2_b6 : b2 ≠ b6) (ne_b3_b4 : b3 ≠ b4) (ne_b3_b5 : b3 ≠ b5) (ne_b3_b6 : b3 ≠ b6) (ne_b4_b5 : b4 ≠ b5) (ne_b4_b6 : b4 ≠ b6) (ne_b5_b6 : b5 ≠ b6)  :
    OMeets l Z mn7 prog_103_method_1_code 3 none [] ({ frames := 2, cells := 0, slots := 0, locals := 24 } : Room) #[(.ref b0), (.ref b1), (.ref b2)] h0 (fun v h L => v = none ∧ Fr Z.heap.size L ∧ Keep h0 h [b0] ∧ Fld Z h b0 "com/example/lichen/lichen/solver/TermSubsumption$Ways" "each" "Ljava/util/List;" (.ref b1) ∧ Fld Z h b0 "com/example/lichen/lichen/solver/TermSubsumption$Ways" "producers" "Ljava/util/List;" (.ref b2)) := by
  refine OMeets.of pn_mm11_51 #[.val (.ref b0), .val (.ref b1), .val (.ref b2)] (fun m => by first | rfl | (simp [entryFrame, mkF, argsToLocals, Value.category, maxLocals]; done)) ?_
  intro p e s m below meth c s₁ B X0 e0
  have F0 := OwnF.ext O0.2 FZ
  obtain ⟨S_D, ⟨kD, A_D⟩, S_high, T_cache⟩ := id F0
  refine s_aloadN B X0 (pc' := 1) d11_0 rfl rfl rfl ?_
  refine p_init B X0 (y := mn6) (pc' := 4) (argsL := []) (under := []) (W := 0) e0 rfl (tw70 hw) (tw71 hw) (tw74 hw) (tw73 hw) (by decide) (mm12_6 l Z a0 hw b0 w_D h0 FZ O0 ge_b0 E_b0 D_b0_each D_b0_producers ) (lenOf pd_0 rfl) rfl rfl (by decide) (by decide) rfl rfl (by decide) (by decide) rfl d11_1 rfl (fun T1 X1 e1 => ?_)
  show Go p e below _ (T1.setTop (mkF m 4 #[.val (.ref b0), .val (.ref b1), .val (.ref b2)] []))
  refine s_aloadN B X1 (pc' := 5) d11_4 rfl rfl rfl ?_
  refine s_aloadN B X1 (pc' := 6) d11_5 rfl rfl rfl ?_
  refine s_putF B X1 (pc' := 9) (ty := (.object "java/util/List")) e1 (host := "") (Or.inl (tw76 hw)) Via.refl D_b0_each E_b0 (Or.inr ⟨(tw77 hw), rfl, rfl⟩) (tw65 hw) (by decide) rfl rfl d11_6 rfl (fun T2 h2 X2 e2 W2 => ?_)
  have G2 := D_b0_each.same W2
  have N2 := Fr.snoc X2 (Fr.nil _) ge_b0
  have O2 := (O0).wr W2 ge_b0
  have F2 := OwnF.ext O2.2 FZ
  have K2 := ((Keep.refl h0 [b0])).wr W2 (Or.inl (List.mem_of_getElem? (i := 0) rfl))
  show Go p e below _ (T2.setTop (mkF m 9 #[.val (.ref b0), .val (.ref b1), .val (.ref b2)] []))
  refine s_aloadN B X2 (pc' := 10) d11_9 rfl rfl rfl ?_
  refine s_aloadN B X2 (pc' := 11) d11_10 rfl rfl rfl ?_
  have f4 := (D_b0_producers.other W2 (Or.inr (slot_ne (Or.inr (tw79 hw)) (Or.inr (tw77 hw)) (by decide) (t := (.object "java/util/List")) (t' := (.object "java/util/List")) (by decide) (by decide))))
  have f5 := (E_b0.wr W2)
  refine s_putF B X2 (pc' := 14) (ty := (.object "java/util/List")) e2 (host := "") (Or.inl (tw78 hw)) Via.refl f4 f5 (Or.inr ⟨(tw79 hw), rfl, rfl⟩) (tw65 hw) (by decide) rfl rfl d11_11 rfl (fun T3 h3 X3 e3 W3 => ?_)
  have G3 := f4.same W3
  have N3 := Fr.snoc X3 N2 ge_b0
  have O3 := (O2).wr W3 ge_b0
  have F3 := OwnF.ext O3.2 FZ
  have K3 := (K2).wr W3 (Or.inl (List.mem_of_getElem? (i := 0) rfl))
  show Go p e below _ (T3.setTop (mkF m 14 #[.val (.ref b0), .val (.ref b1), .val (.ref b2)] []))
  have f6 := (G2.other W3 (Or.inr (slot_ne (Or.inr (tw77 hw)) (Or.inr (tw79 hw)) (by decide) (t := (.object "java/util/List")) (t' := (.object "java/util/List")) (by decide) (by decide))))
  exact r_void B X3 rfl d11_14 (by rw [e3]; exact ⟨rfl, N3, K3, f6, G3⟩) (by decide) (by decide)

theorem pn_mm14_52 : plainFor mn8 = true := by first | exact plainFor_of_name (show plainName "java/util/ArrayList" = true by first | (simp [plainName, overriddenIn]; done) | decide +kernel) | decide +kernel
set_option maxRecDepth 65536 in
set_option maxHeartbeats 40000000 in
theorem mm14_52 (l : Launch) (Z : State) (a0 : Array Value) (hw : ∀ d ∈ tables_1, d.before a0 Z = true) (b0 : Addr) (b1 : Addr) (b2 : Addr) (b3 : Addr) (b4 : Addr) (k_b1 : ClassId) (w_D : Addr) (h0 : Heap) (FZ : OwnF Z Z.heap w_D) (O0 : Old Z Z.heap.size h0) (ge_b0 : Z.heap.size ≤ b0) (E_b0 : Exa Z h0 b0 "java/util/ArrayList") (D_b0_elementData : Fld Z h0 b0 "java/util/ArrayList" "elementData" "[Ljava/lang/Object;" (.ref b1)) (D_b0_modCount : Fld Z h0 b0 "java/util/AbstractList" "modCount" "I" (.int (3 : Int32))) (D_b0_size : Fld Z h0 b0 "java/util/ArrayList" "size" "I" (.int (3 : Int32))) (ge_b1 : Z.heap.size ≤ b1) (A_b1 : Ary Z h0 b1 k_b1 (.object "java/lang/Object") 10 (lst [(.ref b2), (.ref b3), (.ref b4), .null, .null, .null, .null, .null, .null, .null] .null)) (V_b1 : Ovr Z k_b1 "java/lang/Object") (ge_b2 : Z.heap.size ≤ b2) (E_b2 : Exa Z h0 b2 "java/util/ArrayList") (ge_b3 : Z.heap.size ≤ b3) (E_b3 : Exa Z h0 b3 "java/util/ArrayList") (ge_b4 : Z.heap.size ≤ b4) (E_b4 : Exa Z h0 b4 "java/util/ArrayList") (ne_b0_b1 : b0 ≠ b1) (ne_b0_b2 : b0 ≠ b2) (ne_b0_b3 : b0 ≠ b3) (ne_b0_b4 : b0 ≠ b4) (ne_b1_b2 : b1 ≠ b2) (ne_b1_b3 : b1 ≠ b3) (ne_b1_b4 : b1 ≠ b4) (ne_b2_b3 : b2 ≠ b3) (ne_b2_b4 : b2 ≠ b4) (ne_b3_b4 : b3 ≠ b4)  :
    OMeets l Z mn8 jdk_38_method_9_code 1 (some .boolean) [] ({ frames := 0, cells := 0, slots := 0, locals := 0 } : Room) #[(.ref b0)] h0 (PureQ (some (.int (0 : Int32))) h0) := by
  refine OMeets.of pn_mm14_52 #[.val (.ref b0)] (fun m => by first | rfl | (simp [entryFrame, mkF, argsToLocals, Value.category, maxLocals]; done)) ?_
  intro p e s m below meth c s₁ B X0 e0
  have F0 := OwnF.ext O0.2 FZ
  obtain ⟨S_D, ⟨kD, A_D⟩, S_high, T_cache⟩ := id F0
  refine s_aloadN B X0 (pc' := 1) d14_0 rfl rfl rfl ?_
  refine s_getF B X0 (pc' := 4) e0 (host := "") (Or.inl (tw40 hw)) Via.refl D_b0_size d14_1 rfl (fun T1 X1 e1 => ?_)
  refine s_ifY B X1 (pc' := 11) d14_4 (by decide) (by decide) (by decide) ?_
  refine s_iconst B X1 (pc' := 12) (v := (0 : Int32)) d14_11 rfl rfl ?_
  exact r_nar B X1 (t := .boolean) (by simp) rfl d14_12 ⟨rfl, rfl, e1⟩ (by decide) (by decide)

theorem pn_mm13_52 : plainFor mn10 = true := plainFor_of_name (show plainName "com/example/lichen/lichen/solver/TermSubsumption$Ways" = true by first | (simp [plainName, overriddenIn]; done) | decide +kernel)
set_option maxRecDepth 65536 in
set_option maxHeartbeats 40000000 in
theorem mm13_52 (l : Launch) (Z : State) (a0 : Array Value) (hw : ∀ d ∈ tables_1, d.before a0 Z = true) (b0 : Addr) (b1 : Addr) (b2 : Addr) (b3 : Addr) (b4 : Addr) (b5 : Addr) (b6 : Addr) (k_b3 : ClassId) (w_D : Addr) (h0 : Heap) (FZ : OwnF Z Z.heap w_D) (O0 : Old Z Z.heap.size h0) (ge_b0 : Z.heap.size ≤ b0) (E_b0 : Exa Z h0 b0 "com/example/lichen/lichen/solver/TermSubsumption$Ways") (D_b0_each : Fld Z h0 b0 "com/example/lichen/lichen/solver/TermSubsumption$Ways" "each" "Ljava/util/List;" (.ref b1)) (D_b0_producers : Fld Z h0 b0 "com/example/lichen/lichen/solver/TermSubsumption$Ways" "producers" "Ljava/util/List;" (.ref b2)) (ge_b1 : Z.heap.size ≤ b1) (E_b1 : Exa Z h0 b1 "java/util/ArrayList") (D_b1_elementData : Fld Z h0 b1 "java/util/ArrayList" "elementData" "[Ljava/lang/Object;" (.ref b3)) (D_b1_modCount : Fld Z h0 b1 "java/util/AbstractList" "modCount" "I" (.int (3 : Int32))) (D_b1_size : Fld Z h0 b1 "java/util/ArrayList" "size" "I" (.int (3 : Int32))) (ge_b2 : Z.heap.size ≤ b2) (E_b2 : Exa Z h0 b2 "java/util/ArrayList") (D_b2_elementData : Fld Z h0 b2 "java/util/ArrayList" "elementData" "[Ljava/lang/Object;" (.ref w_D)) (D_b2_modCount : Fld Z h0 b2 "java/util/AbstractList" "modCount" "I" (.int (0 : Int32))) (D_b2_size : Fld Z h0 b2 "java/util/ArrayList" "size" "I" (.int (0 : Int32))) (ge_b3 : Z.heap.size ≤ b3) (A_b3 : Ary Z h0 b3 k_b3 (.object "java/lang/Object") 10 (lst [(.ref b4), (.ref b5), (.ref b6), .null, .null, .null, .null, .null, .null, .null] .null)) (V_b3 : Ovr Z k_b3 "java/lang/Object") (ge_b4 : Z.heap.size ≤ b4) (E_b4 : Exa Z h0 b4 "java/util/ArrayList") (ge_b5 : Z.heap.size ≤ b5) (E_b5 : Exa Z h0 b5 "java/util/ArrayList") (ge_b6 : Z.heap.size ≤ b6) (E_b6 : Exa Z h0 b6 "java/util/ArrayList") (ne_b0_b1 : b0 ≠ b1) (ne_b0_b2 : b0 ≠ b2) (ne_b0_b3 : b0 ≠ b3) (ne_b0_b4 : b0 ≠ b4) (ne_b0_b5 : b0 ≠ b5) (ne_b0_b6 : b0 ≠ b6) (ne_b1_b2 : b1 ≠ b2) (ne_b1_b3 : b1 ≠ b3) (ne_b1_b4 : b1 ≠ b4) (ne_b1_b5 : b1 ≠ b5) (ne_b1_b6 : b1 ≠ b6) (ne_b2_b3 : b2 ≠ b3) (ne_b2_b4 : b2 ≠ b4) (ne_b2_b5 : b2 ≠ b5) (ne_b2_b6 : b2 ≠ b6) (ne_b3_b4 : b3 ≠ b4) (ne_b3_b5 : b3 ≠ b5) (ne_b3_b6 : b3 ≠ b6) (ne_b4_b5 : b4 ≠ b5) (ne_b4_b6 : b4 ≠ b6) (ne_b5_b6 : b5 ≠ b6)  :
    OMeets l Z mn10 prog_103_method_3_code 1 (some .boolean) [] ({ frames := 1, cells := 0, slots := 0, locals := 12 } : Room) #[(.ref b0)] h0 (PureQ (some (.int (0 : Int32))) h0) := by
  refine OMeets.of pn_mm13_52 #[.val (.ref b0)] (fun m => by first | rfl | (simp [entryFrame, mkF, argsToLocals, Value.category, maxLocals]; done)) ?_
  intro p e s m below meth c s₁ B X0 e0
  have F0 := OwnF.ext O0.2 FZ
  obtain ⟨S_D, ⟨kD, A_D⟩, S_high, T_cache⟩ := id F0
  refine s_aloadN B X0 (pc' := 1) d13_0 rfl rfl rfl ?_
  refine s_getF B X0 (pc' := 4) e0 (host := "") (Or.inl (tw76 hw)) Via.refl D_b0_each d13_1 rfl (fun T1 X1 e1 => ?_)
  refine p_iface B X1 (y := mn9) (z := mn8) (pc' := 9) (argsL := []) (under := []) (W := 0) e1 (tw85 hw) (tw86 hw) (tw87 hw) (tw88 hw) (tw89 hw) (tw90 hw) (tw91 hw) (tw92 hw) (tw93 hw) (tw2 hw) (by decide) (mm14_52 l Z a0 hw b1 b3 b4 b5 b6 k_b3 w_D h0 FZ O0 ge_b1 E_b1 D_b1_elementData D_b1_modCount D_b1_size ge_b3 A_b3 V_b3 ge_b4 E_b4 ge_b5 E_b5 ge_b6 E_b6 ne_b1_b3 ne_b1_b4 ne_b1_b5 ne_b1_b6 ne_b3_b4 ne_b3_b5 ne_b3_b6 ne_b4_b5 ne_b4_b6 ne_b5_b6 ) E_b1 (lenOf pd_3 rfl) rfl rfl (by decide) (by decide) rfl rfl (by decide) (by decide) rfl d13_4 rfl (fun T2 X2 e2 => ?_)
  show Go p e below _ (T2.setTop (mkF m 9 #[.val (.ref b0)] [(.int (0 : Int32))]))
  refine s_ifY B X2 (pc' := 28) d13_9 (by decide) (by decide) (by decide) ?_
  refine s_iconst B X2 (pc' := 29) (v := (0 : Int32)) d13_28 rfl rfl ?_
  exact r_nar B X2 (t := .boolean) (by simp) rfl d13_29 ⟨rfl, rfl, e2⟩ (by decide) (by decide)

theorem pn_mm11_54 : plainFor mn7 = true := plainFor_of_name (show plainName "com/example/lichen/lichen/solver/TermSubsumption$Ways" = true by first | (simp [plainName, overriddenIn]; done) | decide +kernel)
set_option maxRecDepth 65536 in
set_option maxHeartbeats 40000000 in
theorem mm11_54 (l : Launch) (Z : State) (a0 : Array Value) (hw : ∀ d ∈ tables_1, d.before a0 Z = true) (b0 : Addr) (b1 : Addr) (b2 : Addr) (b3 : Addr) (b4 : Addr) (b5 : Addr) (b6 : Addr) (b7 : Addr) (b8 : Addr) (k_b3 : ClassId) (k_b4 : ClassId) (w_D : Addr) (h0 : Heap) (FZ : OwnF Z Z.heap w_D) (O0 : Old Z Z.heap.size h0) (ge_b0 : Z.heap.size ≤ b0) (E_b0 : Exa Z h0 b0 "com/example/lichen/lichen/solver/TermSubsumption$Ways") (D_b0_each : Fld Z h0 b0 "com/example/lichen/lichen/solver/TermSubsumption$Ways" "each" "Ljava/util/List;" .null) (D_b0_producers : Fld Z h0 b0 "com/example/lichen/lichen/solver/TermSubsumption$Ways" "producers" "Ljava/util/List;" .null) (ge_b1 : Z.heap.size ≤ b1) (E_b1 : Exa Z h0 b1 "java/util/ArrayList") (D_b1_elementData : Fld Z h0 b1 "java/util/ArrayList" "elementData" "[Ljava/lang/Object;" (.ref b3)) (D_b1_modCount : Fld Z h0 b1 "java/util/AbstractList" "modCount" "I" (.int (3 : Int32))) (D_b1_size : Fld Z h0 b1 "java/util/ArrayList" "size" "I" (.int (3 : Int32))) (ge_b2 : Z.heap.size ≤ b2) (E_b2 : Exa Z h0 b2 "java/util/ArrayList") (D_b2_elementData : Fld Z h0 b2 "java/util/ArrayList" "elementData" "[Ljava/lang/Object;" (.ref b4)) (D_b2_modCount : Fld Z h0 b2 "java/util/AbstractList" "modCount" "I" (.int (1 : Int32))) (D_b2_size : Fld Z h0 b2 "java/util/ArrayList" "size" "I" (.int (1 : Int32))) (ge_b3 : Z.heap.size ≤ b3) (A_b3 : Ary Z h0 b3 k_b3 (.object "java/lang/Object") 10 (lst [(.ref b5), (.ref b6), (.ref b7), .null, .null, .null, .null, .null, .null, .null] .null)) (V_b3 : Ovr Z k_b3 "java/lang/Object") (ge_b4 : Z.heap.size ≤ b4) (A_b4 : Ary Z h0 b4 k_b4 (.object "java/lang/Object") 10 (lst [(.ref b8), .null, .null, .null, .null, .null, .null, .null, .null, .null] .null)) (V_b4 : Ovr Z k_b4 "java/lang/Object") (ge_b5 : Z.heap.size ≤ b5) (E_b5 : Exa Z h0 b5 "java/util/ArrayList") (ge_b6 : Z.heap.size ≤ b6) (E_b6 : Exa Z h0 b6 "java/util/ArrayList") (ge_b7 : Z.heap.size ≤ b7) (E_b7 : Exa Z h0 b7 "java/util/ArrayList") (E_b8 : Exa Z h0 b8 "java/lang/Integer") (ne_b0_b1 : b0 ≠ b1) (ne_b0_b2 : b0 ≠ b2) (ne_b0_b3 : b0 ≠ b3) (ne_b0_b4 : b0 ≠ b4) (ne_b0_b5 : b0 ≠ b5) (ne_b0_b6 : b0 ≠ b6) (ne_b0_b7 : b0 ≠ b7) (ne_b1_b2 : b1 ≠ b2) (ne_b1_b3 : b1 ≠ b3) (ne_b1_b4 : b1 ≠ b4) (ne_b1_b5 : b1 ≠ b5) (ne_b1_b6 : b1 ≠ b6) (ne_b1_b7 : b1 ≠ b7) (ne_b2_b3 : b2 ≠ b3) (ne_b2_b4 : b2 ≠ b4) (ne_b2_b5 : b2 ≠ b5) (ne_b2_b6 : b2 ≠ b6) (ne_b2_b7 : b2 ≠ b7) (ne_b3_b4 : b3 ≠ b4) (ne_b3_b5 : b3 ≠ b5) (ne_b3_b6 : b3 ≠ b6) (ne_b3_b7 : b3 ≠ b7) (ne_b4_b5 : b4 ≠ b5) (ne_b4_b6 : b4 ≠ b6) (ne_b4_b7 : b4 ≠ b7) (ne_b5_b6 : b5 ≠ b6) (ne_b5_b7 : b5 ≠ b7) (ne_b6_b7 : b6 ≠ b7)  :
    OMeets l Z mn7 prog_103_method_1_code 3 none [] ({ frames := 2, cells := 0, slots := 0, locals := 24 } : Room) #[(.ref b0), (.ref b1), (.ref b2)] h0 (fun v h L => v = none ∧ Fr Z.heap.size L ∧ Keep h0 h [b0] ∧ Fld Z h b0 "com/example/lichen/lichen/solver/TermSubsumption$Ways" "each" "Ljava/util/List;" (.ref b1) ∧ Fld Z h b0 "com/example/lichen/lichen/solver/TermSubsumption$Ways" "producers" "Ljava/util/List;" (.ref b2)) := by
  refine OMeets.of pn_mm11_54 #[.val (.ref b0), .val (.ref b1), .val (.ref b2)] (fun m => by first | rfl | (simp [entryFrame, mkF, argsToLocals, Value.category, maxLocals]; done)) ?_
  intro p e s m below meth c s₁ B X0 e0
  have F0 := OwnF.ext O0.2 FZ
  obtain ⟨S_D, ⟨kD, A_D⟩, S_high, T_cache⟩ := id F0
  refine s_aloadN B X0 (pc' := 1) d11_0 rfl rfl rfl ?_
  refine p_init B X0 (y := mn6) (pc' := 4) (argsL := []) (under := []) (W := 0) e0 rfl (tw70 hw) (tw71 hw) (tw74 hw) (tw73 hw) (by decide) (mm12_6 l Z a0 hw b0 w_D h0 FZ O0 ge_b0 E_b0 D_b0_each D_b0_producers ) (lenOf pd_0 rfl) rfl rfl (by decide) (by decide) rfl rfl (by decide) (by decide) rfl d11_1 rfl (fun T1 X1 e1 => ?_)
  show Go p e below _ (T1.setTop (mkF m 4 #[.val (.ref b0), .val (.ref b1), .val (.ref b2)] []))
  refine s_aloadN B X1 (pc' := 5) d11_4 rfl rfl rfl ?_
  refine s_aloadN B X1 (pc' := 6) d11_5 rfl rfl rfl ?_
  refine s_putF B X1 (pc' := 9) (ty := (.object "java/util/List")) e1 (host := "") (Or.inl (tw76 hw)) Via.refl D_b0_each E_b0 (Or.inr ⟨(tw77 hw), rfl, rfl⟩) (tw65 hw) (by decide) rfl rfl d11_6 rfl (fun T2 h2 X2 e2 W2 => ?_)
  have G2 := D_b0_each.same W2
  have N2 := Fr.snoc X2 (Fr.nil _) ge_b0
  have O2 := (O0).wr W2 ge_b0
  have F2 := OwnF.ext O2.2 FZ
  have K2 := ((Keep.refl h0 [b0])).wr W2 (Or.inl (List.mem_of_getElem? (i := 0) rfl))
  show Go p e below _ (T2.setTop (mkF m 9 #[.val (.ref b0), .val (.ref b1), .val (.ref b2)] []))
  refine s_aloadN B X2 (pc' := 10) d11_9 rfl rfl rfl ?_
  refine s_aloadN B X2 (pc' := 11) d11_10 rfl rfl rfl ?_
  have f4 := (D_b0_producers.other W2 (Or.inr (slot_ne (Or.inr (tw79 hw)) (Or.inr (tw77 hw)) (by decide) (t := (.object "java/util/List")) (t' := (.object "java/util/List")) (by decide) (by decide))))
  have f5 := (E_b0.wr W2)
  refine s_putF B X2 (pc' := 14) (ty := (.object "java/util/List")) e2 (host := "") (Or.inl (tw78 hw)) Via.refl f4 f5 (Or.inr ⟨(tw79 hw), rfl, rfl⟩) (tw65 hw) (by decide) rfl rfl d11_11 rfl (fun T3 h3 X3 e3 W3 => ?_)
  have G3 := f4.same W3
  have N3 := Fr.snoc X3 N2 ge_b0
  have O3 := (O2).wr W3 ge_b0
  have F3 := OwnF.ext O3.2 FZ
  have K3 := (K2).wr W3 (Or.inl (List.mem_of_getElem? (i := 0) rfl))
  show Go p e below _ (T3.setTop (mkF m 14 #[.val (.ref b0), .val (.ref b1), .val (.ref b2)] []))
  have f6 := (G2.other W3 (Or.inr (slot_ne (Or.inr (tw77 hw)) (Or.inr (tw79 hw)) (by decide) (t := (.object "java/util/List")) (t' := (.object "java/util/List")) (by decide) (by decide))))
  exact r_void B X3 rfl d11_14 (by rw [e3]; exact ⟨rfl, N3, K3, f6, G3⟩) (by decide) (by decide)

theorem pn_mm13_55 : plainFor mn10 = true := plainFor_of_name (show plainName "com/example/lichen/lichen/solver/TermSubsumption$Ways" = true by first | (simp [plainName, overriddenIn]; done) | decide +kernel)
set_option maxRecDepth 65536 in
set_option maxHeartbeats 40000000 in
theorem mm13_55 (l : Launch) (Z : State) (a0 : Array Value) (hw : ∀ d ∈ tables_1, d.before a0 Z = true) (b0 : Addr) (b1 : Addr) (b2 : Addr) (b3 : Addr) (b4 : Addr) (b5 : Addr) (b6 : Addr) (b7 : Addr) (b8 : Addr) (k_b3 : ClassId) (k_b4 : ClassId) (w_D : Addr) (h0 : Heap) (FZ : OwnF Z Z.heap w_D) (O0 : Old Z Z.heap.size h0) (ge_b0 : Z.heap.size ≤ b0) (E_b0 : Exa Z h0 b0 "com/example/lichen/lichen/solver/TermSubsumption$Ways") (D_b0_each : Fld Z h0 b0 "com/example/lichen/lichen/solver/TermSubsumption$Ways" "each" "Ljava/util/List;" (.ref b1)) (D_b0_producers : Fld Z h0 b0 "com/example/lichen/lichen/solver/TermSubsumption$Ways" "producers" "Ljava/util/List;" (.ref b2)) (ge_b1 : Z.heap.size ≤ b1) (E_b1 : Exa Z h0 b1 "java/util/ArrayList") (D_b1_elementData : Fld Z h0 b1 "java/util/ArrayList" "elementData" "[Ljava/lang/Object;" (.ref b3)) (D_b1_modCount : Fld Z h0 b1 "java/util/AbstractList" "modCount" "I" (.int (3 : Int32))) (D_b1_size : Fld Z h0 b1 "java/util/ArrayList" "size" "I" (.int (3 : Int32))) (ge_b2 : Z.heap.size ≤ b2) (E_b2 : Exa Z h0 b2 "java/util/ArrayList") (D_b2_elementData : Fld Z h0 b2 "java/util/ArrayList" "elementData" "[Ljava/lang/Object;" (.ref b4)) (D_b2_modCount : Fld Z h0 b2 "java/util/AbstractList" "modCount" "I" (.int (1 : Int32))) (D_b2_size : Fld Z h0 b2 "java/util/ArrayList" "size" "I" (.int (1 : Int32))) (ge_b3 : Z.heap.size ≤ b3) (A_b3 : Ary Z h0 b3 k_b3 (.object "java/lang/Object") 10 (lst [(.ref b5), (.ref b6), (.ref b7), .null, .null, .null, .null, .null, .null, .null] .null)) (V_b3 : Ovr Z k_b3 "java/lang/Object") (ge_b4 : Z.heap.size ≤ b4) (A_b4 : Ary Z h0 b4 k_b4 (.object "java/lang/Object") 10 (lst [(.ref b8), .null, .null, .null, .null, .null, .null, .null, .null, .null] .null)) (V_b4 : Ovr Z k_b4 "java/lang/Object") (ge_b5 : Z.heap.size ≤ b5) (E_b5 : Exa Z h0 b5 "java/util/ArrayList") (ge_b6 : Z.heap.size ≤ b6) (E_b6 : Exa Z h0 b6 "java/util/ArrayList") (ge_b7 : Z.heap.size ≤ b7) (E_b7 : Exa Z h0 b7 "java/util/ArrayList") (E_b8 : Exa Z h0 b8 "java/lang/Integer") (ne_b0_b1 : b0 ≠ b1) (ne_b0_b2 : b0 ≠ b2) (ne_b0_b3 : b0 ≠ b3) (ne_b0_b4 : b0 ≠ b4) (ne_b0_b5 : b0 ≠ b5) (ne_b0_b6 : b0 ≠ b6) (ne_b0_b7 : b0 ≠ b7) (ne_b1_b2 : b1 ≠ b2) (ne_b1_b3 : b1 ≠ b3) (ne_b1_b4 : b1 ≠ b4) (ne_b1_b5 : b1 ≠ b5) (ne_b1_b6 : b1 ≠ b6) (ne_b1_b7 : b1 ≠ b7) (ne_b2_b3 : b2 ≠ b3) (ne_b2_b4 : b2 ≠ b4) (ne_b2_b5 : b2 ≠ b5) (ne_b2_b6 : b2 ≠ b6) (ne_b2_b7 : b2 ≠ b7) (ne_b3_b4 : b3 ≠ b4) (ne_b3_b5 : b3 ≠ b5) (ne_b3_b6 : b3 ≠ b6) (ne_b3_b7 : b3 ≠ b7) (ne_b4_b5 : b4 ≠ b5) (ne_b4_b6 : b4 ≠ b6) (ne_b4_b7 : b4 ≠ b7) (ne_b5_b6 : b5 ≠ b6) (ne_b5_b7 : b5 ≠ b7) (ne_b6_b7 : b6 ≠ b7)  :
    OMeets l Z mn10 prog_103_method_3_code 1 (some .boolean) [] ({ frames := 1, cells := 0, slots := 0, locals := 12 } : Room) #[(.ref b0)] h0 (PureQ (some (.int (0 : Int32))) h0) := by
  refine OMeets.of pn_mm13_55 #[.val (.ref b0)] (fun m => by first | rfl | (simp [entryFrame, mkF, argsToLocals, Value.category, maxLocals]; done)) ?_
  intro p e s m below meth c s₁ B X0 e0
  have F0 := OwnF.ext O0.2 FZ
  obtain ⟨S_D, ⟨kD, A_D⟩, S_high, T_cache⟩ := id F0
  refine s_aloadN B X0 (pc' := 1) d13_0 rfl rfl rfl ?_
  refine s_getF B X0 (pc' := 4) e0 (host := "") (Or.inl (tw76 hw)) Via.refl D_b0_each d13_1 rfl (fun T1 X1 e1 => ?_)
  refine p_iface B X1 (y := mn9) (z := mn8) (pc' := 9) (argsL := []) (under := []) (W := 0) e1 (tw85 hw) (tw86 hw) (tw87 hw) (tw88 hw) (tw89 hw) (tw90 hw) (tw91 hw) (tw92 hw) (tw93 hw) (tw2 hw) (by decide) (mm14_52 l Z a0 hw b1 b3 b5 b6 b7 k_b3 w_D h0 FZ O0 ge_b1 E_b1 D_b1_elementData D_b1_modCount D_b1_size ge_b3 A_b3 V_b3 ge_b5 E_b5 ge_b6 E_b6 ge_b7 E_b7 ne_b1_b3 ne_b1_b5 ne_b1_b6 ne_b1_b7 ne_b3_b5 ne_b3_b6 ne_b3_b7 ne_b5_b6 ne_b5_b7 ne_b6_b7 ) E_b1 (lenOf pd_3 rfl) rfl rfl (by decide) (by decide) rfl rfl (by decide) (by decide) rfl d13_4 rfl (fun T2 X2 e2 => ?_)
  show Go p e below _ (T2.setTop (mkF m 9 #[.val (.ref b0)] [(.int (0 : Int32))]))
  refine s_ifY B X2 (pc' := 28) d13_9 (by decide) (by decide) (by decide) ?_
  refine s_iconst B X2 (pc' := 29) (v := (0 : Int32)) d13_28 rfl rfl ?_
  exact r_nar B X2 (t := .boolean) (by simp) rfl d13_29 ⟨rfl, rfl, e2⟩ (by decide) (by decide)

theorem pn_mm11_56 : plainFor mn7 = true := plainFor_of_name (show plainName "com/example/lichen/lichen/solver/TermSubsumption$Ways" = true by first | (simp [plainName, overriddenIn]; done) | decide +kernel)
set_option maxRecDepth 65536 in
set_option maxHeartbeats 40000000 in
theorem mm11_56 (l : Launch) (Z : State) (a0 : Array Value) (hw : ∀ d ∈ tables_1, d.before a0 Z = true) (b0 : Addr) (b1 : Addr) (b2 : Addr) (b3 : Addr) (b4 : Addr) (b5 : Addr) (b6 : Addr) (b7 : Addr) (b8 : Addr) (b9 : Addr) (k_b3 : ClassId) (k_b4 : ClassId) (w_D : Addr) (h0 : Heap) (FZ : OwnF Z Z.heap w_D) (O0 : Old Z Z.heap.size h0) (ge_b0 : Z.heap.size ≤ b0) (E_b0 : Exa Z h0 b0 "com/example/lichen/lichen/solver/TermSubsumption$Ways") (D_b0_each : Fld Z h0 b0 "com/example/lichen/lichen/solver/TermSubsumption$Ways" "each" "Ljava/util/List;" .null) (D_b0_producers : Fld Z h0 b0 "com/example/lichen/lichen/solver/TermSubsumption$Ways" "producers" "Ljava/util/List;" .null) (ge_b1 : Z.heap.size ≤ b1) (E_b1 : Exa Z h0 b1 "java/util/ArrayList") (D_b1_elementData : Fld Z h0 b1 "java/util/ArrayList" "elementData" "[Ljava/lang/Object;" (.ref b3)) (D_b1_modCount : Fld Z h0 b1 "java/util/AbstractList" "modCount" "I" (.int (3 : Int32))) (D_b1_size : Fld Z h0 b1 "java/util/ArrayList" "size" "I" (.int (3 : Int32))) (ge_b2 : Z.heap.size ≤ b2) (E_b2 : Exa Z h0 b2 "java/util/ArrayList") (D_b2_elementData : Fld Z h0 b2 "java/util/ArrayList" "elementData" "[Ljava/lang/Object;" (.ref b4)) (D_b2_modCount : Fld Z h0 b2 "java/util/AbstractList" "modCount" "I" (.int (2 : Int32))) (D_b2_size : Fld Z h0 b2 "java/util/ArrayList" "size" "I" (.int (2 : Int32))) (ge_b3 : Z.heap.size ≤ b3) (A_b3 : Ary Z h0 b3 k_b3 (.object "java/lang/Object") 10 (lst [(.ref b5), (.ref b6), (.ref b7), .null, .null, .null, .null, .null, .null, .null] .null)) (V_b3 : Ovr Z k_b3 "java/lang/Object") (ge_b4 : Z.heap.size ≤ b4) (A_b4 : Ary Z h0 b4 k_b4 (.object "java/lang/Object") 10 (lst [(.ref b8), (.ref b9), .null, .null, .null, .null, .null, .null, .null, .null] .null)) (V_b4 : Ovr Z k_b4 "java/lang/Object") (ge_b5 : Z.heap.size ≤ b5) (E_b5 : Exa Z h0 b5 "java/util/ArrayList") (ge_b6 : Z.heap.size ≤ b6) (E_b6 : Exa Z h0 b6 "java/util/ArrayList") (ge_b7 : Z.heap.size ≤ b7) (E_b7 : Exa Z h0 b7 "java/util/ArrayList") (E_b8 : Exa Z h0 b8 "java/lang/Integer") (E_b9 : Exa Z h0 b9 "java/lang/Integer") (ne_b0_b1 : b0 ≠ b1) (ne_b0_b2 : b0 ≠ b2) (ne_b0_b3 : b0 ≠ b3) (ne_b0_b4 : b0 ≠ b4) (ne_b0_b5 : b0 ≠ b5) (ne_b0_b6 : b0 ≠ b6) (ne_b0_b7 : b0 ≠ b7) (ne_b1_b2 : b1 ≠ b2) (ne_b1_b3 : b1 ≠ b3) (ne_b1_b4 : b1 ≠ b4) (ne_b1_b5 : b1 ≠ b5) (ne_b1_b6 : b1 ≠ b6) (ne_b1_b7 : b1 ≠ b7) (ne_b2_b3 : b2 ≠ b3) (ne_b2_b4 : b2 ≠ b4) (ne_b2_b5 : b2 ≠ b5) (ne_b2_b6 : b2 ≠ b6) (ne_b2_b7 : b2 ≠ b7) (ne_b3_b4 : b3 ≠ b4) (ne_b3_b5 : b3 ≠ b5) (ne_b3_b6 : b3 ≠ b6) (ne_b3_b7 : b3 ≠ b7) (ne_b4_b5 : b4 ≠ b5) (ne_b4_b6 : b4 ≠ b6) (ne_b4_b7 : b4 ≠ b7) (ne_b5_b6 : b5 ≠ b6) (ne_b5_b7 : b5 ≠ b7) (ne_b6_b7 : b6 ≠ b7)  :
    OMeets l Z mn7 prog_103_method_1_code 3 none [] ({ frames := 2, cells := 0, slots := 0, locals := 24 } : Room) #[(.ref b0), (.ref b1), (.ref b2)] h0 (fun v h L => v = none ∧ Fr Z.heap.size L ∧ Keep h0 h [b0] ∧ Fld Z h b0 "com/example/lichen/lichen/solver/TermSubsumption$Ways" "each" "Ljava/util/List;" (.ref b1) ∧ Fld Z h b0 "com/example/lichen/lichen/solver/TermSubsumption$Ways" "producers" "Ljava/util/List;" (.ref b2)) := by
  refine OMeets.of pn_mm11_56 #[.val (.ref b0), .val (.ref b1), .val (.ref b2)] (fun m => by first | rfl | (simp [entryFrame, mkF, argsToLocals, Value.category, maxLocals]; done)) ?_
  intro p e s m below meth c s₁ B X0 e0
  have F0 := OwnF.ext O0.2 FZ
  obtain ⟨S_D, ⟨kD, A_D⟩, S_high, T_cache⟩ := id F0
  refine s_aloadN B X0 (pc' := 1) d11_0 rfl rfl rfl ?_
  refine p_init B X0 (y := mn6) (pc' := 4) (argsL := []) (under := []) (W := 0) e0 rfl (tw70 hw) (tw71 hw) (tw74 hw) (tw73 hw) (by decide) (mm12_6 l Z a0 hw b0 w_D h0 FZ O0 ge_b0 E_b0 D_b0_each D_b0_producers ) (lenOf pd_0 rfl) rfl rfl (by decide) (by decide) rfl rfl (by decide) (by decide) rfl d11_1 rfl (fun T1 X1 e1 => ?_)
  show Go p e below _ (T1.setTop (mkF m 4 #[.val (.ref b0), .val (.ref b1), .val (.ref b2)] []))
  refine s_aloadN B X1 (pc' := 5) d11_4 rfl rfl rfl ?_
  refine s_aloadN B X1 (pc' := 6) d11_5 rfl rfl rfl ?_
  refine s_putF B X1 (pc' := 9) (ty := (.object "java/util/List")) e1 (host := "") (Or.inl (tw76 hw)) Via.refl D_b0_each E_b0 (Or.inr ⟨(tw77 hw), rfl, rfl⟩) (tw65 hw) (by decide) rfl rfl d11_6 rfl (fun T2 h2 X2 e2 W2 => ?_)
  have G2 := D_b0_each.same W2
  have N2 := Fr.snoc X2 (Fr.nil _) ge_b0
  have O2 := (O0).wr W2 ge_b0
  have F2 := OwnF.ext O2.2 FZ
  have K2 := ((Keep.refl h0 [b0])).wr W2 (Or.inl (List.mem_of_getElem? (i := 0) rfl))
  show Go p e below _ (T2.setTop (mkF m 9 #[.val (.ref b0), .val (.ref b1), .val (.ref b2)] []))
  refine s_aloadN B X2 (pc' := 10) d11_9 rfl rfl rfl ?_
  refine s_aloadN B X2 (pc' := 11) d11_10 rfl rfl rfl ?_
  have f4 := (D_b0_producers.other W2 (Or.inr (slot_ne (Or.inr (tw79 hw)) (Or.inr (tw77 hw)) (by decide) (t := (.object "java/util/List")) (t' := (.object "java/util/List")) (by decide) (by decide))))
  have f5 := (E_b0.wr W2)
  refine s_putF B X2 (pc' := 14) (ty := (.object "java/util/List")) e2 (host := "") (Or.inl (tw78 hw)) Via.refl f4 f5 (Or.inr ⟨(tw79 hw), rfl, rfl⟩) (tw65 hw) (by decide) rfl rfl d11_11 rfl (fun T3 h3 X3 e3 W3 => ?_)
  have G3 := f4.same W3
  have N3 := Fr.snoc X3 N2 ge_b0
  have O3 := (O2).wr W3 ge_b0
  have F3 := OwnF.ext O3.2 FZ
  have K3 := (K2).wr W3 (Or.inl (List.mem_of_getElem? (i := 0) rfl))
  show Go p e below _ (T3.setTop (mkF m 14 #[.val (.ref b0), .val (.ref b1), .val (.ref b2)] []))
  have f6 := (G2.other W3 (Or.inr (slot_ne (Or.inr (tw77 hw)) (Or.inr (tw79 hw)) (by decide) (t := (.object "java/util/List")) (t' := (.object "java/util/List")) (by decide) (by decide))))
  exact r_void B X3 rfl d11_14 (by rw [e3]; exact ⟨rfl, N3, K3, f6, G3⟩) (by decide) (by decide)

theorem pn_mm13_57 : plainFor mn10 = true := plainFor_of_name (show plainName "com/example/lichen/lichen/solver/TermSubsumption$Ways" = true by first | (simp [plainName, overriddenIn]; done) | decide +kernel)
set_option maxRecDepth 65536 in
set_option maxHeartbeats 40000000 in
theorem mm13_57 (l : Launch) (Z : State) (a0 : Array Value) (hw : ∀ d ∈ tables_1, d.before a0 Z = true) (b0 : Addr) (b1 : Addr) (b2 : Addr) (b3 : Addr) (b4 : Addr) (b5 : Addr) (b6 : Addr) (b7 : Addr) (b8 : Addr) (b9 : Addr) (k_b3 : ClassId) (k_b4 : ClassId) (w_D : Addr) (h0 : Heap) (FZ : OwnF Z Z.heap w_D) (O0 : Old Z Z.heap.size h0) (ge_b0 : Z.heap.size ≤ b0) (E_b0 : Exa Z h0 b0 "com/example/lichen/lichen/solver/TermSubsumption$Ways") (D_b0_each : Fld Z h0 b0 "com/example/lichen/lichen/solver/TermSubsumption$Ways" "each" "Ljava/util/List;" (.ref b1)) (D_b0_producers : Fld Z h0 b0 "com/example/lichen/lichen/solver/TermSubsumption$Ways" "producers" "Ljava/util/List;" (.ref b2)) (ge_b1 : Z.heap.size ≤ b1) (E_b1 : Exa Z h0 b1 "java/util/ArrayList") (D_b1_elementData : Fld Z h0 b1 "java/util/ArrayList" "elementData" "[Ljava/lang/Object;" (.ref b3)) (D_b1_modCount : Fld Z h0 b1 "java/util/AbstractList" "modCount" "I" (.int (3 : Int32))) (D_b1_size : Fld Z h0 b1 "java/util/ArrayList" "size" "I" (.int (3 : Int32))) (ge_b2 : Z.heap.size ≤ b2) (E_b2 : Exa Z h0 b2 "java/util/ArrayList") (D_b2_elementData : Fld Z h0 b2 "java/util/ArrayList" "elementData" "[Ljava/lang/Object;" (.ref b4)) (D_b2_modCount : Fld Z h0 b2 "java/util/AbstractList" "modCount" "I" (.int (2 : Int32))) (D_b2_size : Fld Z h0 b2 "java/util/ArrayList" "size" "I" (.int (2 : Int32))) (ge_b3 : Z.heap.size ≤ b3) (A_b3 : Ary Z h0 b3 k_b3 (.object "java/lang/Object") 10 (lst [(.ref b5), (.ref b6), (.ref b7), .null, .null, .null, .null, .null, .null, .null] .null)) (V_b3 : Ovr Z k_b3 "java/lang/Object") (ge_b4 : Z.heap.size ≤ b4) (A_b4 : Ary Z h0 b4 k_b4 (.object "java/lang/Object") 10 (lst [(.ref b8), (.ref b9), .null, .null, .null, .null, .null, .null, .null, .null] .null)) (V_b4 : Ovr Z k_b4 "java/lang/Object") (ge_b5 : Z.heap.size ≤ b5) (E_b5 : Exa Z h0 b5 "java/util/ArrayList") (ge_b6 : Z.heap.size ≤ b6) (E_b6 : Exa Z h0 b6 "java/util/ArrayList") (ge_b7 : Z.heap.size ≤ b7) (E_b7 : Exa Z h0 b7 "java/util/ArrayList") (E_b8 : Exa Z h0 b8 "java/lang/Integer") (E_b9 : Exa Z h0 b9 "java/lang/Integer") (ne_b0_b1 : b0 ≠ b1) (ne_b0_b2 : b0 ≠ b2) (ne_b0_b3 : b0 ≠ b3) (ne_b0_b4 : b0 ≠ b4) (ne_b0_b5 : b0 ≠ b5) (ne_b0_b6 : b0 ≠ b6) (ne_b0_b7 : b0 ≠ b7) (ne_b1_b2 : b1 ≠ b2) (ne_b1_b3 : b1 ≠ b3) (ne_b1_b4 : b1 ≠ b4) (ne_b1_b5 : b1 ≠ b5) (ne_b1_b6 : b1 ≠ b6) (ne_b1_b7 : b1 ≠ b7) (ne_b2_b3 : b2 ≠ b3) (ne_b2_b4 : b2 ≠ b4) (ne_b2_b5 : b2 ≠ b5) (ne_b2_b6 : b2 ≠ b6) (ne_b2_b7 : b2 ≠ b7) (ne_b3_b4 : b3 ≠ b4) (ne_b3_b5 : b3 ≠ b5) (ne_b3_b6 : b3 ≠ b6) (ne_b3_b7 : b3 ≠ b7) (ne_b4_b5 : b4 ≠ b5) (ne_b4_b6 : b4 ≠ b6) (ne_b4_b7 : b4 ≠ b7) (ne_b5_b6 : b5 ≠ b6) (ne_b5_b7 : b5 ≠ b7) (ne_b6_b7 : b6 ≠ b7)  :
    OMeets l Z mn10 prog_103_method_3_code 1 (some .boolean) [] ({ frames := 1, cells := 0, slots := 0, locals := 12 } : Room) #[(.ref b0)] h0 (PureQ (some (.int (0 : Int32))) h0) := by
  refine OMeets.of pn_mm13_57 #[.val (.ref b0)] (fun m => by first | rfl | (simp [entryFrame, mkF, argsToLocals, Value.category, maxLocals]; done)) ?_
  intro p e s m below meth c s₁ B X0 e0
  have F0 := OwnF.ext O0.2 FZ
  obtain ⟨S_D, ⟨kD, A_D⟩, S_high, T_cache⟩ := id F0
  refine s_aloadN B X0 (pc' := 1) d13_0 rfl rfl rfl ?_
  refine s_getF B X0 (pc' := 4) e0 (host := "") (Or.inl (tw76 hw)) Via.refl D_b0_each d13_1 rfl (fun T1 X1 e1 => ?_)
  refine p_iface B X1 (y := mn9) (z := mn8) (pc' := 9) (argsL := []) (under := []) (W := 0) e1 (tw85 hw) (tw86 hw) (tw87 hw) (tw88 hw) (tw89 hw) (tw90 hw) (tw91 hw) (tw92 hw) (tw93 hw) (tw2 hw) (by decide) (mm14_52 l Z a0 hw b1 b3 b5 b6 b7 k_b3 w_D h0 FZ O0 ge_b1 E_b1 D_b1_elementData D_b1_modCount D_b1_size ge_b3 A_b3 V_b3 ge_b5 E_b5 ge_b6 E_b6 ge_b7 E_b7 ne_b1_b3 ne_b1_b5 ne_b1_b6 ne_b1_b7 ne_b3_b5 ne_b3_b6 ne_b3_b7 ne_b5_b6 ne_b5_b7 ne_b6_b7 ) E_b1 (lenOf pd_3 rfl) rfl rfl (by decide) (by decide) rfl rfl (by decide) (by decide) rfl d13_4 rfl (fun T2 X2 e2 => ?_)
  show Go p e below _ (T2.setTop (mkF m 9 #[.val (.ref b0)] [(.int (0 : Int32))]))
  refine s_ifY B X2 (pc' := 28) d13_9 (by decide) (by decide) (by decide) ?_
  refine s_iconst B X2 (pc' := 29) (v := (0 : Int32)) d13_28 rfl rfl ?_
  exact r_nar B X2 (t := .boolean) (by simp) rfl d13_29 ⟨rfl, rfl, e2⟩ (by decide) (by decide)

theorem pn_mm11_58 : plainFor mn7 = true := plainFor_of_name (show plainName "com/example/lichen/lichen/solver/TermSubsumption$Ways" = true by first | (simp [plainName, overriddenIn]; done) | decide +kernel)
set_option maxRecDepth 65536 in
set_option maxHeartbeats 40000000 in
theorem mm11_58 (l : Launch) (Z : State) (a0 : Array Value) (hw : ∀ d ∈ tables_1, d.before a0 Z = true) (b0 : Addr) (b1 : Addr) (b2 : Addr) (b3 : Addr) (b4 : Addr) (b5 : Addr) (b6 : Addr) (b7 : Addr) (b8 : Addr) (b9 : Addr) (b10 : Addr) (k_b3 : ClassId) (k_b4 : ClassId) (w_D : Addr) (h0 : Heap) (FZ : OwnF Z Z.heap w_D) (O0 : Old Z Z.heap.size h0) (ge_b0 : Z.heap.size ≤ b0) (E_b0 : Exa Z h0 b0 "com/example/lichen/lichen/solver/TermSubsumption$Ways") (D_b0_each : Fld Z h0 b0 "com/example/lichen/lichen/solver/TermSubsumption$Ways" "each" "Ljava/util/List;" .null) (D_b0_producers : Fld Z h0 b0 "com/example/lichen/lichen/solver/TermSubsumption$Ways" "producers" "Ljava/util/List;" .null) (ge_b1 : Z.heap.size ≤ b1) (E_b1 : Exa Z h0 b1 "java/util/ArrayList") (D_b1_elementData : Fld Z h0 b1 "java/util/ArrayList" "elementData" "[Ljava/lang/Object;" (.ref b3)) (D_b1_modCount : Fld Z h0 b1 "java/util/AbstractList" "modCount" "I" (.int (3 : Int32))) (D_b1_size : Fld Z h0 b1 "java/util/ArrayList" "size" "I" (.int (3 : Int32))) (ge_b2 : Z.heap.size ≤ b2) (E_b2 : Exa Z h0 b2 "java/util/ArrayList") (D_b2_elementData : Fld Z h0 b2 "java/util/ArrayList" "elementData" "[Ljava/lang/Object;" (.ref b4)) (D_b2_modCount : Fld Z h0 b2 "java/util/AbstractList" "modCount" "I" (.int (3 : Int32))) (D_b2_size : Fld Z h0 b2 "java/util/ArrayList" "size" "I" (.int (3 : Int32))) (ge_b3 : Z.heap.size ≤ b3) (A_b3 : Ary Z h0 b3 k_b3 (.object "java/lang/Object") 10 (lst [(.ref b5), (.ref b6), (.ref b7), .null, .null, .null, .null, .null, .null, .null] .null)) (V_b3 : Ovr Z k_b3 "java/lang/Object") (ge_b4 : Z.heap.size ≤ b4) (A_b4 : Ary Z h0 b4 k_b4 (.object "java/lang/Object") 10 (lst [(.ref b8), (.ref b9), (.ref b10), .null, .null, .null, .null, .null, .null, .null] .null)) (V_b4 : Ovr Z k_b4 "java/lang/Object") (ge_b5 : Z.heap.size ≤ b5) (E_b5 : Exa Z h0 b5 "java/util/ArrayList") (ge_b6 : Z.heap.size ≤ b6) (E_b6 : Exa Z h0 b6 "java/util/ArrayList") (ge_b7 : Z.heap.size ≤ b7) (E_b7 : Exa Z h0 b7 "java/util/ArrayList") (E_b8 : Exa Z h0 b8 "java/lang/Integer") (E_b9 : Exa Z h0 b9 "java/lang/Integer") (E_b10 : Exa Z h0 b10 "java/lang/Integer") (ne_b0_b1 : b0 ≠ b1) (ne_b0_b2 : b0 ≠ b2) (ne_b0_b3 : b0 ≠ b3) (ne_b0_b4 : b0 ≠ b4) (ne_b0_b5 : b0 ≠ b5) (ne_b0_b6 : b0 ≠ b6) (ne_b0_b7 : b0 ≠ b7) (ne_b1_b2 : b1 ≠ b2) (ne_b1_b3 : b1 ≠ b3) (ne_b1_b4 : b1 ≠ b4) (ne_b1_b5 : b1 ≠ b5) (ne_b1_b6 : b1 ≠ b6) (ne_b1_b7 : b1 ≠ b7) (ne_b2_b3 : b2 ≠ b3) (ne_b2_b4 : b2 ≠ b4) (ne_b2_b5 : b2 ≠ b5) (ne_b2_b6 : b2 ≠ b6) (ne_b2_b7 : b2 ≠ b7) (ne_b3_b4 : b3 ≠ b4) (ne_b3_b5 : b3 ≠ b5) (ne_b3_b6 : b3 ≠ b6) (ne_b3_b7 : b3 ≠ b7) (ne_b4_b5 : b4 ≠ b5) (ne_b4_b6 : b4 ≠ b6) (ne_b4_b7 : b4 ≠ b7) (ne_b5_b6 : b5 ≠ b6) (ne_b5_b7 : b5 ≠ b7) (ne_b6_b7 : b6 ≠ b7)  :
    OMeets l Z mn7 prog_103_method_1_code 3 none [] ({ frames := 2, cells := 0, slots := 0, locals := 24 } : Room) #[(.ref b0), (.ref b1), (.ref b2)] h0 (fun v h L => v = none ∧ Fr Z.heap.size L ∧ Keep h0 h [b0] ∧ Fld Z h b0 "com/example/lichen/lichen/solver/TermSubsumption$Ways" "each" "Ljava/util/List;" (.ref b1) ∧ Fld Z h b0 "com/example/lichen/lichen/solver/TermSubsumption$Ways" "producers" "Ljava/util/List;" (.ref b2)) := by
  refine OMeets.of pn_mm11_58 #[.val (.ref b0), .val (.ref b1), .val (.ref b2)] (fun m => by first | rfl | (simp [entryFrame, mkF, argsToLocals, Value.category, maxLocals]; done)) ?_
  intro p e s m below meth c s₁ B X0 e0
  have F0 := OwnF.ext O0.2 FZ
  obtain ⟨S_D, ⟨kD, A_D⟩, S_high, T_cache⟩ := id F0
  refine s_aloadN B X0 (pc' := 1) d11_0 rfl rfl rfl ?_
  refine p_init B X0 (y := mn6) (pc' := 4) (argsL := []) (under := []) (W := 0) e0 rfl (tw70 hw) (tw71 hw) (tw74 hw) (tw73 hw) (by decide) (mm12_6 l Z a0 hw b0 w_D h0 FZ O0 ge_b0 E_b0 D_b0_each D_b0_producers ) (lenOf pd_0 rfl) rfl rfl (by decide) (by decide) rfl rfl (by decide) (by decide) rfl d11_1 rfl (fun T1 X1 e1 => ?_)
  show Go p e below _ (T1.setTop (mkF m 4 #[.val (.ref b0), .val (.ref b1), .val (.ref b2)] []))
  refine s_aloadN B X1 (pc' := 5) d11_4 rfl rfl rfl ?_
  refine s_aloadN B X1 (pc' := 6) d11_5 rfl rfl rfl ?_
  refine s_putF B X1 (pc' := 9) (ty := (.object "java/util/List")) e1 (host := "") (Or.inl (tw76 hw)) Via.refl D_b0_each E_b0 (Or.inr ⟨(tw77 hw), rfl, rfl⟩) (tw65 hw) (by decide) rfl rfl d11_6 rfl (fun T2 h2 X2 e2 W2 => ?_)
  have G2 := D_b0_each.same W2
  have N2 := Fr.snoc X2 (Fr.nil _) ge_b0
  have O2 := (O0).wr W2 ge_b0
  have F2 := OwnF.ext O2.2 FZ
  have K2 := ((Keep.refl h0 [b0])).wr W2 (Or.inl (List.mem_of_getElem? (i := 0) rfl))
  show Go p e below _ (T2.setTop (mkF m 9 #[.val (.ref b0), .val (.ref b1), .val (.ref b2)] []))
  refine s_aloadN B X2 (pc' := 10) d11_9 rfl rfl rfl ?_
  refine s_aloadN B X2 (pc' := 11) d11_10 rfl rfl rfl ?_
  have f4 := (D_b0_producers.other W2 (Or.inr (slot_ne (Or.inr (tw79 hw)) (Or.inr (tw77 hw)) (by decide) (t := (.object "java/util/List")) (t' := (.object "java/util/List")) (by decide) (by decide))))
  have f5 := (E_b0.wr W2)
  refine s_putF B X2 (pc' := 14) (ty := (.object "java/util/List")) e2 (host := "") (Or.inl (tw78 hw)) Via.refl f4 f5 (Or.inr ⟨(tw79 hw), rfl, rfl⟩) (tw65 hw) (by decide) rfl rfl d11_11 rfl (fun T3 h3 X3 e3 W3 => ?_)
  have G3 := f4.same W3
  have N3 := Fr.snoc X3 N2 ge_b0
  have O3 := (O2).wr W3 ge_b0
  have F3 := OwnF.ext O3.2 FZ
  have K3 := (K2).wr W3 (Or.inl (List.mem_of_getElem? (i := 0) rfl))
  show Go p e below _ (T3.setTop (mkF m 14 #[.val (.ref b0), .val (.ref b1), .val (.ref b2)] []))
  have f6 := (G2.other W3 (Or.inr (slot_ne (Or.inr (tw77 hw)) (Or.inr (tw79 hw)) (by decide) (t := (.object "java/util/List")) (t' := (.object "java/util/List")) (by decide) (by decide))))
  exact r_void B X3 rfl d11_14 (by rw [e3]; exact ⟨rfl, N3, K3, f6, G3⟩) (by decide) (by decide)

theorem pn_mm13_59 : plainFor mn10 = true := plainFor_of_name (show plainName "com/example/lichen/lichen/solver/TermSubsumption$Ways" = true by first | (simp [plainName, overriddenIn]; done) | decide +kernel)
set_option maxRecDepth 65536 in
set_option maxHeartbeats 40000000 in
theorem mm13_59 (l : Launch) (Z : State) (a0 : Array Value) (hw : ∀ d ∈ tables_1, d.before a0 Z = true) (b0 : Addr) (b1 : Addr) (b2 : Addr) (b3 : Addr) (b4 : Addr) (b5 : Addr) (b6 : Addr) (b7 : Addr) (b8 : Addr) (b9 : Addr) (b10 : Addr) (k_b3 : ClassId) (k_b4 : ClassId) (w_D : Addr) (h0 : Heap) (FZ : OwnF Z Z.heap w_D) (O0 : Old Z Z.heap.size h0) (ge_b0 : Z.heap.size ≤ b0) (E_b0 : Exa Z h0 b0 "com/example/lichen/lichen/solver/TermSubsumption$Ways") (D_b0_each : Fld Z h0 b0 "com/example/lichen/lichen/solver/TermSubsumption$Ways" "each" "Ljava/util/List;" (.ref b1)) (D_b0_producers : Fld Z h0 b0 "com/example/lichen/lichen/solver/TermSubsumption$Ways" "producers" "Ljava/util/List;" (.ref b2)) (ge_b1 : Z.heap.size ≤ b1) (E_b1 : Exa Z h0 b1 "java/util/ArrayList") (D_b1_elementData : Fld Z h0 b1 "java/util/ArrayList" "elementData" "[Ljava/lang/Object;" (.ref b3)) (D_b1_modCount : Fld Z h0 b1 "java/util/AbstractList" "modCount" "I" (.int (3 : Int32))) (D_b1_size : Fld Z h0 b1 "java/util/ArrayList" "size" "I" (.int (3 : Int32))) (ge_b2 : Z.heap.size ≤ b2) (E_b2 : Exa Z h0 b2 "java/util/ArrayList") (D_b2_elementData : Fld Z h0 b2 "java/util/ArrayList" "elementData" "[Ljava/lang/Object;" (.ref b4)) (D_b2_modCount : Fld Z h0 b2 "java/util/AbstractList" "modCount" "I" (.int (3 : Int32))) (D_b2_size : Fld Z h0 b2 "java/util/ArrayList" "size" "I" (.int (3 : Int32))) (ge_b3 : Z.heap.size ≤ b3) (A_b3 : Ary Z h0 b3 k_b3 (.object "java/lang/Object") 10 (lst [(.ref b5), (.ref b6), (.ref b7), .null, .null, .null, .null, .null, .null, .null] .null)) (V_b3 : Ovr Z k_b3 "java/lang/Object") (ge_b4 : Z.heap.size ≤ b4) (A_b4 : Ary Z h0 b4 k_b4 (.object "java/lang/Object") 10 (lst [(.ref b8), (.ref b9), (.ref b10), .null, .null, .null, .null, .null, .null, .null] .null)) (V_b4 : Ovr Z k_b4 "java/lang/Object") (ge_b5 : Z.heap.size ≤ b5) (E_b5 : Exa Z h0 b5 "java/util/ArrayList") (ge_b6 : Z.heap.size ≤ b6) (E_b6 : Exa Z h0 b6 "java/util/ArrayList") (ge_b7 : Z.heap.size ≤ b7) (E_b7 : Exa Z h0 b7 "java/util/ArrayList") (E_b8 : Exa Z h0 b8 "java/lang/Integer") (E_b9 : Exa Z h0 b9 "java/lang/Integer") (E_b10 : Exa Z h0 b10 "java/lang/Integer") (ne_b0_b1 : b0 ≠ b1) (ne_b0_b2 : b0 ≠ b2) (ne_b0_b3 : b0 ≠ b3) (ne_b0_b4 : b0 ≠ b4) (ne_b0_b5 : b0 ≠ b5) (ne_b0_b6 : b0 ≠ b6) (ne_b0_b7 : b0 ≠ b7) (ne_b1_b2 : b1 ≠ b2) (ne_b1_b3 : b1 ≠ b3) (ne_b1_b4 : b1 ≠ b4) (ne_b1_b5 : b1 ≠ b5) (ne_b1_b6 : b1 ≠ b6) (ne_b1_b7 : b1 ≠ b7) (ne_b2_b3 : b2 ≠ b3) (ne_b2_b4 : b2 ≠ b4) (ne_b2_b5 : b2 ≠ b5) (ne_b2_b6 : b2 ≠ b6) (ne_b2_b7 : b2 ≠ b7) (ne_b3_b4 : b3 ≠ b4) (ne_b3_b5 : b3 ≠ b5) (ne_b3_b6 : b3 ≠ b6) (ne_b3_b7 : b3 ≠ b7) (ne_b4_b5 : b4 ≠ b5) (ne_b4_b6 : b4 ≠ b6) (ne_b4_b7 : b4 ≠ b7) (ne_b5_b6 : b5 ≠ b6) (ne_b5_b7 : b5 ≠ b7) (ne_b6_b7 : b6 ≠ b7)  :
    OMeets l Z mn10 prog_103_method_3_code 1 (some .boolean) [] ({ frames := 1, cells := 0, slots := 0, locals := 12 } : Room) #[(.ref b0)] h0 (PureQ (some (.int (0 : Int32))) h0) := by
  refine OMeets.of pn_mm13_59 #[.val (.ref b0)] (fun m => by first | rfl | (simp [entryFrame, mkF, argsToLocals, Value.category, maxLocals]; done)) ?_
  intro p e s m below meth c s₁ B X0 e0
  have F0 := OwnF.ext O0.2 FZ
  obtain ⟨S_D, ⟨kD, A_D⟩, S_high, T_cache⟩ := id F0
  refine s_aloadN B X0 (pc' := 1) d13_0 rfl rfl rfl ?_
  refine s_getF B X0 (pc' := 4) e0 (host := "") (Or.inl (tw76 hw)) Via.refl D_b0_each d13_1 rfl (fun T1 X1 e1 => ?_)
  refine p_iface B X1 (y := mn9) (z := mn8) (pc' := 9) (argsL := []) (under := []) (W := 0) e1 (tw85 hw) (tw86 hw) (tw87 hw) (tw88 hw) (tw89 hw) (tw90 hw) (tw91 hw) (tw92 hw) (tw93 hw) (tw2 hw) (by decide) (mm14_52 l Z a0 hw b1 b3 b5 b6 b7 k_b3 w_D h0 FZ O0 ge_b1 E_b1 D_b1_elementData D_b1_modCount D_b1_size ge_b3 A_b3 V_b3 ge_b5 E_b5 ge_b6 E_b6 ge_b7 E_b7 ne_b1_b3 ne_b1_b5 ne_b1_b6 ne_b1_b7 ne_b3_b5 ne_b3_b6 ne_b3_b7 ne_b5_b6 ne_b5_b7 ne_b6_b7 ) E_b1 (lenOf pd_3 rfl) rfl rfl (by decide) (by decide) rfl rfl (by decide) (by decide) rfl d13_4 rfl (fun T2 X2 e2 => ?_)
  show Go p e below _ (T2.setTop (mkF m 9 #[.val (.ref b0)] [(.int (0 : Int32))]))
  refine s_ifY B X2 (pc' := 28) d13_9 (by decide) (by decide) (by decide) ?_
  refine s_iconst B X2 (pc' := 29) (v := (0 : Int32)) d13_28 rfl rfl ?_
  exact r_nar B X2 (t := .boolean) (by simp) rfl d13_29 ⟨rfl, rfl, e2⟩ (by decide) (by decide)

theorem pn_mm12_60 : plainFor mn6 = true := by first | exact plainFor_of_name (show plainName "java/lang/Record" = true by first | (simp [plainName, overriddenIn]; done) | decide +kernel) | decide +kernel
set_option maxRecDepth 65536 in
set_option maxHeartbeats 40000000 in
theorem mm12_60 (l : Launch) (Z : State) (a0 : Array Value) (hw : ∀ d ∈ tables_1, d.before a0 Z = true) (b0 : Addr) (w_D : Addr) (h0 : Heap) (FZ : OwnF Z Z.heap w_D) (O0 : Old Z Z.heap.size h0) (ge_b0 : Z.heap.size ≤ b0) (E_b0 : Exa Z h0 b0 "com/example/lichen/lichen/solver/TermSubsumption$Pair") (D_b0_sub : Fld Z h0 b0 "com/example/lichen/lichen/solver/TermSubsumption$Pair" "sub" "I" (.int (0 : Int32))) (D_b0_sup : Fld Z h0 b0 "com/example/lichen/lichen/solver/TermSubsumption$Pair" "sup" "I" (.int (0 : Int32)))  :
    OMeets l Z mn6 jdk_30_method_1_code 1 none [] ({ frames := 1, cells := 0, slots := 0, locals := 12 } : Room) #[(.ref b0)] h0 (PureQ none h0) := by
  refine OMeets.of pn_mm12_60 #[.val (.ref b0)] (fun m => by first | rfl | (simp [entryFrame, mkF, argsToLocals, Value.category, maxLocals]; done)) ?_
  intro p e s m below meth c s₁ B X0 e0
  have F0 := OwnF.ext O0.2 FZ
  obtain ⟨S_D, ⟨kD, A_D⟩, S_high, T_cache⟩ := id F0
  refine s_aloadN B X0 (pc' := 1) d12_0 rfl rfl rfl ?_
  refine s_initO B X0 (pc' := 4) (W := 0) e0 (tw75 hw) (tw19 hw) (tw20 hw) rfl (by decide) (by decide) rfl d12_1 rfl (fun T1 X1 e1 => ?_)
  exact r_void B X1 rfl d12_4 ⟨rfl, rfl, e1⟩ (by decide) (by decide)
theorem d15_0 : decode prog_102_method_1_code 0 = .ok (.aload_n 0, 1) := by decide +kernel
theorem d15_1 : decode prog_102_method_1_code 1 = .ok (.invokespecial 1, 3) := by decide +kernel
theorem d15_4 : decode prog_102_method_1_code 4 = .ok (.aload_n 0, 1) := by decide +kernel
theorem d15_5 : decode prog_102_method_1_code 5 = .ok (.iload_n 1, 1) := by decide +kernel
theorem d15_6 : decode prog_102_method_1_code 6 = .ok (.putfield 7, 3) := by decide +kernel
theorem d15_9 : decode prog_102_method_1_code 9 = .ok (.aload_n 0, 1) := by decide +kernel
theorem d15_10 : decode prog_102_method_1_code 10 = .ok (.iload_n 2, 1) := by decide +kernel
theorem d15_11 : decode prog_102_method_1_code 11 = .ok (.putfield 13, 3) := by decide +kernel
theorem d15_14 : decode prog_102_method_1_code 14 = .ok (.return_, 1) := by decide +kernel
theorem pn_mm15_60 : plainFor mn16 = true := plainFor_of_name (show plainName "com/example/lichen/lichen/solver/TermSubsumption$Pair" = true by first | (simp [plainName, overriddenIn]; done) | decide +kernel)
set_option maxRecDepth 65536 in
set_option maxHeartbeats 40000000 in
theorem mm15_60 (l : Launch) (Z : State) (a0 : Array Value) (hw : ∀ d ∈ tables_1, d.before a0 Z = true) (b0 : Addr) (q1 : Int32) (q2 : Int32) (w_D : Addr) (h0 : Heap) (FZ : OwnF Z Z.heap w_D) (O0 : Old Z Z.heap.size h0) (ge_b0 : Z.heap.size ≤ b0) (E_b0 : Exa Z h0 b0 "com/example/lichen/lichen/solver/TermSubsumption$Pair") (D_b0_sub : Fld Z h0 b0 "com/example/lichen/lichen/solver/TermSubsumption$Pair" "sub" "I" (.int (0 : Int32))) (D_b0_sup : Fld Z h0 b0 "com/example/lichen/lichen/solver/TermSubsumption$Pair" "sup" "I" (.int (0 : Int32)))  :
    OMeets l Z mn16 prog_102_method_1_code 3 none [] ({ frames := 2, cells := 0, slots := 0, locals := 24 } : Room) #[(.ref b0), (.int q1), (.int q2)] h0 (fun v h L => v = none ∧ Fr Z.heap.size L ∧ Keep h0 h [b0] ∧ Fld Z h b0 "com/example/lichen/lichen/solver/TermSubsumption$Pair" "sub" "I" (.int q1) ∧ Fld Z h b0 "com/example/lichen/lichen/solver/TermSubsumption$Pair" "sup" "I" (.int q2)) := by
  refine OMeets.of pn_mm15_60 #[.val (.ref b0), .val (.int q1), .val (.int q2)] (fun m => by first | rfl | (simp [entryFrame, mkF, argsToLocals, Value.category, maxLocals]; done)) ?_
  intro p e s m below meth c s₁ B X0 e0
  have F0 := OwnF.ext O0.2 FZ
  obtain ⟨S_D, ⟨kD, A_D⟩, S_high, T_cache⟩ := id F0
  refine s_aloadN B X0 (pc' := 1) d15_0 rfl rfl rfl ?_
  refine p_init B X0 (y := mn6) (pc' := 4) (argsL := []) (under := []) (W := 0) e0 rfl (tw100 hw) (tw71 hw) (tw74 hw) (tw73 hw) (by decide) (mm12_60 l Z a0 hw b0 w_D h0 FZ O0 ge_b0 E_b0 D_b0_sub D_b0_sup ) (lenOf pd_0 rfl) rfl rfl (by decide) (by decide) rfl rfl (by decide) (by decide) rfl d15_1 rfl (fun T1 X1 e1 => ?_)
  show Go p e below _ (T1.setTop (mkF m 4 #[.val (.ref b0), .val (.int q1), .val (.int q2)] []))
  refine s_aloadN B X1 (pc' := 5) d15_4 rfl rfl rfl ?_
  refine s_iloadN B X1 (pc' := 6) d15_5 rfl rfl ?_
  refine s_putF B X1 (pc' := 9) (ty := .int) e1 (host := "") (Or.inl (tw101 hw)) Via.refl D_b0_sub E_b0 (Or.inr ⟨(tw102 hw), rfl, rfl⟩) (tw95 hw) (by decide) rfl rfl d15_6 rfl (fun T2 h2 X2 e2 W2 => ?_)
  have G2 := D_b0_sub.same W2
  have N2 := Fr.snoc X2 (Fr.nil _) ge_b0
  have O2 := (O0).wr W2 ge_b0
  have F2 := OwnF.ext O2.2 FZ
  have K2 := ((Keep.refl h0 [b0])).wr W2 (Or.inl (List.mem_of_getElem? (i := 0) rfl))
  show Go p e below _ (T2.setTop (mkF m 9 #[.val (.ref b0), .val (.int q1), .val (.int q2)] []))
  refine s_aloadN B X2 (pc' := 10) d15_9 rfl rfl rfl ?_
  refine s_iloadN B X2 (pc' := 11) d15_10 rfl rfl ?_
  have f4 := (D_b0_sup.other W2 (Or.inr (slot_ne (Or.inr (tw104 hw)) (Or.inr (tw102 hw)) (by decide) (t := .int) (t' := .int) (by decide) (by decide))))
  have f5 := (E_b0.wr W2)
  refine s_putF B X2 (pc' := 14) (ty := .int) e2 (host := "") (Or.inl (tw103 hw)) Via.refl f4 f5 (Or.inr ⟨(tw104 hw), rfl, rfl⟩) (tw95 hw) (by decide) rfl rfl d15_11 rfl (fun T3 h3 X3 e3 W3 => ?_)
  have G3 := f4.same W3
  have N3 := Fr.snoc X3 N2 ge_b0
  have O3 := (O2).wr W3 ge_b0
  have F3 := OwnF.ext O3.2 FZ
  have K3 := (K2).wr W3 (Or.inl (List.mem_of_getElem? (i := 0) rfl))
  show Go p e below _ (T3.setTop (mkF m 14 #[.val (.ref b0), .val (.int q1), .val (.int q2)] []))
  have f6 := (G2.other W3 (Or.inr (slot_ne (Or.inr (tw102 hw)) (Or.inr (tw104 hw)) (by decide) (t := .int) (t' := .int) (by decide) (by decide))))
  exact r_void B X3 rfl d15_14 (by rw [e3]; exact ⟨rfl, N3, K3, f6, G3⟩) (by decide) (by decide)

theorem pn_mm7_62 : plainFor mn14 = true := by first | exact plainFor_of_name (show plainName "java/util/ArrayList" = true by first | (simp [plainName, overriddenIn]; done) | decide +kernel) | decide +kernel
set_option maxRecDepth 65536 in
set_option maxHeartbeats 40000000 in
theorem mm7_62 (l : Launch) (Z : State) (a0 : Array Value) (hw : ∀ d ∈ tables_1, d.before a0 Z = true) (b0 : Addr) (b1 : Addr) (q2 : Int32) (q3 : Int32) (w_D : Addr) (h0 : Heap) (FZ : OwnF Z Z.heap w_D) (O0 : Old Z Z.heap.size h0) (ge_b0 : Z.heap.size ≤ b0) (E_b0 : Exa Z h0 b0 "java/util/ArrayList") (D_b0_elementData : Fld Z h0 b0 "java/util/ArrayList" "elementData" "[Ljava/lang/Object;" (.ref w_D)) (D_b0_modCount : Fld Z h0 b0 "java/util/AbstractList" "modCount" "I" (.int (1 : Int32))) (D_b0_size : Fld Z h0 b0 "java/util/ArrayList" "size" "I" (.int (0 : Int32))) (ge_b1 : Z.heap.size ≤ b1) (E_b1 : Exa Z h0 b1 "com/example/lichen/lichen/solver/TermSubsumption$Pair") (D_b1_sub : Fld Z h0 b1 "com/example/lichen/lichen/solver/TermSubsumption$Pair" "sub" "I" (.int q2)) (D_b1_sup : Fld Z h0 b1 "com/example/lichen/lichen/solver/TermSubsumption$Pair" "sup" "I" (.int q3)) (ne_b0_b1 : b0 ≠ b1)  :
    OMeets l Z mn14 jdk_38_method_24_code 4 none [] ({ frames := 3, cells := 1, slots := 10, locals := 41 } : Room) #[(.ref b0), (.ref b1), (.ref w_D), (.int (0 : Int32))] h0 (fun v h L => ∃ o1_0 : Addr, ∃ kq_o1_0 : ClassId, v = none ∧ Fr Z.heap.size L ∧ Keep h0 h [b0] ∧ h0.size ≤ o1_0 ∧ Ary Z h o1_0 kq_o1_0 (.object "java/lang/Object") 10 (lst [(.ref b1), .null, .null, .null, .null, .null, .null, .null, .null, .null] .null) ∧ Ovr Z kq_o1_0 "java/lang/Object" ∧ Fld Z h b0 "java/util/ArrayList" "elementData" "[Ljava/lang/Object;" (.ref o1_0) ∧ Fld Z h b0 "java/util/AbstractList" "modCount" "I" (.int (1 : Int32)) ∧ Fld Z h b0 "java/util/ArrayList" "size" "I" (.int (1 : Int32))) := by
  refine OMeets.of pn_mm7_62 #[.val (.ref b0), .val (.ref b1), .val (.ref w_D), .val (.int (0 : Int32))] (fun m => by first | rfl | (simp [entryFrame, mkF, argsToLocals, Value.category, maxLocals]; done)) ?_
  intro p e s m below meth c s₁ B X0 e0
  have F0 := OwnF.ext O0.2 FZ
  obtain ⟨S_D, ⟨kD, A_D⟩, S_high, T_cache⟩ := id F0
  refine s_iloadN B X0 (pc' := 1) d7_0 rfl rfl ?_
  refine s_aloadN B X0 (pc' := 2) d7_1 rfl rfl rfl ?_
  refine s_len B X0 (pc' := 3) (v := (0 : Int32)) e0 A_D rfl d7_2 rfl ?_
  refine s_icmpN B X0 (pc' := 6) d7_3 (by decide) rfl ?_
  refine s_aloadN B X0 (pc' := 7) d7_6 rfl rfl rfl ?_
  refine c_private B X0 (y := mn13) (pc' := 10) (argsL := []) (under := []) (W := 0) e0 (tw47 hw) (tw1 hw) (tw49 hw) (tw48 hw) (tw51 hw) (tw2 hw) (by decide) (mm8_10 l Z a0 hw b0 w_D h0 FZ O0 ge_b0 E_b0 D_b0_elementData D_b0_modCount D_b0_size ) E_b0 (lenOf pd_7 rfl) rfl rfl (by decide) (by decide) (by decide) (by decide) rfl d7_7 rfl (fun v1 T1 L1 X1 hQ1 => ?_)
  obtain ⟨o1_0, kq_o1_0, rfl, Nq1, Kq1, lq_o1_0, u1_0, ovu1_0, u1_1, u1_2, u1_3⟩ := hQ1
  have ne_b0_o1_0 : b0 ≠ o1_0 := Nat.ne_of_lt (Nat.lt_of_lt_of_le E_b0.lt lq_o1_0)
  have ne_b1_o1_0 : b1 ≠ o1_0 := Nat.ne_of_lt (Nat.lt_of_lt_of_le E_b1.lt lq_o1_0)
  have ge_o1_0 : Z.heap.size ≤ o1_0 := Nat.le_trans (old_le O0) lq_o1_0
  have le_o1_0 : h0.size ≤ o1_0 := Nat.le_trans ((Keep.refl h0 [b0])).1 lq_o1_0
  obtain ⟨h1, e1⟩ : ∃ z, T1.heap = z := ⟨_, rfl⟩
  rw [e1] at Kq1 u1_0 u1_1 u1_2 u1_3
  have N1 := Fr.app (Fr.nil _) Nq1
  have O1 := (O0).keep Kq1 (allS ge_b0 all0)
  have F1 := OwnF.ext O1.2 FZ
  have K1 := ((Keep.refl h0 [b0])).trans Kq1 (allS (Or.inl (List.mem_of_getElem? (i := 0) rfl)) all0)
  show Go p e below _ (T1.setTop (mkF m 10 #[.val (.ref b0), .val (.ref b1), .val (.ref w_D), .val (.int (0 : Int32))] [(.ref o1_0)]))
  refine s_astoreN B X1 (pc' := 11) (Ls' := #[.val (.ref b0), .val (.ref b1), .val (.ref o1_0), .val (.int (0 : Int32))]) d7_10 rfl rfl rfl ?_
  refine s_aloadN B X1 (pc' := 12) d7_11 rfl rfl rfl ?_
  refine s_iloadN B X1 (pc' := 13) d7_12 rfl rfl ?_
  refine s_aloadN B X1 (pc' := 14) d7_13 rfl rfl rfl ?_
  have f3 := (E_b1.keep Kq1)
  refine s_stR B X1 (pc' := 15) (jn := 0) e1 u1_0 rfl (Ary.sto u1_0 ovu1_0 (Ins.of_exa f3 (tw105 hw))) (by decide) (by decide) (by decide) d7_14 rfl (fun T2 h2 X2 e2 W2 A2 => ?_)
  replace A2 := A2.full (show 0 < 10 by decide) (L' := [(.ref b1), .null, .null, .null, .null, .null, .null, .null, .null, .null]) rfl
  have N2 := Fr.snoc X2 N1 ge_o1_0
  have O2 := (O1).wr W2 ge_o1_0
  have F2 := OwnF.ext O2.2 FZ
  have K2 := (K1).wr W2 (Or.inr le_o1_0)
  show Go p e below _ (T2.setTop (mkF m 15 #[.val (.ref b0), .val (.ref b1), .val (.ref o1_0), .val (.int (0 : Int32))] []))
  refine s_aloadN B X2 (pc' := 16) d7_15 rfl rfl rfl ?_
  refine s_iloadN B X2 (pc' := 17) d7_16 rfl rfl ?_
  refine s_iconst B X2 (pc' := 18) (v := (1 : Int32)) d7_17 rfl rfl ?_
  refine s_iadd B X2 (pc' := 19) (v := (1 : Int32)) d7_18 rfl rfl ?_
  have f5 := (u1_3.other W2 (Or.inl ne_b0_o1_0))
  have f6 := ((E_b0.keep Kq1).wr W2)
  refine s_putF B X2 (pc' := 22) (ty := .int) e2 (host := "") (Or.inl (tw40 hw)) Via.refl f5 f6 (Or.inl (tw41 hw)) (tw1 hw) (by decide) rfl rfl d7_19 rfl (fun T4 h4 X4 e4 W4 => ?_)
  have G4 := f5.same W4
  have N4 := Fr.snoc X4 N2 ge_b0
  have O4 := (O2).wr W4 ge_b0
  have F4 := OwnF.ext O4.2 FZ
  have K4 := (K2).wr W4 (Or.inl (List.mem_of_getElem? (i := 0) rfl))
  show Go p e below _ (T4.setTop (mkF m 22 #[.val (.ref b0), .val (.ref b1), .val (.ref o1_0), .val (.int (0 : Int32))] []))
  have f7 := (Ary.other W4 A2 (Ne.symm ne_b0_o1_0))
  have f8 := ((u1_1.other W2 (Or.inl ne_b0_o1_0)).other W4 (Or.inr (slot_ne (Or.inl (tw25 hw)) (Or.inl (tw41 hw)) (by decide) (t := (.array (.object "java/lang/Object"))) (t' := .int) (by decide) (by decide))))
  have f9 := ((u1_2.other W2 (Or.inl ne_b0_o1_0)).other W4 (Or.inr (slot_ne (Or.inl (tw22 hw)) (Or.inl (tw41 hw)) (by decide) (t := .int) (t' := .int) (by decide) (by decide))))
  exact r_void B X4 rfl d7_22 (by rw [e4]; exact ⟨o1_0, kq_o1_0, rfl, N4, K4, le_o1_0, f7, ovu1_0, f8, f9, G4⟩) (by decide) (by decide)

theorem pn_mm6_62 : plainFor mn15 = true := by first | exact plainFor_of_name (show plainName "java/util/ArrayList" = true by first | (simp [plainName, overriddenIn]; done) | decide +kernel) | decide +kernel
set_option maxRecDepth 65536 in
set_option maxHeartbeats 40000000 in
theorem mm6_62 (l : Launch) (Z : State) (a0 : Array Value) (hw : ∀ d ∈ tables_1, d.before a0 Z = true) (b0 : Addr) (b1 : Addr) (q2 : Int32) (q3 : Int32) (w_D : Addr) (h0 : Heap) (FZ : OwnF Z Z.heap w_D) (O0 : Old Z Z.heap.size h0) (ge_b0 : Z.heap.size ≤ b0) (E_b0 : Exa Z h0 b0 "java/util/ArrayList") (D_b0_elementData : Fld Z h0 b0 "java/util/ArrayList" "elementData" "[Ljava/lang/Object;" (.ref w_D)) (D_b0_modCount : Fld Z h0 b0 "java/util/AbstractList" "modCount" "I" (.int (0 : Int32))) (D_b0_size : Fld Z h0 b0 "java/util/ArrayList" "size" "I" (.int (0 : Int32))) (ge_b1 : Z.heap.size ≤ b1) (E_b1 : Exa Z h0 b1 "com/example/lichen/lichen/solver/TermSubsumption$Pair") (D_b1_sub : Fld Z h0 b1 "com/example/lichen/lichen/solver/TermSubsumption$Pair" "sub" "I" (.int q2)) (D_b1_sup : Fld Z h0 b1 "com/example/lichen/lichen/solver/TermSubsumption$Pair" "sup" "I" (.int q3)) (ne_b0_b1 : b0 ≠ b1)  :
    OMeets l Z mn15 jdk_38_method_25_code 2 (some .boolean) [] ({ frames := 4, cells := 1, slots := 10, locals := 56 } : Room) #[(.ref b0), (.ref b1)] h0 (fun v h L => ∃ o11_0 : Addr, ∃ kq_o11_0 : ClassId, v = some (.int (1 : Int32)) ∧ Fr Z.heap.size L ∧ Keep h0 h [b0] ∧ h0.size ≤ o11_0 ∧ Ary Z h o11_0 kq_o11_0 (.object "java/lang/Object") 10 (lst [(.ref b1), .null, .null, .null, .null, .null, .null, .null, .null, .null] .null) ∧ Ovr Z kq_o11_0 "java/lang/Object" ∧ Fld Z h b0 "java/util/ArrayList" "elementData" "[Ljava/lang/Object;" (.ref o11_0) ∧ Fld Z h b0 "java/util/AbstractList" "modCount" "I" (.int (1 : Int32)) ∧ Fld Z h b0 "java/util/ArrayList" "size" "I" (.int (1 : Int32))) := by
  refine OMeets.of pn_mm6_62 #[.val (.ref b0), .val (.ref b1)] (fun m => by first | rfl | (simp [entryFrame, mkF, argsToLocals, Value.category, maxLocals]; done)) ?_
  intro p e s m below meth c s₁ B X0 e0
  have F0 := OwnF.ext O0.2 FZ
  obtain ⟨S_D, ⟨kD, A_D⟩, S_high, T_cache⟩ := id F0
  refine s_aloadN B X0 (pc' := 1) d6_0 rfl rfl rfl ?_
  refine s_dup B X0 (pc' := 2) d6_1 rfl rfl ?_
  refine s_getF B X0 (pc' := 5) e0 (host := "") (Or.inl (tw38 hw)) (Via.of (tw39 hw)) D_b0_modCount d6_2 rfl (fun T1 X1 e1 => ?_)
  refine s_iconst B X1 (pc' := 6) (v := (1 : Int32)) d6_5 rfl rfl ?_
  refine s_iadd B X1 (pc' := 7) (v := (1 : Int32)) d6_6 rfl rfl ?_
  refine s_putF B X1 (pc' := 10) (ty := .int) e1 (host := "") (Or.inl (tw38 hw)) (Via.of (tw39 hw)) D_b0_modCount E_b0 (Or.inl (tw22 hw)) (tw1 hw) (by decide) rfl rfl d6_7 rfl (fun T2 h2 X2 e2 W2 => ?_)
  have G2 := D_b0_modCount.same W2
  have N2 := Fr.snoc X2 (Fr.nil _) ge_b0
  have O2 := (O0).wr W2 ge_b0
  have F2 := OwnF.ext O2.2 FZ
  have K2 := ((Keep.refl h0 [b0])).wr W2 (Or.inl (List.mem_of_getElem? (i := 0) rfl))
  show Go p e below _ (T2.setTop (mkF m 10 #[.val (.ref b0), .val (.ref b1)] []))
  refine s_aloadN B X2 (pc' := 11) d6_10 rfl rfl rfl ?_
  refine s_aloadN B X2 (pc' := 12) d6_11 rfl rfl rfl ?_
  refine s_aloadN B X2 (pc' := 13) d6_12 rfl rfl rfl ?_
  have f3 := (D_b0_elementData.other W2 (Or.inr (slot_ne (Or.inl (tw25 hw)) (Or.inl (tw22 hw)) (by decide) (t := (.array (.object "java/lang/Object"))) (t' := .int) (by decide) (by decide))))
  refine s_getF B X2 (pc' := 16) e2 (host := "") (Or.inl (tw24 hw)) Via.refl f3 d6_13 rfl (fun T4 X4 e4 => ?_)
  refine s_aloadN B X4 (pc' := 17) d6_16 rfl rfl rfl ?_
  have f5 := (D_b0_size.other W2 (Or.inr (slot_ne (Or.inl (tw41 hw)) (Or.inl (tw22 hw)) (by decide) (t := .int) (t' := .int) (by decide) (by decide))))
  refine s_getF B X4 (pc' := 20) e4 (host := "") (Or.inl (tw40 hw)) Via.refl f5 d6_17 rfl (fun T6 X6 e6 => ?_)
  have f7 := (E_b0.wr W2)
  have f8 := (E_b1.wr W2)
  have f9 := (D_b1_sub.other W2 (Or.inl (Ne.symm ne_b0_b1)))
  have f10 := (D_b1_sup.other W2 (Or.inl (Ne.symm ne_b0_b1)))
  refine c_private B X6 (y := mn14) (pc' := 23) (argsL := [(.ref b1), (.ref w_D), (.int (0 : Int32))]) (under := []) (W := 0) e6 (tw42 hw) (tw1 hw) (tw44 hw) (tw43 hw) (tw46 hw) (tw2 hw) (by decide) (mm7_62 l Z a0 hw b0 b1 q2 q3 w_D h2 FZ O2 ge_b0 f7 f3 G2 f5 ge_b1 f8 f9 f10 ne_b0_b1 ) f7 (lenOf pd_8 rfl) rfl rfl (by decide) (by decide) (by decide) (by decide) rfl d6_20 rfl (fun v11 T11 L11 X11 hQ11 => ?_)
  obtain ⟨o11_0, kq_o11_0, rfl, Nq11, Kq11, lq_o11_0, u11_0, ovu11_0, u11_1, u11_2, u11_3⟩ := hQ11
  have ne_b0_o11_0 : b0 ≠ o11_0 := Nat.ne_of_lt (Nat.lt_of_lt_of_le f7.lt lq_o11_0)
  have ne_b1_o11_0 : b1 ≠ o11_0 := Nat.ne_of_lt (Nat.lt_of_lt_of_le f8.lt lq_o11_0)
  have ge_o11_0 : Z.heap.size ≤ o11_0 := Nat.le_trans (old_le O2) lq_o11_0
  have le_o11_0 : h0.size ≤ o11_0 := Nat.le_trans (K2).1 lq_o11_0
  obtain ⟨h11, e11⟩ : ∃ z, T11.heap = z := ⟨_, rfl⟩
  rw [e11] at Kq11 u11_0 u11_1 u11_2 u11_3
  have N11 := Fr.app N2 Nq11
  have O11 := (O2).keep Kq11 (allS ge_b0 all0)
  have F11 := OwnF.ext O11.2 FZ
  have K11 := (K2).trans Kq11 (allS (Or.inl (List.mem_of_getElem? (i := 0) rfl)) all0)
  show Go p e below _ (T11.setTop (mkF m 23 #[.val (.ref b0), .val (.ref b1)] []))
  refine s_iconst B X11 (pc' := 24) (v := (1 : Int32)) d6_23 rfl rfl ?_
  exact r_nar B X11 (t := .boolean) (by simp) rfl d6_24 (by rw [e11]; exact ⟨o11_0, kq_o11_0, rfl, N11, K11, le_o11_0, u11_0, ovu11_0, u11_1, u11_2, u11_3⟩) (by decide) (by decide)

theorem pn_rm_law : plainFor x = true := plainFor_of_name (show plainName "com/example/lichen/lichen/solver/WaysNeverPinLaw" = true by first | (simp [plainName, overriddenIn]; done) | decide +kernel)
set_option maxRecDepth 65536 in
set_option maxHeartbeats 40000000 in
theorem rm_law (l : Launch) (Z : State) (a0 : Array Value) (hw : ∀ d ∈ tables_1, d.before a0 Z = true) (i0 i1 i2 i3 i4 i5 : Int32) (w_D : Addr) (FZ : OwnF Z Z.heap w_D) :
    OMeets l Z x code maxLocals ret tables_1 room_1 #[(.int i0), (.int i1), (.int i2), (.int i3), (.int i4), (.int i5)] Z.heap (fun v h L => v = some (.int 1) ∧ Fr Z.heap.size L) := by
  refine OMeets.of pn_rm_law #[.val (.int i0), .val (.int i1), .val (.int i2), .val (.int i3), .val (.int i4), .val (.int i5), .unset, .unset, .unset, .unset, .unset, .unset, .unset, .unset] (fun m => by first | rfl | (simp [entryFrame, mkF, argsToLocals, Value.category, maxLocals]; done)) ?_
  intro p e s m below meth c s₁ B X0 e0
  have F0 := FZ
  obtain ⟨S_D, ⟨kD, A_D⟩, S_high, T_cache⟩ := id F0
  refine s_iloadN B X0 (pc' := 1) at_0 rfl rfl ?_
  refine s_iconst B X0 (pc' := 2) (v := (3 : Int32)) at_1 rfl rfl ?_
  refine s_iand B X0 (pc' := 3) (v := (i0 &&& (3 : Int32))) at_2 rfl rfl ?_
  refine s_istore B X0 (pc' := 5) (Ls' := #[.val (.int i0), .val (.int i1), .val (.int i2), .val (.int i3), .val (.int i4), .val (.int i5), .val (.int (i0 &&& (3 : Int32))), .unset, .unset, .unset, .unset, .unset, .unset, .unset]) at_3 rfl rfl ?_
  refine s_iloadN B X0 (pc' := 6) at_5 rfl rfl ?_
  refine s_iconst B X0 (pc' := 7) (v := (3 : Int32)) at_6 rfl rfl ?_
  refine s_iand B X0 (pc' := 8) (v := (i1 &&& (3 : Int32))) at_7 rfl rfl ?_
  refine s_istore B X0 (pc' := 10) (Ls' := #[.val (.int i0), .val (.int i1), .val (.int i2), .val (.int i3), .val (.int i4), .val (.int i5), .val (.int (i0 &&& (3 : Int32))), .val (.int (i1 &&& (3 : Int32))), .unset, .unset, .unset, .unset, .unset, .unset]) at_8 rfl rfl ?_
  refine s_new B X0 (pc' := 13) (n0 := 3) e0 (tw0 hw) (tw1 hw) (tw2 hw) (by decide) (by decide) at_10 rfl (fun T1 h1 o1 g1 X1 e1 E1 A1 D1 => ?_)
  have ge_o1 : Z.heap.size ≤ o1 := g1 ▸ old_le (Old.start Z)
  have O1 := ((Old.start Z)).ext E1
  have F1 := OwnF.ext O1.2 FZ
  have D1_modCount : Fld Z h1 o1 "java/util/AbstractList" "modCount" "I" (.int (0 : Int32)) := D1 (Or.inl (tw22 hw)) (ty := .int) (by decide)
  have D1_elementData : Fld Z h1 o1 "java/util/ArrayList" "elementData" "[Ljava/lang/Object;" .null := D1 (Or.inl (tw25 hw)) (ty := (.array (.object "java/lang/Object"))) (by decide)
  have D1_size : Fld Z h1 o1 "java/util/ArrayList" "size" "I" (.int (0 : Int32)) := D1 (Or.inl (tw41 hw)) (ty := .int) (by decide)
  show Go p e below _ (T1.setTop (mkF m 13 #[.val (.int i0), .val (.int i1), .val (.int i2), .val (.int i3), .val (.int i4), .val (.int i5), .val (.int (i0 &&& (3 : Int32))), .val (.int (i1 &&& (3 : Int32))), .unset, .unset, .unset, .unset, .unset, .unset] [(.ref o1)]))
  refine s_dup B X1 (pc' := 14) at_13 rfl rfl ?_
  refine c_init B X1 (y := mn5) (pc' := 17) (argsL := []) (under := [(.ref o1)]) (W := 1) e1 rfl (tw3 hw) (tw4 hw) (tw5 hw) (tw2 hw) (by decide) (mm1_3 l Z a0 hw o1 w_D h1 FZ O1 ge_o1 A1 D1_elementData D1_modCount D1_size ) (lenOf pd_0 rfl) rfl rfl (by decide) (by decide) (by decide) (by decide) rfl at_14 rfl (fun v2 T2 L2 X2 hQ2 => ?_)
  obtain ⟨rfl, Nq2, Kq2, u2_0, u2_1, u2_2⟩ := hQ2
  obtain ⟨h2, e2⟩ : ∃ z, T2.heap = z := ⟨_, rfl⟩
  rw [e2] at Kq2 u2_0 u2_1 u2_2
  have N2 := Fr.app (Fr.nil _) Nq2
  have O2 := (O1).keep Kq2 (allS ge_o1 all0)
  have F2 := OwnF.ext O2.2 FZ
  show Go p e below _ (T2.setTop (mkF m 17 #[.val (.int i0), .val (.int i1), .val (.int i2), .val (.int i3), .val (.int i4), .val (.int i5), .val (.int (i0 &&& (3 : Int32))), .val (.int (i1 &&& (3 : Int32))), .unset, .unset, .unset, .unset, .unset, .unset] [(.ref o1)]))
  refine s_astore B X2 (pc' := 19) (Ls' := #[.val (.int i0), .val (.int i1), .val (.int i2), .val (.int i3), .val (.int i4), .val (.int i5), .val (.int (i0 &&& (3 : Int32))), .val (.int (i1 &&& (3 : Int32))), .val (.ref o1), .unset, .unset, .unset, .unset, .unset]) at_17 rfl rfl rfl ?_
  refine s_new B X2 (pc' := 22) (n0 := 3) e2 (tw0 hw) (tw1 hw) (tw2 hw) (by decide) (by decide) at_19 rfl (fun T3 h3 o3 g3 X3 e3 E3 A3 D3 => ?_)
  have f4 := (A1.keep Kq2)
  have ne_o1_o3 : o1 ≠ o3 := Nat.ne_of_lt (g3 ▸ f4.lt)
  have ge_o3 : Z.heap.size ≤ o3 := g3 ▸ old_le O2
  have O3 := (O2).ext E3
  have F3 := OwnF.ext O3.2 FZ
  have D3_modCount : Fld Z h3 o3 "java/util/AbstractList" "modCount" "I" (.int (0 : Int32)) := D3 (Or.inl (tw22 hw)) (ty := .int) (by decide)
  have D3_elementData : Fld Z h3 o3 "java/util/ArrayList" "elementData" "[Ljava/lang/Object;" .null := D3 (Or.inl (tw25 hw)) (ty := (.array (.object "java/lang/Object"))) (by decide)
  have D3_size : Fld Z h3 o3 "java/util/ArrayList" "size" "I" (.int (0 : Int32)) := D3 (Or.inl (tw41 hw)) (ty := .int) (by decide)
  show Go p e below _ (T3.setTop (mkF m 22 #[.val (.int i0), .val (.int i1), .val (.int i2), .val (.int i3), .val (.int i4), .val (.int i5), .val (.int (i0 &&& (3 : Int32))), .val (.int (i1 &&& (3 : Int32))), .val (.ref o1), .unset, .unset, .unset, .unset, .unset] [(.ref o3)]))
  refine s_dup B X3 (pc' := 23) at_22 rfl rfl ?_
  refine c_init B X3 (y := mn5) (pc' := 26) (argsL := []) (under := [(.ref o3)]) (W := 1) e3 rfl (tw3 hw) (tw4 hw) (tw5 hw) (tw2 hw) (by decide) (mm1_3 l Z a0 hw o3 w_D h3 FZ O3 ge_o3 A3 D3_elementData D3_modCount D3_size ) (lenOf pd_0 rfl) rfl rfl (by decide) (by decide) (by decide) (by decide) rfl at_23 rfl (fun v5 T5 L5 X5 hQ5 => ?_)
  obtain ⟨rfl, Nq5, Kq5, u5_0, u5_1, u5_2⟩ := hQ5
  obtain ⟨h5, e5⟩ : ∃ z, T5.heap = z := ⟨_, rfl⟩
  rw [e5] at Kq5 u5_0 u5_1 u5_2
  have N5 := Fr.app N2 Nq5
  have O5 := (O3).keep Kq5 (allS ge_o3 all0)
  have F5 := OwnF.ext O5.2 FZ
  show Go p e below _ (T5.setTop (mkF m 26 #[.val (.int i0), .val (.int i1), .val (.int i2), .val (.int i3), .val (.int i4), .val (.int i5), .val (.int (i0 &&& (3 : Int32))), .val (.int (i1 &&& (3 : Int32))), .val (.ref o1), .unset, .unset, .unset, .unset, .unset] [(.ref o3)]))
  refine s_astore B X5 (pc' := 28) (Ls' := #[.val (.int i0), .val (.int i1), .val (.int i2), .val (.int i3), .val (.int i4), .val (.int i5), .val (.int (i0 &&& (3 : Int32))), .val (.int (i1 &&& (3 : Int32))), .val (.ref o1), .val (.ref o3), .unset, .unset, .unset, .unset]) at_26 rfl rfl rfl ?_
  refine s_new B X5 (pc' := 31) (n0 := 3) e5 (tw0 hw) (tw1 hw) (tw2 hw) (by decide) (by decide) at_28 rfl (fun T6 h6 o6 g6 X6 e6 E6 A6 D6 => ?_)
  have f7 := ((f4.ext E3).keep Kq5)
  have ne_o1_o6 : o1 ≠ o6 := Nat.ne_of_lt (g6 ▸ f7.lt)
  have f8 := (A3.keep Kq5)
  have ne_o3_o6 : o3 ≠ o6 := Nat.ne_of_lt (g6 ▸ f8.lt)
  have ge_o6 : Z.heap.size ≤ o6 := g6 ▸ old_le O5
  have O6 := (O5).ext E6
  have F6 := OwnF.ext O6.2 FZ
  have D6_modCount : Fld Z h6 o6 "java/util/AbstractList" "modCount" "I" (.int (0 : Int32)) := D6 (Or.inl (tw22 hw)) (ty := .int) (by decide)
  have D6_elementData : Fld Z h6 o6 "java/util/ArrayList" "elementData" "[Ljava/lang/Object;" .null := D6 (Or.inl (tw25 hw)) (ty := (.array (.object "java/lang/Object"))) (by decide)
  have D6_size : Fld Z h6 o6 "java/util/ArrayList" "size" "I" (.int (0 : Int32)) := D6 (Or.inl (tw41 hw)) (ty := .int) (by decide)
  show Go p e below _ (T6.setTop (mkF m 31 #[.val (.int i0), .val (.int i1), .val (.int i2), .val (.int i3), .val (.int i4), .val (.int i5), .val (.int (i0 &&& (3 : Int32))), .val (.int (i1 &&& (3 : Int32))), .val (.ref o1), .val (.ref o3), .unset, .unset, .unset, .unset] [(.ref o6)]))
  refine s_dup B X6 (pc' := 32) at_31 rfl rfl ?_
  refine c_init B X6 (y := mn5) (pc' := 35) (argsL := []) (under := [(.ref o6)]) (W := 1) e6 rfl (tw3 hw) (tw4 hw) (tw5 hw) (tw2 hw) (by decide) (mm1_3 l Z a0 hw o6 w_D h6 FZ O6 ge_o6 A6 D6_elementData D6_modCount D6_size ) (lenOf pd_0 rfl) rfl rfl (by decide) (by decide) (by decide) (by decide) rfl at_32 rfl (fun v9 T9 L9 X9 hQ9 => ?_)
  obtain ⟨rfl, Nq9, Kq9, u9_0, u9_1, u9_2⟩ := hQ9
  obtain ⟨h9, e9⟩ : ∃ z, T9.heap = z := ⟨_, rfl⟩
  rw [e9] at Kq9 u9_0 u9_1 u9_2
  have N9 := Fr.app N5 Nq9
  have O9 := (O6).keep Kq9 (allS ge_o6 all0)
  have F9 := OwnF.ext O9.2 FZ
  show Go p e below _ (T9.setTop (mkF m 35 #[.val (.int i0), .val (.int i1), .val (.int i2), .val (.int i3), .val (.int i4), .val (.int i5), .val (.int (i0 &&& (3 : Int32))), .val (.int (i1 &&& (3 : Int32))), .val (.ref o1), .val (.ref o3), .unset, .unset, .unset, .unset] [(.ref o6)]))
  refine s_astore B X9 (pc' := 37) (Ls' := #[.val (.int i0), .val (.int i1), .val (.int i2), .val (.int i3), .val (.int i4), .val (.int i5), .val (.int (i0 &&& (3 : Int32))), .val (.int (i1 &&& (3 : Int32))), .val (.ref o1), .val (.ref o3), .val (.ref o6), .unset, .unset, .unset]) at_35 rfl rfl rfl ?_
  have jn59 : ∀ (T : State) (Lc : List Loc), Stand p l e room_1 s m #[(.int i0), (.int i1), (.int i2), (.int i3), (.int i4), (.int i5)] below meth c T Lc 5 21 → Fr Z.heap.size Lc → Old Z Z.heap.size T.heap → Exa Z T.heap o1 "java/util/ArrayList" → Exa Z T.heap o3 "java/util/ArrayList" → Exa Z T.heap o6 "java/util/ArrayList" → Fld Z T.heap o3 "java/util/AbstractList" "modCount" "I" (.int (0 : Int32)) → Fld Z T.heap o3 "java/util/ArrayList" "size" "I" (.int (0 : Int32)) → Fld Z T.heap o3 "java/util/ArrayList" "elementData" "[Ljava/lang/Object;" (.ref w_D) → Fld Z T.heap o6 "java/util/AbstractList" "modCount" "I" (.int (0 : Int32)) → Fld Z T.heap o6 "java/util/ArrayList" "size" "I" (.int (0 : Int32)) → Fld Z T.heap o6 "java/util/ArrayList" "elementData" "[Ljava/lang/Object;" (.ref w_D) → Go p e below (OEnds s (fun v h L => v = some (.int 1) ∧ Fr Z.heap.size L) room_1.cells room_1.slots) (T.setTop (mkF m 59 #[.val (.int i0), .val (.int i1), .val (.int i2), .val (.int i3), .val (.int i4), .val (.int i5), .val (.int (i0 &&& (3 : Int32))), .val (.int (i1 &&& (3 : Int32))), .val (.ref o1), .val (.ref o3), .val (.ref o6), .unset, .unset, .unset] [])) := by
    intro Tj59 Lj59 Xj59 Nj59 Oj59 Ej59_o1 Ej59_o3 Ej59_o6 Dj59_o3_modCount Dj59_o3_size Dj59_o3_elementData Dj59_o6_modCount Dj59_o6_size Dj59_o6_elementData
    have Fj59 := OwnF.ext Oj59.2 FZ
    have jn82 : ∀ (T : State) (Lc : List Loc), Stand p l e room_1 s m #[(.int i0), (.int i1), (.int i2), (.int i3), (.int i4), (.int i5)] below meth c T Lc 7 33 → Fr Z.heap.size Lc → Old Z Z.heap.size T.heap → Exa Z T.heap o1 "java/util/ArrayList" → Exa Z T.heap o3 "java/util/ArrayList" → Exa Z T.heap o6 "java/util/ArrayList" → Fld Z T.heap o6 "java/util/AbstractList" "modCount" "I" (.int (0 : Int32)) → Fld Z T.heap o6 "java/util/ArrayList" "size" "I" (.int (0 : Int32)) → Fld Z T.heap o6 "java/util/ArrayList" "elementData" "[Ljava/lang/Object;" (.ref w_D) → Go p e below (OEnds s (fun v h L => v = some (.int 1) ∧ Fr Z.heap.size L) room_1.cells room_1.slots) (T.setTop (mkF m 82 #[.val (.int i0), .val (.int i1), .val (.int i2), .val (.int i3), .val (.int i4), .val (.int i5), .val (.int (i0 &&& (3 : Int32))), .val (.int (i1 &&& (3 : Int32))), .val (.ref o1), .val (.ref o3), .val (.ref o6), .unset, .unset, .unset] [])) := by
      intro Tj82 Lj82 Xj82 Nj82 Oj82 Ej82_o1 Ej82_o3 Ej82_o6 Dj82_o6_modCount Dj82_o6_size Dj82_o6_elementData
      have Fj82 := OwnF.ext Oj82.2 FZ
      have jn105 : ∀ (T : State) (Lc : List Loc), Stand p l e room_1 s m #[(.int i0), (.int i1), (.int i2), (.int i3), (.int i4), (.int i5)] below meth c T Lc 9 45 → Fr Z.heap.size Lc → Old Z Z.heap.size T.heap → Exa Z T.heap o1 "java/util/ArrayList" → Exa Z T.heap o3 "java/util/ArrayList" → Exa Z T.heap o6 "java/util/ArrayList" → Go p e below (OEnds s (fun v h L => v = some (.int 1) ∧ Fr Z.heap.size L) room_1.cells room_1.slots) (T.setTop (mkF m 105 #[.val (.int i0), .val (.int i1), .val (.int i2), .val (.int i3), .val (.int i4), .val (.int i5), .val (.int (i0 &&& (3 : Int32))), .val (.int (i1 &&& (3 : Int32))), .val (.ref o1), .val (.ref o3), .val (.ref o6), .unset, .unset, .unset] [])) := by
        intro Tj105 Lj105 Xj105 Nj105 Oj105 Ej105_o1 Ej105_o3 Ej105_o6
        have Fj105 := OwnF.ext Oj105.2 FZ
        refine s_new B Xj105 (pc' := 108) (n0 := 3) rfl (tw0 hw) (tw1 hw) (tw2 hw) (by decide) (by decide) at_105 rfl (fun T10 h10 o10 g10 X10 e10 E10 A10 D10 => ?_)
        have ne_o1_o10 : o1 ≠ o10 := Nat.ne_of_lt (g10 ▸ Ej105_o1.lt)
        have ne_o3_o10 : o3 ≠ o10 := Nat.ne_of_lt (g10 ▸ Ej105_o3.lt)
        have ne_o6_o10 : o6 ≠ o10 := Nat.ne_of_lt (g10 ▸ Ej105_o6.lt)
        have ge_o10 : Z.heap.size ≤ o10 := g10 ▸ old_le Oj105
        have O10 := (Oj105).ext E10
        have F10 := OwnF.ext O10.2 FZ
        have D10_modCount : Fld Z h10 o10 "java/util/AbstractList" "modCount" "I" (.int (0 : Int32)) := D10 (Or.inl (tw22 hw)) (ty := .int) (by decide)
        have D10_elementData : Fld Z h10 o10 "java/util/ArrayList" "elementData" "[Ljava/lang/Object;" .null := D10 (Or.inl (tw25 hw)) (ty := (.array (.object "java/lang/Object"))) (by decide)
        have D10_size : Fld Z h10 o10 "java/util/ArrayList" "size" "I" (.int (0 : Int32)) := D10 (Or.inl (tw41 hw)) (ty := .int) (by decide)
        show Go p e below _ (T10.setTop (mkF m 108 #[.val (.int i0), .val (.int i1), .val (.int i2), .val (.int i3), .val (.int i4), .val (.int i5), .val (.int (i0 &&& (3 : Int32))), .val (.int (i1 &&& (3 : Int32))), .val (.ref o1), .val (.ref o3), .val (.ref o6), .unset, .unset, .unset] [(.ref o10)]))
        refine s_dup B X10 (pc' := 109) at_108 rfl rfl ?_
        refine c_init B X10 (y := mn5) (pc' := 112) (argsL := []) (under := [(.ref o10)]) (W := 1) e10 rfl (tw3 hw) (tw4 hw) (tw5 hw) (tw2 hw) (by decide) (mm1_3 l Z a0 hw o10 w_D h10 FZ O10 ge_o10 A10 D10_elementData D10_modCount D10_size ) (lenOf pd_0 rfl) rfl rfl (by decide) (by decide) (by decide) (by decide) rfl at_109 rfl (fun v11 T11 L11 X11 hQ11 => ?_)
        obtain ⟨rfl, Nq11, Kq11, u11_0, u11_1, u11_2⟩ := hQ11
        obtain ⟨h11, e11⟩ : ∃ z, T11.heap = z := ⟨_, rfl⟩
        rw [e11] at Kq11 u11_0 u11_1 u11_2
        have N11 := Fr.app Nj105 Nq11
        have O11 := (O10).keep Kq11 (allS ge_o10 all0)
        have F11 := OwnF.ext O11.2 FZ
        show Go p e below _ (T11.setTop (mkF m 112 #[.val (.int i0), .val (.int i1), .val (.int i2), .val (.int i3), .val (.int i4), .val (.int i5), .val (.int (i0 &&& (3 : Int32))), .val (.int (i1 &&& (3 : Int32))), .val (.ref o1), .val (.ref o3), .val (.ref o6), .unset, .unset, .unset] [(.ref o10)]))
        refine s_astore B X11 (pc' := 114) (Ls' := #[.val (.int i0), .val (.int i1), .val (.int i2), .val (.int i3), .val (.int i4), .val (.int i5), .val (.int (i0 &&& (3 : Int32))), .val (.int (i1 &&& (3 : Int32))), .val (.ref o1), .val (.ref o3), .val (.ref o6), .val (.ref o10), .unset, .unset]) at_112 rfl rfl rfl ?_
        rcases own_and3 i0 with hv12 | hv12 | hv12 | hv12
        · rw [hv12]
          show Go p e below _ (T11.setTop (mkF m 114 #[.val (.int i0), .val (.int i1), .val (.int i2), .val (.int i3), .val (.int i4), .val (.int i5), .val (.int (0 : Int32)), .val (.int (i1 &&& (3 : Int32))), .val (.ref o1), .val (.ref o3), .val (.ref o6), .val (.ref o10), .unset, .unset] []))
          refine s_iload B X11 (pc' := 116) at_114 rfl rfl ?_
          refine s_iconst B X11 (pc' := 117) (v := (1 : Int32)) at_116 rfl rfl ?_
          refine s_icmpY B X11 (pc' := 128) at_117 (by decide) (by decide) (by decide) ?_
          refine s_iload B X11 (pc' := 130) at_128 rfl rfl ?_
          refine s_iconst B X11 (pc' := 131) (v := (2 : Int32)) at_130 rfl rfl ?_
          refine s_icmpY B X11 (pc' := 142) at_131 (by decide) (by decide) (by decide) ?_
          refine s_iload B X11 (pc' := 144) at_142 rfl rfl ?_
          refine s_iconst B X11 (pc' := 145) (v := (3 : Int32)) at_144 rfl rfl ?_
          refine s_icmpY B X11 (pc' := 156) at_145 (by decide) (by decide) (by decide) ?_
          refine s_new B X11 (pc' := 159) (n0 := 3) e11 (tw0 hw) (tw1 hw) (tw2 hw) (by decide) (by decide) at_156 rfl (fun T13 h13 o13 g13 X13 e13 E13 A13 D13 => ?_)
          have f14 := ((Ej105_o1.ext E10).keep Kq11)
          have ne_o1_o13 : o1 ≠ o13 := Nat.ne_of_lt (g13 ▸ f14.lt)
          have f15 := ((Ej105_o3.ext E10).keep Kq11)
          have ne_o3_o13 : o3 ≠ o13 := Nat.ne_of_lt (g13 ▸ f15.lt)
          have f16 := ((Ej105_o6.ext E10).keep Kq11)
          have ne_o6_o13 : o6 ≠ o13 := Nat.ne_of_lt (g13 ▸ f16.lt)
          have f17 := (A10.keep Kq11)
          have ne_o10_o13 : o10 ≠ o13 := Nat.ne_of_lt (g13 ▸ f17.lt)
          have ge_o13 : Z.heap.size ≤ o13 := g13 ▸ old_le O11
          have O13 := (O11).ext E13
          have F13 := OwnF.ext O13.2 FZ
          have D13_modCount : Fld Z h13 o13 "java/util/AbstractList" "modCount" "I" (.int (0 : Int32)) := D13 (Or.inl (tw22 hw)) (ty := .int) (by decide)
          have D13_elementData : Fld Z h13 o13 "java/util/ArrayList" "elementData" "[Ljava/lang/Object;" .null := D13 (Or.inl (tw25 hw)) (ty := (.array (.object "java/lang/Object"))) (by decide)
          have D13_size : Fld Z h13 o13 "java/util/ArrayList" "size" "I" (.int (0 : Int32)) := D13 (Or.inl (tw41 hw)) (ty := .int) (by decide)
          show Go p e below _ (T13.setTop (mkF m 159 #[.val (.int i0), .val (.int i1), .val (.int i2), .val (.int i3), .val (.int i4), .val (.int i5), .val (.int (0 : Int32)), .val (.int (i1 &&& (3 : Int32))), .val (.ref o1), .val (.ref o3), .val (.ref o6), .val (.ref o10), .unset, .unset] [(.ref o13)]))
          refine s_dup B X13 (pc' := 160) at_159 rfl rfl ?_
          refine c_init B X13 (y := mn5) (pc' := 163) (argsL := []) (under := [(.ref o13)]) (W := 1) e13 rfl (tw3 hw) (tw4 hw) (tw5 hw) (tw2 hw) (by decide) (mm1_3 l Z a0 hw o13 w_D h13 FZ O13 ge_o13 A13 D13_elementData D13_modCount D13_size ) (lenOf pd_0 rfl) rfl rfl (by decide) (by decide) (by decide) (by decide) rfl at_160 rfl (fun v18 T18 L18 X18 hQ18 => ?_)
          obtain ⟨rfl, Nq18, Kq18, u18_0, u18_1, u18_2⟩ := hQ18
          obtain ⟨h18, e18⟩ : ∃ z, T18.heap = z := ⟨_, rfl⟩
          rw [e18] at Kq18 u18_0 u18_1 u18_2
          have N18 := Fr.app N11 Nq18
          have O18 := (O13).keep Kq18 (allS ge_o13 all0)
          have F18 := OwnF.ext O18.2 FZ
          show Go p e below _ (T18.setTop (mkF m 163 #[.val (.int i0), .val (.int i1), .val (.int i2), .val (.int i3), .val (.int i4), .val (.int i5), .val (.int (0 : Int32)), .val (.int (i1 &&& (3 : Int32))), .val (.ref o1), .val (.ref o3), .val (.ref o6), .val (.ref o10), .unset, .unset] [(.ref o13)]))
          refine s_astore B X18 (pc' := 165) (Ls' := #[.val (.int i0), .val (.int i1), .val (.int i2), .val (.int i3), .val (.int i4), .val (.int i5), .val (.int (0 : Int32)), .val (.int (i1 &&& (3 : Int32))), .val (.ref o1), .val (.ref o3), .val (.ref o6), .val (.ref o10), .val (.ref o13), .unset]) at_163 rfl rfl rfl ?_
          rcases own_and3 i1 with hv19 | hv19 | hv19 | hv19
          · rw [hv19]
            show Go p e below _ (T18.setTop (mkF m 165 #[.val (.int i0), .val (.int i1), .val (.int i2), .val (.int i3), .val (.int i4), .val (.int i5), .val (.int (0 : Int32)), .val (.int (0 : Int32)), .val (.ref o1), .val (.ref o3), .val (.ref o6), .val (.ref o10), .val (.ref o13), .unset] []))
            refine s_iload B X18 (pc' := 167) at_165 rfl rfl ?_
            refine s_iconst B X18 (pc' := 168) (v := (1 : Int32)) at_167 rfl rfl ?_
            refine s_icmpY B X18 (pc' := 181) at_168 (by decide) (by decide) (by decide) ?_
            refine s_iload B X18 (pc' := 183) at_181 rfl rfl ?_
            refine s_iconst B X18 (pc' := 184) (v := (2 : Int32)) at_183 rfl rfl ?_
            refine s_icmpY B X18 (pc' := 198) at_184 (by decide) (by decide) (by decide) ?_
            refine s_iload B X18 (pc' := 200) at_198 rfl rfl ?_
            refine s_iconst B X18 (pc' := 201) (v := (3 : Int32)) at_200 rfl rfl ?_
            refine s_icmpY B X18 (pc' := 214) at_201 (by decide) (by decide) (by decide) ?_
            refine s_iload B X18 (pc' := 216) at_214 rfl rfl ?_
            refine s_ifN B X18 (pc' := 219) at_216 (by decide) rfl ?_
            refine s_iload B X18 (pc' := 221) at_219 rfl rfl ?_
            refine s_ifN B X18 (pc' := 224) at_221 (by decide) rfl ?_
            refine s_iconst B X18 (pc' := 225) (v := (1 : Int32)) at_224 rfl rfl ?_
            refine s_goto B X18 (pc' := 229) at_225 (by decide) (by decide) ?_
            refine s_istore B X18 (pc' := 231) (Ls' := #[.val (.int i0), .val (.int i1), .val (.int i2), .val (.int i3), .val (.int i4), .val (.int i5), .val (.int (0 : Int32)), .val (.int (0 : Int32)), .val (.ref o1), .val (.ref o3), .val (.ref o6), .val (.ref o10), .val (.ref o13), .val (.int (1 : Int32))]) at_229 rfl rfl ?_
            refine s_new B X18 (pc' := 234) (n0 := 2) e18 (tw64 hw) (tw65 hw) (tw66 hw) (by decide) (by decide) at_231 rfl (fun T20 h20 o20 g20 X20 e20 E20 A20 D20 => ?_)
            have f21 := ((f14.ext E13).keep Kq18)
            have ne_o1_o20 : o1 ≠ o20 := Nat.ne_of_lt (g20 ▸ f21.lt)
            have f22 := ((f15.ext E13).keep Kq18)
            have ne_o3_o20 : o3 ≠ o20 := Nat.ne_of_lt (g20 ▸ f22.lt)
            have f23 := ((f16.ext E13).keep Kq18)
            have ne_o6_o20 : o6 ≠ o20 := Nat.ne_of_lt (g20 ▸ f23.lt)
            have f24 := ((f17.ext E13).keep Kq18)
            have ne_o10_o20 : o10 ≠ o20 := Nat.ne_of_lt (g20 ▸ f24.lt)
            have f25 := (A13.keep Kq18)
            have ne_o13_o20 : o13 ≠ o20 := Nat.ne_of_lt (g20 ▸ f25.lt)
            have ge_o20 : Z.heap.size ≤ o20 := g20 ▸ old_le O18
            have O20 := (O18).ext E20
            have F20 := OwnF.ext O20.2 FZ
            have D20_each : Fld Z h20 o20 "com/example/lichen/lichen/solver/TermSubsumption$Ways" "each" "Ljava/util/List;" .null := D20 (Or.inr (tw77 hw)) (ty := (.object "java/util/List")) (by decide)
            have D20_producers : Fld Z h20 o20 "com/example/lichen/lichen/solver/TermSubsumption$Ways" "producers" "Ljava/util/List;" .null := D20 (Or.inr (tw79 hw)) (ty := (.object "java/util/List")) (by decide)
            show Go p e below _ (T20.setTop (mkF m 234 #[.val (.int i0), .val (.int i1), .val (.int i2), .val (.int i3), .val (.int i4), .val (.int i5), .val (.int (0 : Int32)), .val (.int (0 : Int32)), .val (.ref o1), .val (.ref o3), .val (.ref o6), .val (.ref o10), .val (.ref o13), .val (.int (1 : Int32))] [(.ref o20)]))
            refine s_dup B X20 (pc' := 235) at_234 rfl rfl ?_
            refine s_aload B X20 (pc' := 237) at_235 rfl rfl rfl ?_
            refine s_aload B X20 (pc' := 239) at_237 rfl rfl rfl ?_
            have f26 := (f24.ext E20)
            have f27 := (((u11_0.ext E13).keep Kq18 (ninS ne_o10_o13 nin0)).ext E20)
            have f28 := (((u11_1.ext E13).keep Kq18 (ninS ne_o10_o13 nin0)).ext E20)
            have f29 := (((u11_2.ext E13).keep Kq18 (ninS ne_o10_o13 nin0)).ext E20)
            have f30 := (f25.ext E20)
            have f31 := (u18_0.ext E20)
            have f32 := (u18_1.ext E20)
            have f33 := (u18_2.ext E20)
            refine c_init B X20 (y := mn7) (pc' := 242) (argsL := [(.ref o10), (.ref o13)]) (under := [(.ref o20)]) (W := 1) e20 rfl (tw67 hw) (tw68 hw) (tw69 hw) (tw66 hw) (by decide) (mm11_6 l Z a0 hw o20 o10 o13 w_D h20 FZ O20 ge_o20 A20 D20_each D20_producers ge_o10 f26 f27 f28 f29 ge_o13 f30 f31 f32 f33 (Ne.symm ne_o10_o20) (Ne.symm ne_o13_o20) ne_o10_o13 ) (lenOf pd_2 rfl) rfl rfl (by decide) (by decide) (by decide) (by decide) rfl at_239 rfl (fun v34 T34 L34 X34 hQ34 => ?_)
            obtain ⟨rfl, Nq34, Kq34, u34_0, u34_1⟩ := hQ34
            obtain ⟨h34, e34⟩ : ∃ z, T34.heap = z := ⟨_, rfl⟩
            rw [e34] at Kq34 u34_0 u34_1
            have N34 := Fr.app N18 Nq34
            have O34 := (O20).keep Kq34 (allS ge_o20 all0)
            have F34 := OwnF.ext O34.2 FZ
            show Go p e below _ (T34.setTop (mkF m 242 #[.val (.int i0), .val (.int i1), .val (.int i2), .val (.int i3), .val (.int i4), .val (.int i5), .val (.int (0 : Int32)), .val (.int (0 : Int32)), .val (.ref o1), .val (.ref o3), .val (.ref o6), .val (.ref o10), .val (.ref o13), .val (.int (1 : Int32))] [(.ref o20)]))
            have f35 := (A20.keep Kq34)
            have f36 := (f26.keep Kq34)
            have f37 := (f27.keep Kq34 (ninS ne_o10_o20 nin0))
            have f38 := (f28.keep Kq34 (ninS ne_o10_o20 nin0))
            have f39 := (f29.keep Kq34 (ninS ne_o10_o20 nin0))
            have f40 := (f30.keep Kq34)
            have f41 := (f31.keep Kq34 (ninS ne_o13_o20 nin0))
            have f42 := (f32.keep Kq34 (ninS ne_o13_o20 nin0))
            have f43 := (f33.keep Kq34 (ninS ne_o13_o20 nin0))
            refine p_virtual B X34 (y := mn10) (pc' := 245) (argsL := []) (under := []) (W := 0) e34 (tw80 hw) (tw81 hw) (tw83 hw) (tw82 hw) (tw84 hw) (tw66 hw) (by decide) (mm13_8 l Z a0 hw o20 o10 o13 w_D h34 FZ O34 ge_o20 f35 u34_0 u34_1 ge_o10 f36 f37 f38 f39 ge_o13 f40 f41 f42 f43 (Ne.symm ne_o10_o20) (Ne.symm ne_o13_o20) ne_o10_o13 ) f35 (lenOf pd_3 rfl) rfl rfl (by decide) (by decide) rfl rfl (by decide) (by decide) rfl at_242 rfl (fun T44 X44 e44 => ?_)
            show Go p e below _ (T44.setTop (mkF m 245 #[.val (.int i0), .val (.int i1), .val (.int i2), .val (.int i3), .val (.int i4), .val (.int i5), .val (.int (0 : Int32)), .val (.int (0 : Int32)), .val (.ref o1), .val (.ref o3), .val (.ref o6), .val (.ref o10), .val (.ref o13), .val (.int (1 : Int32))] [(.int (1 : Int32))]))
            refine s_iload B X44 (pc' := 247) at_245 rfl rfl ?_
            refine s_icmpN B X44 (pc' := 250) at_247 (by decide) rfl ?_
            refine s_iconst B X44 (pc' := 251) (v := (1 : Int32)) at_250 rfl rfl ?_
            refine s_goto B X44 (pc' := 255) at_251 (by decide) (by decide) ?_
            exact r_nar B X44 (t := .boolean) (by simp) rfl at_255 ⟨rfl, N34⟩ (by decide) (by decide)
          · rw [hv19]
            show Go p e below _ (T18.setTop (mkF m 165 #[.val (.int i0), .val (.int i1), .val (.int i2), .val (.int i3), .val (.int i4), .val (.int i5), .val (.int (0 : Int32)), .val (.int (1 : Int32)), .val (.ref o1), .val (.ref o3), .val (.ref o6), .val (.ref o10), .val (.ref o13), .unset] []))
            refine s_iload B X18 (pc' := 167) at_165 rfl rfl ?_
            refine s_iconst B X18 (pc' := 168) (v := (1 : Int32)) at_167 rfl rfl ?_
            refine s_icmpN B X18 (pc' := 171) at_168 (by decide) rfl ?_
            refine s_aload B X18 (pc' := 173) at_171 rfl rfl rfl ?_
            refine s_iloadN B X18 (pc' := 174) at_173 rfl rfl ?_
            refine c_static B X18 (y := mn2) (pc' := 177) (argsL := [(.int i2)]) (under := [(.ref o13)]) (W := 1) e18 (tw26 hw) (tw27 hw) (tw29 hw) (tw28 hw) (by decide) (rm_valueOf l Z a0 hw i2 w_D h18 FZ O18) (lenOf pd_4 rfl) rfl rfl (by decide) (by decide) (by decide) (by decide) rfl at_174 rfl (fun v45 T45 L45 X45 hQ => ?_)
            obtain ⟨qL45, rfl, Nq45, Kq45, EL45⟩ := hQ
            obtain ⟨h45, e45⟩ : ∃ z, T45.heap = z := ⟨_, rfl⟩
            rw [e45] at Kq45 EL45
            have N45 := Fr.app N18 Nq45
            have O45 := (O18).keep Kq45 all0
            have F45 := OwnF.ext O45.2 FZ
            show Go p e below _ (T45.setTop (mkF m 177 #[.val (.int i0), .val (.int i1), .val (.int i2), .val (.int i3), .val (.int i4), .val (.int i5), .val (.int (0 : Int32)), .val (.int (1 : Int32)), .val (.ref o1), .val (.ref o3), .val (.ref o6), .val (.ref o10), .val (.ref o13), .unset] [(.ref qL45), (.ref o13)]))
            have f46 := ((A13.keep Kq18).keep Kq45)
            have f47 := (u18_0.keep Kq45 nin0)
            have f48 := (u18_1.keep Kq45 nin0)
            have f49 := (u18_2.keep Kq45 nin0)
            refine c_virtual B X45 (y := mn15) (pc' := 180) (argsL := [(.ref qL45)]) (under := []) (W := 0) e45 (tw33 hw) (tw34 hw) (tw36 hw) (tw35 hw) (tw37 hw) (tw2 hw) (by decide) (mm6_10 l Z a0 hw o13 qL45 w_D h45 FZ O45 ge_o13 f46 f47 f48 f49 EL45 ) f46 (lenOf pd_9 rfl) rfl rfl (by decide) (by decide) (by decide) (by decide) rfl at_177 rfl (fun v50 T50 L50 X50 hQ50 => ?_)
            obtain ⟨o50_0, kq_o50_0, rfl, Nq50, Kq50, lq_o50_0, u50_0, ovu50_0, u50_1, u50_2, u50_3⟩ := hQ50
            have f51 := (((f14.ext E13).keep Kq18).keep Kq45)
            have ne_o1_o50_0 : o1 ≠ o50_0 := Nat.ne_of_lt (Nat.lt_of_lt_of_le f51.lt lq_o50_0)
            have f52 := (((f15.ext E13).keep Kq18).keep Kq45)
            have ne_o3_o50_0 : o3 ≠ o50_0 := Nat.ne_of_lt (Nat.lt_of_lt_of_le f52.lt lq_o50_0)
            have f53 := (((f16.ext E13).keep Kq18).keep Kq45)
            have ne_o6_o50_0 : o6 ≠ o50_0 := Nat.ne_of_lt (Nat.lt_of_lt_of_le f53.lt lq_o50_0)
            have f54 := (((f17.ext E13).keep Kq18).keep Kq45)
            have ne_o10_o50_0 : o10 ≠ o50_0 := Nat.ne_of_lt (Nat.lt_of_lt_of_le f54.lt lq_o50_0)
            have ne_o13_o50_0 : o13 ≠ o50_0 := Nat.ne_of_lt (Nat.lt_of_lt_of_le f46.lt lq_o50_0)
            have ge_o50_0 : Z.heap.size ≤ o50_0 := Nat.le_trans (old_le O45) lq_o50_0
            obtain ⟨h50, e50⟩ : ∃ z, T50.heap = z := ⟨_, rfl⟩
            rw [e50] at Kq50 u50_0 u50_1 u50_2 u50_3
            have N50 := Fr.app N45 Nq50
            have O50 := (O45).keep Kq50 (allS ge_o13 all0)
            have F50 := OwnF.ext O50.2 FZ
            show Go p e below _ (T50.setTop (mkF m 180 #[.val (.int i0), .val (.int i1), .val (.int i2), .val (.int i3), .val (.int i4), .val (.int i5), .val (.int (0 : Int32)), .val (.int (1 : Int32)), .val (.ref o1), .val (.ref o3), .val (.ref o6), .val (.ref o10), .val (.ref o13), .unset] [(.int (1 : Int32))]))
            refine s_pop B X50 (pc' := 181) at_180 rfl rfl ?_
            refine s_iload B X50 (pc' := 183) at_181 rfl rfl ?_
            refine s_iconst B X50 (pc' := 184) (v := (2 : Int32)) at_183 rfl rfl ?_
            refine s_icmpY B X50 (pc' := 198) at_184 (by decide) (by decide) (by decide) ?_
            refine s_iload B X50 (pc' := 200) at_198 rfl rfl ?_
            refine s_iconst B X50 (pc' := 201) (v := (3 : Int32)) at_200 rfl rfl ?_
            refine s_icmpY B X50 (pc' := 214) at_201 (by decide) (by decide) (by decide) ?_
            refine s_iload B X50 (pc' := 216) at_214 rfl rfl ?_
            refine s_ifN B X50 (pc' := 219) at_216 (by decide) rfl ?_
            refine s_iload B X50 (pc' := 221) at_219 rfl rfl ?_
            refine s_ifY B X50 (pc' := 228) at_221 (by decide) (by decide) (by decide) ?_
            refine s_iconst B X50 (pc' := 229) (v := (0 : Int32)) at_228 rfl rfl ?_
            refine s_istore B X50 (pc' := 231) (Ls' := #[.val (.int i0), .val (.int i1), .val (.int i2), .val (.int i3), .val (.int i4), .val (.int i5), .val (.int (0 : Int32)), .val (.int (1 : Int32)), .val (.ref o1), .val (.ref o3), .val (.ref o6), .val (.ref o10), .val (.ref o13), .val (.int (0 : Int32))]) at_229 rfl rfl ?_
            refine s_new B X50 (pc' := 234) (n0 := 2) e50 (tw64 hw) (tw65 hw) (tw66 hw) (by decide) (by decide) at_231 rfl (fun T55 h55 o55 g55 X55 e55 E55 A55 D55 => ?_)
            have f56 := (f51.keep Kq50)
            have ne_o1_o55 : o1 ≠ o55 := Nat.ne_of_lt (g55 ▸ f56.lt)
            have f57 := (f52.keep Kq50)
            have ne_o3_o55 : o3 ≠ o55 := Nat.ne_of_lt (g55 ▸ f57.lt)
            have f58 := (f53.keep Kq50)
            have ne_o6_o55 : o6 ≠ o55 := Nat.ne_of_lt (g55 ▸ f58.lt)
            have f59 := (f54.keep Kq50)
            have ne_o10_o55 : o10 ≠ o55 := Nat.ne_of_lt (g55 ▸ f59.lt)
            have f60 := (f46.keep Kq50)
            have ne_o13_o55 : o13 ≠ o55 := Nat.ne_of_lt (g55 ▸ f60.lt)
            have ne_o50_0_o55 : o50_0 ≠ o55 := Nat.ne_of_lt (g55 ▸ u50_0.lt)
            have ge_o55 : Z.heap.size ≤ o55 := g55 ▸ old_le O50
            have O55 := (O50).ext E55
            have F55 := OwnF.ext O55.2 FZ
            have D55_each : Fld Z h55 o55 "com/example/lichen/lichen/solver/TermSubsumption$Ways" "each" "Ljava/util/List;" .null := D55 (Or.inr (tw77 hw)) (ty := (.object "java/util/List")) (by decide)
            have D55_producers : Fld Z h55 o55 "com/example/lichen/lichen/solver/TermSubsumption$Ways" "producers" "Ljava/util/List;" .null := D55 (Or.inr (tw79 hw)) (ty := (.object "java/util/List")) (by decide)
            show Go p e below _ (T55.setTop (mkF m 234 #[.val (.int i0), .val (.int i1), .val (.int i2), .val (.int i3), .val (.int i4), .val (.int i5), .val (.int (0 : Int32)), .val (.int (1 : Int32)), .val (.ref o1), .val (.ref o3), .val (.ref o6), .val (.ref o10), .val (.ref o13), .val (.int (0 : Int32))] [(.ref o55)]))
            refine s_dup B X55 (pc' := 235) at_234 rfl rfl ?_
            refine s_aload B X55 (pc' := 237) at_235 rfl rfl rfl ?_
            refine s_aload B X55 (pc' := 239) at_237 rfl rfl rfl ?_
            have f61 := (f59.ext E55)
            have f62 := (((((u11_0.ext E13).keep Kq18 (ninS ne_o10_o13 nin0)).keep Kq45 nin0).keep Kq50 (ninS ne_o10_o13 nin0)).ext E55)
            have f63 := (((((u11_1.ext E13).keep Kq18 (ninS ne_o10_o13 nin0)).keep Kq45 nin0).keep Kq50 (ninS ne_o10_o13 nin0)).ext E55)
            have f64 := (((((u11_2.ext E13).keep Kq18 (ninS ne_o10_o13 nin0)).keep Kq45 nin0).keep Kq50 (ninS ne_o10_o13 nin0)).ext E55)
            have f65 := (f60.ext E55)
            have f66 := (u50_1.ext E55)
            have f67 := (u50_2.ext E55)
            have f68 := (u50_3.ext E55)
            have f69 := (u50_0.ext E55)
            have f70 := ((EL45.keep Kq50).ext E55)
            refine c_init B X55 (y := mn7) (pc' := 242) (argsL := [(.ref o10), (.ref o13)]) (under := [(.ref o55)]) (W := 1) e55 rfl (tw67 hw) (tw68 hw) (tw69 hw) (tw66 hw) (by decide) (mm11_14 l Z a0 hw o55 o10 o13 o50_0 qL45 kq_o50_0 w_D h55 FZ O55 ge_o55 A55 D55_each D55_producers ge_o10 f61 f62 f63 f64 ge_o13 f65 f66 f67 f68 ge_o50_0 f69 ovu50_0 f70 (Ne.symm ne_o10_o55) (Ne.symm ne_o13_o55) (Ne.symm ne_o50_0_o55) ne_o10_o13 ne_o10_o50_0 ne_o13_o50_0 ) (lenOf pd_2 rfl) rfl rfl (by decide) (by decide) (by decide) (by decide) rfl at_239 rfl (fun v71 T71 L71 X71 hQ71 => ?_)
            obtain ⟨rfl, Nq71, Kq71, u71_0, u71_1⟩ := hQ71
            obtain ⟨h71, e71⟩ : ∃ z, T71.heap = z := ⟨_, rfl⟩
            rw [e71] at Kq71 u71_0 u71_1
            have N71 := Fr.app N50 Nq71
            have O71 := (O55).keep Kq71 (allS ge_o55 all0)
            have F71 := OwnF.ext O71.2 FZ
            show Go p e below _ (T71.setTop (mkF m 242 #[.val (.int i0), .val (.int i1), .val (.int i2), .val (.int i3), .val (.int i4), .val (.int i5), .val (.int (0 : Int32)), .val (.int (1 : Int32)), .val (.ref o1), .val (.ref o3), .val (.ref o6), .val (.ref o10), .val (.ref o13), .val (.int (0 : Int32))] [(.ref o55)]))
            have f72 := (A55.keep Kq71)
            have f73 := (f61.keep Kq71)
            have f74 := (f62.keep Kq71 (ninS ne_o10_o55 nin0))
            have f75 := (f63.keep Kq71 (ninS ne_o10_o55 nin0))
            have f76 := (f64.keep Kq71 (ninS ne_o10_o55 nin0))
            have f77 := (f65.keep Kq71)
            have f78 := (f66.keep Kq71 (ninS ne_o13_o55 nin0))
            have f79 := (f67.keep Kq71 (ninS ne_o13_o55 nin0))
            have f80 := (f68.keep Kq71 (ninS ne_o13_o55 nin0))
            have f81 := (f69.keep Kq71 (ninS ne_o50_0_o55 nin0))
            have f82 := (f70.keep Kq71)
            refine p_virtual B X71 (y := mn10) (pc' := 245) (argsL := []) (under := []) (W := 0) e71 (tw80 hw) (tw81 hw) (tw83 hw) (tw82 hw) (tw84 hw) (tw66 hw) (by decide) (mm13_15 l Z a0 hw o55 o10 o13 o50_0 qL45 kq_o50_0 w_D h71 FZ O71 ge_o55 f72 u71_0 u71_1 ge_o10 f73 f74 f75 f76 ge_o13 f77 f78 f79 f80 ge_o50_0 f81 ovu50_0 f82 (Ne.symm ne_o10_o55) (Ne.symm ne_o13_o55) (Ne.symm ne_o50_0_o55) ne_o10_o13 ne_o10_o50_0 ne_o13_o50_0 ) f72 (lenOf pd_3 rfl) rfl rfl (by decide) (by decide) rfl rfl (by decide) (by decide) rfl at_242 rfl (fun T83 X83 e83 => ?_)
            show Go p e below _ (T83.setTop (mkF m 245 #[.val (.int i0), .val (.int i1), .val (.int i2), .val (.int i3), .val (.int i4), .val (.int i5), .val (.int (0 : Int32)), .val (.int (1 : Int32)), .val (.ref o1), .val (.ref o3), .val (.ref o6), .val (.ref o10), .val (.ref o13), .val (.int (0 : Int32))] [(.int (0 : Int32))]))
            refine s_iload B X83 (pc' := 247) at_245 rfl rfl ?_
            refine s_icmpN B X83 (pc' := 250) at_247 (by decide) rfl ?_
            refine s_iconst B X83 (pc' := 251) (v := (1 : Int32)) at_250 rfl rfl ?_
            refine s_goto B X83 (pc' := 255) at_251 (by decide) (by decide) ?_
            exact r_nar B X83 (t := .boolean) (by simp) rfl at_255 ⟨rfl, N71⟩ (by decide) (by decide)
          · rw [hv19]
            show Go p e below _ (T18.setTop (mkF m 165 #[.val (.int i0), .val (.int i1), .val (.int i2), .val (.int i3), .val (.int i4), .val (.int i5), .val (.int (0 : Int32)), .val (.int (2 : Int32)), .val (.ref o1), .val (.ref o3), .val (.ref o6), .val (.ref o10), .val (.ref o13), .unset] []))
            refine s_iload B X18 (pc' := 167) at_165 rfl rfl ?_
            refine s_iconst B X18 (pc' := 168) (v := (1 : Int32)) at_167 rfl rfl ?_
            refine s_icmpN B X18 (pc' := 171) at_168 (by decide) rfl ?_
            refine s_aload B X18 (pc' := 173) at_171 rfl rfl rfl ?_
            refine s_iloadN B X18 (pc' := 174) at_173 rfl rfl ?_
            refine c_static B X18 (y := mn2) (pc' := 177) (argsL := [(.int i2)]) (under := [(.ref o13)]) (W := 1) e18 (tw26 hw) (tw27 hw) (tw29 hw) (tw28 hw) (by decide) (rm_valueOf l Z a0 hw i2 w_D h18 FZ O18) (lenOf pd_4 rfl) rfl rfl (by decide) (by decide) (by decide) (by decide) rfl at_174 rfl (fun v84 T84 L84 X84 hQ => ?_)
            obtain ⟨qL84, rfl, Nq84, Kq84, EL84⟩ := hQ
            obtain ⟨h84, e84⟩ : ∃ z, T84.heap = z := ⟨_, rfl⟩
            rw [e84] at Kq84 EL84
            have N84 := Fr.app N18 Nq84
            have O84 := (O18).keep Kq84 all0
            have F84 := OwnF.ext O84.2 FZ
            show Go p e below _ (T84.setTop (mkF m 177 #[.val (.int i0), .val (.int i1), .val (.int i2), .val (.int i3), .val (.int i4), .val (.int i5), .val (.int (0 : Int32)), .val (.int (2 : Int32)), .val (.ref o1), .val (.ref o3), .val (.ref o6), .val (.ref o10), .val (.ref o13), .unset] [(.ref qL84), (.ref o13)]))
            have f85 := ((A13.keep Kq18).keep Kq84)
            have f86 := (u18_0.keep Kq84 nin0)
            have f87 := (u18_1.keep Kq84 nin0)
            have f88 := (u18_2.keep Kq84 nin0)
            refine c_virtual B X84 (y := mn15) (pc' := 180) (argsL := [(.ref qL84)]) (under := []) (W := 0) e84 (tw33 hw) (tw34 hw) (tw36 hw) (tw35 hw) (tw37 hw) (tw2 hw) (by decide) (mm6_10 l Z a0 hw o13 qL84 w_D h84 FZ O84 ge_o13 f85 f86 f87 f88 EL84 ) f85 (lenOf pd_9 rfl) rfl rfl (by decide) (by decide) (by decide) (by decide) rfl at_177 rfl (fun v89 T89 L89 X89 hQ89 => ?_)
            obtain ⟨o89_0, kq_o89_0, rfl, Nq89, Kq89, lq_o89_0, u89_0, ovu89_0, u89_1, u89_2, u89_3⟩ := hQ89
            have f90 := (((f14.ext E13).keep Kq18).keep Kq84)
            have ne_o1_o89_0 : o1 ≠ o89_0 := Nat.ne_of_lt (Nat.lt_of_lt_of_le f90.lt lq_o89_0)
            have f91 := (((f15.ext E13).keep Kq18).keep Kq84)
            have ne_o3_o89_0 : o3 ≠ o89_0 := Nat.ne_of_lt (Nat.lt_of_lt_of_le f91.lt lq_o89_0)
            have f92 := (((f16.ext E13).keep Kq18).keep Kq84)
            have ne_o6_o89_0 : o6 ≠ o89_0 := Nat.ne_of_lt (Nat.lt_of_lt_of_le f92.lt lq_o89_0)
            have f93 := (((f17.ext E13).keep Kq18).keep Kq84)
            have ne_o10_o89_0 : o10 ≠ o89_0 := Nat.ne_of_lt (Nat.lt_of_lt_of_le f93.lt lq_o89_0)
            have ne_o13_o89_0 : o13 ≠ o89_0 := Nat.ne_of_lt (Nat.lt_of_lt_of_le f85.lt lq_o89_0)
            have ge_o89_0 : Z.heap.size ≤ o89_0 := Nat.le_trans (old_le O84) lq_o89_0
            obtain ⟨h89, e89⟩ : ∃ z, T89.heap = z := ⟨_, rfl⟩
            rw [e89] at Kq89 u89_0 u89_1 u89_2 u89_3
            have N89 := Fr.app N84 Nq89
            have O89 := (O84).keep Kq89 (allS ge_o13 all0)
            have F89 := OwnF.ext O89.2 FZ
            show Go p e below _ (T89.setTop (mkF m 180 #[.val (.int i0), .val (.int i1), .val (.int i2), .val (.int i3), .val (.int i4), .val (.int i5), .val (.int (0 : Int32)), .val (.int (2 : Int32)), .val (.ref o1), .val (.ref o3), .val (.ref o6), .val (.ref o10), .val (.ref o13), .unset] [(.int (1 : Int32))]))
            refine s_pop B X89 (pc' := 181) at_180 rfl rfl ?_
            refine s_iload B X89 (pc' := 183) at_181 rfl rfl ?_
            refine s_iconst B X89 (pc' := 184) (v := (2 : Int32)) at_183 rfl rfl ?_
            refine s_icmpN B X89 (pc' := 187) at_184 (by decide) rfl ?_
            refine s_aload B X89 (pc' := 189) at_187 rfl rfl rfl ?_
            refine s_iload B X89 (pc' := 191) at_189 rfl rfl ?_
            refine c_static B X89 (y := mn2) (pc' := 194) (argsL := [(.int i5)]) (under := [(.ref o13)]) (W := 1) e89 (tw26 hw) (tw27 hw) (tw29 hw) (tw28 hw) (by decide) (rm_valueOf l Z a0 hw i5 w_D h89 FZ O89) (lenOf pd_4 rfl) rfl rfl (by decide) (by decide) (by decide) (by decide) rfl at_191 rfl (fun v94 T94 L94 X94 hQ => ?_)
            obtain ⟨qL94, rfl, Nq94, Kq94, EL94⟩ := hQ
            obtain ⟨h94, e94⟩ : ∃ z, T94.heap = z := ⟨_, rfl⟩
            rw [e94] at Kq94 EL94
            have N94 := Fr.app N89 Nq94
            have O94 := (O89).keep Kq94 all0
            have F94 := OwnF.ext O94.2 FZ
            show Go p e below _ (T94.setTop (mkF m 194 #[.val (.int i0), .val (.int i1), .val (.int i2), .val (.int i3), .val (.int i4), .val (.int i5), .val (.int (0 : Int32)), .val (.int (2 : Int32)), .val (.ref o1), .val (.ref o3), .val (.ref o6), .val (.ref o10), .val (.ref o13), .unset] [(.ref qL94), (.ref o13)]))
            have f95 := ((f85.keep Kq89).keep Kq94)
            have f96 := (u89_1.keep Kq94 nin0)
            have f97 := (u89_2.keep Kq94 nin0)
            have f98 := (u89_3.keep Kq94 nin0)
            have f99 := (u89_0.keep Kq94 nin0)
            have f100 := ((EL84.keep Kq89).keep Kq94)
            refine c_virtual B X94 (y := mn15) (pc' := 197) (argsL := [(.ref qL94)]) (under := []) (W := 0) e94 (tw33 hw) (tw34 hw) (tw36 hw) (tw35 hw) (tw37 hw) (tw2 hw) (by decide) (mm6_17 l Z a0 hw o13 qL94 o89_0 qL84 kq_o89_0 w_D h94 FZ O94 ge_o13 f95 f96 f97 f98 EL94 ge_o89_0 f99 ovu89_0 f100 ne_o13_o89_0 ) f95 (lenOf pd_9 rfl) rfl rfl (by decide) (by decide) (by decide) (by decide) rfl at_194 rfl (fun v101 T101 L101 X101 hQ101 => ?_)
            obtain ⟨rfl, Nq101, Kq101, u101_0, u101_1, u101_2, u101_3⟩ := hQ101
            obtain ⟨h101, e101⟩ : ∃ z, T101.heap = z := ⟨_, rfl⟩
            rw [e101] at Kq101 u101_0 u101_1 u101_2 u101_3
            have N101 := Fr.app N94 Nq101
            have O101 := (O94).keep Kq101 (allS ge_o13 (allS ge_o89_0 all0))
            have F101 := OwnF.ext O101.2 FZ
            show Go p e below _ (T101.setTop (mkF m 197 #[.val (.int i0), .val (.int i1), .val (.int i2), .val (.int i3), .val (.int i4), .val (.int i5), .val (.int (0 : Int32)), .val (.int (2 : Int32)), .val (.ref o1), .val (.ref o3), .val (.ref o6), .val (.ref o10), .val (.ref o13), .unset] [(.int (1 : Int32))]))
            refine s_pop B X101 (pc' := 198) at_197 rfl rfl ?_
            refine s_iload B X101 (pc' := 200) at_198 rfl rfl ?_
            refine s_iconst B X101 (pc' := 201) (v := (3 : Int32)) at_200 rfl rfl ?_
            refine s_icmpY B X101 (pc' := 214) at_201 (by decide) (by decide) (by decide) ?_
            refine s_iload B X101 (pc' := 216) at_214 rfl rfl ?_
            refine s_ifN B X101 (pc' := 219) at_216 (by decide) rfl ?_
            refine s_iload B X101 (pc' := 221) at_219 rfl rfl ?_
            refine s_ifY B X101 (pc' := 228) at_221 (by decide) (by decide) (by decide) ?_
            refine s_iconst B X101 (pc' := 229) (v := (0 : Int32)) at_228 rfl rfl ?_
            refine s_istore B X101 (pc' := 231) (Ls' := #[.val (.int i0), .val (.int i1), .val (.int i2), .val (.int i3), .val (.int i4), .val (.int i5), .val (.int (0 : Int32)), .val (.int (2 : Int32)), .val (.ref o1), .val (.ref o3), .val (.ref o6), .val (.ref o10), .val (.ref o13), .val (.int (0 : Int32))]) at_229 rfl rfl ?_
            refine s_new B X101 (pc' := 234) (n0 := 2) e101 (tw64 hw) (tw65 hw) (tw66 hw) (by decide) (by decide) at_231 rfl (fun T102 h102 o102 g102 X102 e102 E102 A102 D102 => ?_)
            have f103 := (((f90.keep Kq89).keep Kq94).keep Kq101)
            have ne_o1_o102 : o1 ≠ o102 := Nat.ne_of_lt (g102 ▸ f103.lt)
            have f104 := (((f91.keep Kq89).keep Kq94).keep Kq101)
            have ne_o3_o102 : o3 ≠ o102 := Nat.ne_of_lt (g102 ▸ f104.lt)
            have f105 := (((f92.keep Kq89).keep Kq94).keep Kq101)
            have ne_o6_o102 : o6 ≠ o102 := Nat.ne_of_lt (g102 ▸ f105.lt)
            have f106 := (((f93.keep Kq89).keep Kq94).keep Kq101)
            have ne_o10_o102 : o10 ≠ o102 := Nat.ne_of_lt (g102 ▸ f106.lt)
            have f107 := (f95.keep Kq101)
            have ne_o13_o102 : o13 ≠ o102 := Nat.ne_of_lt (g102 ▸ f107.lt)
            have ne_o89_0_o102 : o89_0 ≠ o102 := Nat.ne_of_lt (g102 ▸ u101_3.lt)
            have ge_o102 : Z.heap.size ≤ o102 := g102 ▸ old_le O101
            have O102 := (O101).ext E102
            have F102 := OwnF.ext O102.2 FZ
            have D102_each : Fld Z h102 o102 "com/example/lichen/lichen/solver/TermSubsumption$Ways" "each" "Ljava/util/List;" .null := D102 (Or.inr (tw77 hw)) (ty := (.object "java/util/List")) (by decide)
            have D102_producers : Fld Z h102 o102 "com/example/lichen/lichen/solver/TermSubsumption$Ways" "producers" "Ljava/util/List;" .null := D102 (Or.inr (tw79 hw)) (ty := (.object "java/util/List")) (by decide)
            show Go p e below _ (T102.setTop (mkF m 234 #[.val (.int i0), .val (.int i1), .val (.int i2), .val (.int i3), .val (.int i4), .val (.int i5), .val (.int (0 : Int32)), .val (.int (2 : Int32)), .val (.ref o1), .val (.ref o3), .val (.ref o6), .val (.ref o10), .val (.ref o13), .val (.int (0 : Int32))] [(.ref o102)]))
            refine s_dup B X102 (pc' := 235) at_234 rfl rfl ?_
            refine s_aload B X102 (pc' := 237) at_235 rfl rfl rfl ?_
            refine s_aload B X102 (pc' := 239) at_237 rfl rfl rfl ?_
            have f108 := (f106.ext E102)
            have f109 := (((((((u11_0.ext E13).keep Kq18 (ninS ne_o10_o13 nin0)).keep Kq84 nin0).keep Kq89 (ninS ne_o10_o13 nin0)).keep Kq94 nin0).keep Kq101 (ninS ne_o10_o13 (ninS ne_o10_o89_0 nin0))).ext E102)
            have f110 := (((((((u11_1.ext E13).keep Kq18 (ninS ne_o10_o13 nin0)).keep Kq84 nin0).keep Kq89 (ninS ne_o10_o13 nin0)).keep Kq94 nin0).keep Kq101 (ninS ne_o10_o13 (ninS ne_o10_o89_0 nin0))).ext E102)
            have f111 := (((((((u11_2.ext E13).keep Kq18 (ninS ne_o10_o13 nin0)).keep Kq84 nin0).keep Kq89 (ninS ne_o10_o13 nin0)).keep Kq94 nin0).keep Kq101 (ninS ne_o10_o13 (ninS ne_o10_o89_0 nin0))).ext E102)
            have f112 := (f107.ext E102)
            have f113 := (u101_0.ext E102)
            have f114 := (u101_1.ext E102)
            have f115 := (u101_2.ext E102)
            have f116 := (u101_3.ext E102)
            have f117 := ((f100.keep Kq101).ext E102)
            have f118 := ((EL94.keep Kq101).ext E102)
            refine c_init B X102 (y := mn7) (pc' := 242) (argsL := [(.ref o10), (.ref o13)]) (under := [(.ref o102)]) (W := 1) e102 rfl (tw67 hw) (tw68 hw) (tw69 hw) (tw66 hw) (by decide) (mm11_19 l Z a0 hw o102 o10 o13 o89_0 qL84 qL94 kq_o89_0 w_D h102 FZ O102 ge_o102 A102 D102_each D102_producers ge_o10 f108 f109 f110 f111 ge_o13 f112 f113 f114 f115 ge_o89_0 f116 ovu89_0 f117 f118 (Ne.symm ne_o10_o102) (Ne.symm ne_o13_o102) (Ne.symm ne_o89_0_o102) ne_o10_o13 ne_o10_o89_0 ne_o13_o89_0 ) (lenOf pd_2 rfl) rfl rfl (by decide) (by decide) (by decide) (by decide) rfl at_239 rfl (fun v119 T119 L119 X119 hQ119 => ?_)
            obtain ⟨rfl, Nq119, Kq119, u119_0, u119_1⟩ := hQ119
            obtain ⟨h119, e119⟩ : ∃ z, T119.heap = z := ⟨_, rfl⟩
            rw [e119] at Kq119 u119_0 u119_1
            have N119 := Fr.app N101 Nq119
            have O119 := (O102).keep Kq119 (allS ge_o102 all0)
            have F119 := OwnF.ext O119.2 FZ
            show Go p e below _ (T119.setTop (mkF m 242 #[.val (.int i0), .val (.int i1), .val (.int i2), .val (.int i3), .val (.int i4), .val (.int i5), .val (.int (0 : Int32)), .val (.int (2 : Int32)), .val (.ref o1), .val (.ref o3), .val (.ref o6), .val (.ref o10), .val (.ref o13), .val (.int (0 : Int32))] [(.ref o102)]))
            have f120 := (A102.keep Kq119)
            have f121 := (f108.keep Kq119)
            have f122 := (f109.keep Kq119 (ninS ne_o10_o102 nin0))
            have f123 := (f110.keep Kq119 (ninS ne_o10_o102 nin0))
            have f124 := (f111.keep Kq119 (ninS ne_o10_o102 nin0))
            have f125 := (f112.keep Kq119)
            have f126 := (f113.keep Kq119 (ninS ne_o13_o102 nin0))
            have f127 := (f114.keep Kq119 (ninS ne_o13_o102 nin0))
            have f128 := (f115.keep Kq119 (ninS ne_o13_o102 nin0))
            have f129 := (f116.keep Kq119 (ninS ne_o89_0_o102 nin0))
            have f130 := (f117.keep Kq119)
            have f131 := (f118.keep Kq119)
            refine p_virtual B X119 (y := mn10) (pc' := 245) (argsL := []) (under := []) (W := 0) e119 (tw80 hw) (tw81 hw) (tw83 hw) (tw82 hw) (tw84 hw) (tw66 hw) (by decide) (mm13_20 l Z a0 hw o102 o10 o13 o89_0 qL84 qL94 kq_o89_0 w_D h119 FZ O119 ge_o102 f120 u119_0 u119_1 ge_o10 f121 f122 f123 f124 ge_o13 f125 f126 f127 f128 ge_o89_0 f129 ovu89_0 f130 f131 (Ne.symm ne_o10_o102) (Ne.symm ne_o13_o102) (Ne.symm ne_o89_0_o102) ne_o10_o13 ne_o10_o89_0 ne_o13_o89_0 ) f120 (lenOf pd_3 rfl) rfl rfl (by decide) (by decide) rfl rfl (by decide) (by decide) rfl at_242 rfl (fun T132 X132 e132 => ?_)
            show Go p e below _ (T132.setTop (mkF m 245 #[.val (.int i0), .val (.int i1), .val (.int i2), .val (.int i3), .val (.int i4), .val (.int i5), .val (.int (0 : Int32)), .val (.int (2 : Int32)), .val (.ref o1), .val (.ref o3), .val (.ref o6), .val (.ref o10), .val (.ref o13), .val (.int (0 : Int32))] [(.int (0 : Int32))]))
            refine s_iload B X132 (pc' := 247) at_245 rfl rfl ?_
            refine s_icmpN B X132 (pc' := 250) at_247 (by decide) rfl ?_
            refine s_iconst B X132 (pc' := 251) (v := (1 : Int32)) at_250 rfl rfl ?_
            refine s_goto B X132 (pc' := 255) at_251 (by decide) (by decide) ?_
            exact r_nar B X132 (t := .boolean) (by simp) rfl at_255 ⟨rfl, N119⟩ (by decide) (by decide)
          · rw [hv19]
            show Go p e below _ (T18.setTop (mkF m 165 #[.val (.int i0), .val (.int i1), .val (.int i2), .val (.int i3), .val (.int i4), .val (.int i5), .val (.int (0 : Int32)), .val (.int (3 : Int32)), .val (.ref o1), .val (.ref o3), .val (.ref o6), .val (.ref o10), .val (.ref o13), .unset] []))
            refine s_iload B X18 (pc' := 167) at_165 rfl rfl ?_
            refine s_iconst B X18 (pc' := 168) (v := (1 : Int32)) at_167 rfl rfl ?_
            refine s_icmpN B X18 (pc' := 171) at_168 (by decide) rfl ?_
            refine s_aload B X18 (pc' := 173) at_171 rfl rfl rfl ?_
            refine s_iloadN B X18 (pc' := 174) at_173 rfl rfl ?_
            refine c_static B X18 (y := mn2) (pc' := 177) (argsL := [(.int i2)]) (under := [(.ref o13)]) (W := 1) e18 (tw26 hw) (tw27 hw) (tw29 hw) (tw28 hw) (by decide) (rm_valueOf l Z a0 hw i2 w_D h18 FZ O18) (lenOf pd_4 rfl) rfl rfl (by decide) (by decide) (by decide) (by decide) rfl at_174 rfl (fun v133 T133 L133 X133 hQ => ?_)
            obtain ⟨qL133, rfl, Nq133, Kq133, EL133⟩ := hQ
            obtain ⟨h133, e133⟩ : ∃ z, T133.heap = z := ⟨_, rfl⟩
            rw [e133] at Kq133 EL133
            have N133 := Fr.app N18 Nq133
            have O133 := (O18).keep Kq133 all0
            have F133 := OwnF.ext O133.2 FZ
            show Go p e below _ (T133.setTop (mkF m 177 #[.val (.int i0), .val (.int i1), .val (.int i2), .val (.int i3), .val (.int i4), .val (.int i5), .val (.int (0 : Int32)), .val (.int (3 : Int32)), .val (.ref o1), .val (.ref o3), .val (.ref o6), .val (.ref o10), .val (.ref o13), .unset] [(.ref qL133), (.ref o13)]))
            have f134 := ((A13.keep Kq18).keep Kq133)
            have f135 := (u18_0.keep Kq133 nin0)
            have f136 := (u18_1.keep Kq133 nin0)
            have f137 := (u18_2.keep Kq133 nin0)
            refine c_virtual B X133 (y := mn15) (pc' := 180) (argsL := [(.ref qL133)]) (under := []) (W := 0) e133 (tw33 hw) (tw34 hw) (tw36 hw) (tw35 hw) (tw37 hw) (tw2 hw) (by decide) (mm6_10 l Z a0 hw o13 qL133 w_D h133 FZ O133 ge_o13 f134 f135 f136 f137 EL133 ) f134 (lenOf pd_9 rfl) rfl rfl (by decide) (by decide) (by decide) (by decide) rfl at_177 rfl (fun v138 T138 L138 X138 hQ138 => ?_)
            obtain ⟨o138_0, kq_o138_0, rfl, Nq138, Kq138, lq_o138_0, u138_0, ovu138_0, u138_1, u138_2, u138_3⟩ := hQ138
            have f139 := (((f14.ext E13).keep Kq18).keep Kq133)
            have ne_o1_o138_0 : o1 ≠ o138_0 := Nat.ne_of_lt (Nat.lt_of_lt_of_le f139.lt lq_o138_0)
            have f140 := (((f15.ext E13).keep Kq18).keep Kq133)
            have ne_o3_o138_0 : o3 ≠ o138_0 := Nat.ne_of_lt (Nat.lt_of_lt_of_le f140.lt lq_o138_0)
            have f141 := (((f16.ext E13).keep Kq18).keep Kq133)
            have ne_o6_o138_0 : o6 ≠ o138_0 := Nat.ne_of_lt (Nat.lt_of_lt_of_le f141.lt lq_o138_0)
            have f142 := (((f17.ext E13).keep Kq18).keep Kq133)
            have ne_o10_o138_0 : o10 ≠ o138_0 := Nat.ne_of_lt (Nat.lt_of_lt_of_le f142.lt lq_o138_0)
            have ne_o13_o138_0 : o13 ≠ o138_0 := Nat.ne_of_lt (Nat.lt_of_lt_of_le f134.lt lq_o138_0)
            have ge_o138_0 : Z.heap.size ≤ o138_0 := Nat.le_trans (old_le O133) lq_o138_0
            obtain ⟨h138, e138⟩ : ∃ z, T138.heap = z := ⟨_, rfl⟩
            rw [e138] at Kq138 u138_0 u138_1 u138_2 u138_3
            have N138 := Fr.app N133 Nq138
            have O138 := (O133).keep Kq138 (allS ge_o13 all0)
            have F138 := OwnF.ext O138.2 FZ
            show Go p e below _ (T138.setTop (mkF m 180 #[.val (.int i0), .val (.int i1), .val (.int i2), .val (.int i3), .val (.int i4), .val (.int i5), .val (.int (0 : Int32)), .val (.int (3 : Int32)), .val (.ref o1), .val (.ref o3), .val (.ref o6), .val (.ref o10), .val (.ref o13), .unset] [(.int (1 : Int32))]))
            refine s_pop B X138 (pc' := 181) at_180 rfl rfl ?_
            refine s_iload B X138 (pc' := 183) at_181 rfl rfl ?_
            refine s_iconst B X138 (pc' := 184) (v := (2 : Int32)) at_183 rfl rfl ?_
            refine s_icmpN B X138 (pc' := 187) at_184 (by decide) rfl ?_
            refine s_aload B X138 (pc' := 189) at_187 rfl rfl rfl ?_
            refine s_iload B X138 (pc' := 191) at_189 rfl rfl ?_
            refine c_static B X138 (y := mn2) (pc' := 194) (argsL := [(.int i5)]) (under := [(.ref o13)]) (W := 1) e138 (tw26 hw) (tw27 hw) (tw29 hw) (tw28 hw) (by decide) (rm_valueOf l Z a0 hw i5 w_D h138 FZ O138) (lenOf pd_4 rfl) rfl rfl (by decide) (by decide) (by decide) (by decide) rfl at_191 rfl (fun v143 T143 L143 X143 hQ => ?_)
            obtain ⟨qL143, rfl, Nq143, Kq143, EL143⟩ := hQ
            obtain ⟨h143, e143⟩ : ∃ z, T143.heap = z := ⟨_, rfl⟩
            rw [e143] at Kq143 EL143
            have N143 := Fr.app N138 Nq143
            have O143 := (O138).keep Kq143 all0
            have F143 := OwnF.ext O143.2 FZ
            show Go p e below _ (T143.setTop (mkF m 194 #[.val (.int i0), .val (.int i1), .val (.int i2), .val (.int i3), .val (.int i4), .val (.int i5), .val (.int (0 : Int32)), .val (.int (3 : Int32)), .val (.ref o1), .val (.ref o3), .val (.ref o6), .val (.ref o10), .val (.ref o13), .unset] [(.ref qL143), (.ref o13)]))
            have f144 := ((f134.keep Kq138).keep Kq143)
            have f145 := (u138_1.keep Kq143 nin0)
            have f146 := (u138_2.keep Kq143 nin0)
            have f147 := (u138_3.keep Kq143 nin0)
            have f148 := (u138_0.keep Kq143 nin0)
            have f149 := ((EL133.keep Kq138).keep Kq143)
            refine c_virtual B X143 (y := mn15) (pc' := 197) (argsL := [(.ref qL143)]) (under := []) (W := 0) e143 (tw33 hw) (tw34 hw) (tw36 hw) (tw35 hw) (tw37 hw) (tw2 hw) (by decide) (mm6_17 l Z a0 hw o13 qL143 o138_0 qL133 kq_o138_0 w_D h143 FZ O143 ge_o13 f144 f145 f146 f147 EL143 ge_o138_0 f148 ovu138_0 f149 ne_o13_o138_0 ) f144 (lenOf pd_9 rfl) rfl rfl (by decide) (by decide) (by decide) (by decide) rfl at_194 rfl (fun v150 T150 L150 X150 hQ150 => ?_)
            obtain ⟨rfl, Nq150, Kq150, u150_0, u150_1, u150_2, u150_3⟩ := hQ150
            obtain ⟨h150, e150⟩ : ∃ z, T150.heap = z := ⟨_, rfl⟩
            rw [e150] at Kq150 u150_0 u150_1 u150_2 u150_3
            have N150 := Fr.app N143 Nq150
            have O150 := (O143).keep Kq150 (allS ge_o13 (allS ge_o138_0 all0))
            have F150 := OwnF.ext O150.2 FZ
            show Go p e below _ (T150.setTop (mkF m 197 #[.val (.int i0), .val (.int i1), .val (.int i2), .val (.int i3), .val (.int i4), .val (.int i5), .val (.int (0 : Int32)), .val (.int (3 : Int32)), .val (.ref o1), .val (.ref o3), .val (.ref o6), .val (.ref o10), .val (.ref o13), .unset] [(.int (1 : Int32))]))
            refine s_pop B X150 (pc' := 198) at_197 rfl rfl ?_
            refine s_iload B X150 (pc' := 200) at_198 rfl rfl ?_
            refine s_iconst B X150 (pc' := 201) (v := (3 : Int32)) at_200 rfl rfl ?_
            refine s_icmpN B X150 (pc' := 204) at_201 (by decide) rfl ?_
            refine s_aload B X150 (pc' := 206) at_204 rfl rfl rfl ?_
            refine s_iloadN B X150 (pc' := 207) at_206 rfl rfl ?_
            refine c_static B X150 (y := mn2) (pc' := 210) (argsL := [(.int i3)]) (under := [(.ref o13)]) (W := 1) e150 (tw26 hw) (tw27 hw) (tw29 hw) (tw28 hw) (by decide) (rm_valueOf l Z a0 hw i3 w_D h150 FZ O150) (lenOf pd_4 rfl) rfl rfl (by decide) (by decide) (by decide) (by decide) rfl at_207 rfl (fun v151 T151 L151 X151 hQ => ?_)
            obtain ⟨qL151, rfl, Nq151, Kq151, EL151⟩ := hQ
            obtain ⟨h151, e151⟩ : ∃ z, T151.heap = z := ⟨_, rfl⟩
            rw [e151] at Kq151 EL151
            have N151 := Fr.app N150 Nq151
            have O151 := (O150).keep Kq151 all0
            have F151 := OwnF.ext O151.2 FZ
            show Go p e below _ (T151.setTop (mkF m 210 #[.val (.int i0), .val (.int i1), .val (.int i2), .val (.int i3), .val (.int i4), .val (.int i5), .val (.int (0 : Int32)), .val (.int (3 : Int32)), .val (.ref o1), .val (.ref o3), .val (.ref o6), .val (.ref o10), .val (.ref o13), .unset] [(.ref qL151), (.ref o13)]))
            have f152 := ((f144.keep Kq150).keep Kq151)
            have f153 := (u150_0.keep Kq151 nin0)
            have f154 := (u150_1.keep Kq151 nin0)
            have f155 := (u150_2.keep Kq151 nin0)
            have f156 := (u150_3.keep Kq151 nin0)
            have f157 := ((f149.keep Kq150).keep Kq151)
            have f158 := ((EL143.keep Kq150).keep Kq151)
            refine c_virtual B X151 (y := mn15) (pc' := 213) (argsL := [(.ref qL151)]) (under := []) (W := 0) e151 (tw33 hw) (tw34 hw) (tw36 hw) (tw35 hw) (tw37 hw) (tw2 hw) (by decide) (mm6_22 l Z a0 hw o13 qL151 o138_0 qL133 qL143 kq_o138_0 w_D h151 FZ O151 ge_o13 f152 f153 f154 f155 EL151 ge_o138_0 f156 ovu138_0 f157 f158 ne_o13_o138_0 ) f152 (lenOf pd_9 rfl) rfl rfl (by decide) (by decide) (by decide) (by decide) rfl at_210 rfl (fun v159 T159 L159 X159 hQ159 => ?_)
            obtain ⟨rfl, Nq159, Kq159, u159_0, u159_1, u159_2, u159_3⟩ := hQ159
            obtain ⟨h159, e159⟩ : ∃ z, T159.heap = z := ⟨_, rfl⟩
            rw [e159] at Kq159 u159_0 u159_1 u159_2 u159_3
            have N159 := Fr.app N151 Nq159
            have O159 := (O151).keep Kq159 (allS ge_o13 (allS ge_o138_0 all0))
            have F159 := OwnF.ext O159.2 FZ
            show Go p e below _ (T159.setTop (mkF m 213 #[.val (.int i0), .val (.int i1), .val (.int i2), .val (.int i3), .val (.int i4), .val (.int i5), .val (.int (0 : Int32)), .val (.int (3 : Int32)), .val (.ref o1), .val (.ref o3), .val (.ref o6), .val (.ref o10), .val (.ref o13), .unset] [(.int (1 : Int32))]))
            refine s_pop B X159 (pc' := 214) at_213 rfl rfl ?_
            refine s_iload B X159 (pc' := 216) at_214 rfl rfl ?_
            refine s_ifN B X159 (pc' := 219) at_216 (by decide) rfl ?_
            refine s_iload B X159 (pc' := 221) at_219 rfl rfl ?_
            refine s_ifY B X159 (pc' := 228) at_221 (by decide) (by decide) (by decide) ?_
            refine s_iconst B X159 (pc' := 229) (v := (0 : Int32)) at_228 rfl rfl ?_
            refine s_istore B X159 (pc' := 231) (Ls' := #[.val (.int i0), .val (.int i1), .val (.int i2), .val (.int i3), .val (.int i4), .val (.int i5), .val (.int (0 : Int32)), .val (.int (3 : Int32)), .val (.ref o1), .val (.ref o3), .val (.ref o6), .val (.ref o10), .val (.ref o13), .val (.int (0 : Int32))]) at_229 rfl rfl ?_
            refine s_new B X159 (pc' := 234) (n0 := 2) e159 (tw64 hw) (tw65 hw) (tw66 hw) (by decide) (by decide) at_231 rfl (fun T160 h160 o160 g160 X160 e160 E160 A160 D160 => ?_)
            have f161 := (((((f139.keep Kq138).keep Kq143).keep Kq150).keep Kq151).keep Kq159)
            have ne_o1_o160 : o1 ≠ o160 := Nat.ne_of_lt (g160 ▸ f161.lt)
            have f162 := (((((f140.keep Kq138).keep Kq143).keep Kq150).keep Kq151).keep Kq159)
            have ne_o3_o160 : o3 ≠ o160 := Nat.ne_of_lt (g160 ▸ f162.lt)
            have f163 := (((((f141.keep Kq138).keep Kq143).keep Kq150).keep Kq151).keep Kq159)
            have ne_o6_o160 : o6 ≠ o160 := Nat.ne_of_lt (g160 ▸ f163.lt)
            have f164 := (((((f142.keep Kq138).keep Kq143).keep Kq150).keep Kq151).keep Kq159)
            have ne_o10_o160 : o10 ≠ o160 := Nat.ne_of_lt (g160 ▸ f164.lt)
            have f165 := (f152.keep Kq159)
            have ne_o13_o160 : o13 ≠ o160 := Nat.ne_of_lt (g160 ▸ f165.lt)
            have ne_o138_0_o160 : o138_0 ≠ o160 := Nat.ne_of_lt (g160 ▸ u159_3.lt)
            have ge_o160 : Z.heap.size ≤ o160 := g160 ▸ old_le O159
            have O160 := (O159).ext E160
            have F160 := OwnF.ext O160.2 FZ
            have D160_each : Fld Z h160 o160 "com/example/lichen/lichen/solver/TermSubsumption$Ways" "each" "Ljava/util/List;" .null := D160 (Or.inr (tw77 hw)) (ty := (.object "java/util/List")) (by decide)
            have D160_producers : Fld Z h160 o160 "com/example/lichen/lichen/solver/TermSubsumption$Ways" "producers" "Ljava/util/List;" .null := D160 (Or.inr (tw79 hw)) (ty := (.object "java/util/List")) (by decide)
            show Go p e below _ (T160.setTop (mkF m 234 #[.val (.int i0), .val (.int i1), .val (.int i2), .val (.int i3), .val (.int i4), .val (.int i5), .val (.int (0 : Int32)), .val (.int (3 : Int32)), .val (.ref o1), .val (.ref o3), .val (.ref o6), .val (.ref o10), .val (.ref o13), .val (.int (0 : Int32))] [(.ref o160)]))
            refine s_dup B X160 (pc' := 235) at_234 rfl rfl ?_
            refine s_aload B X160 (pc' := 237) at_235 rfl rfl rfl ?_
            refine s_aload B X160 (pc' := 239) at_237 rfl rfl rfl ?_
            have f166 := (f164.ext E160)
            have f167 := (((((((((u11_0.ext E13).keep Kq18 (ninS ne_o10_o13 nin0)).keep Kq133 nin0).keep Kq138 (ninS ne_o10_o13 nin0)).keep Kq143 nin0).keep Kq150 (ninS ne_o10_o13 (ninS ne_o10_o138_0 nin0))).keep Kq151 nin0).keep Kq159 (ninS ne_o10_o13 (ninS ne_o10_o138_0 nin0))).ext E160)
            have f168 := (((((((((u11_1.ext E13).keep Kq18 (ninS ne_o10_o13 nin0)).keep Kq133 nin0).keep Kq138 (ninS ne_o10_o13 nin0)).keep Kq143 nin0).keep Kq150 (ninS ne_o10_o13 (ninS ne_o10_o138_0 nin0))).keep Kq151 nin0).keep Kq159 (ninS ne_o10_o13 (ninS ne_o10_o138_0 nin0))).ext E160)
            have f169 := (((((((((u11_2.ext E13).keep Kq18 (ninS ne_o10_o13 nin0)).keep Kq133 nin0).keep Kq138 (ninS ne_o10_o13 nin0)).keep Kq143 nin0).keep Kq150 (ninS ne_o10_o13 (ninS ne_o10_o138_0 nin0))).keep Kq151 nin0).keep Kq159 (ninS ne_o10_o13 (ninS ne_o10_o138_0 nin0))).ext E160)
            have f170 := (f165.ext E160)
            have f171 := (u159_0.ext E160)
            have f172 := (u159_1.ext E160)
            have f173 := (u159_2.ext E160)
            have f174 := (u159_3.ext E160)
            have f175 := ((f157.keep Kq159).ext E160)
            have f176 := ((f158.keep Kq159).ext E160)
            have f177 := ((EL151.keep Kq159).ext E160)
            refine c_init B X160 (y := mn7) (pc' := 242) (argsL := [(.ref o10), (.ref o13)]) (under := [(.ref o160)]) (W := 1) e160 rfl (tw67 hw) (tw68 hw) (tw69 hw) (tw66 hw) (by decide) (mm11_24 l Z a0 hw o160 o10 o13 o138_0 qL133 qL143 qL151 kq_o138_0 w_D h160 FZ O160 ge_o160 A160 D160_each D160_producers ge_o10 f166 f167 f168 f169 ge_o13 f170 f171 f172 f173 ge_o138_0 f174 ovu138_0 f175 f176 f177 (Ne.symm ne_o10_o160) (Ne.symm ne_o13_o160) (Ne.symm ne_o138_0_o160) ne_o10_o13 ne_o10_o138_0 ne_o13_o138_0 ) (lenOf pd_2 rfl) rfl rfl (by decide) (by decide) (by decide) (by decide) rfl at_239 rfl (fun v178 T178 L178 X178 hQ178 => ?_)
            obtain ⟨rfl, Nq178, Kq178, u178_0, u178_1⟩ := hQ178
            obtain ⟨h178, e178⟩ : ∃ z, T178.heap = z := ⟨_, rfl⟩
            rw [e178] at Kq178 u178_0 u178_1
            have N178 := Fr.app N159 Nq178
            have O178 := (O160).keep Kq178 (allS ge_o160 all0)
            have F178 := OwnF.ext O178.2 FZ
            show Go p e below _ (T178.setTop (mkF m 242 #[.val (.int i0), .val (.int i1), .val (.int i2), .val (.int i3), .val (.int i4), .val (.int i5), .val (.int (0 : Int32)), .val (.int (3 : Int32)), .val (.ref o1), .val (.ref o3), .val (.ref o6), .val (.ref o10), .val (.ref o13), .val (.int (0 : Int32))] [(.ref o160)]))
            have f179 := (A160.keep Kq178)
            have f180 := (f166.keep Kq178)
            have f181 := (f167.keep Kq178 (ninS ne_o10_o160 nin0))
            have f182 := (f168.keep Kq178 (ninS ne_o10_o160 nin0))
            have f183 := (f169.keep Kq178 (ninS ne_o10_o160 nin0))
            have f184 := (f170.keep Kq178)
            have f185 := (f171.keep Kq178 (ninS ne_o13_o160 nin0))
            have f186 := (f172.keep Kq178 (ninS ne_o13_o160 nin0))
            have f187 := (f173.keep Kq178 (ninS ne_o13_o160 nin0))
            have f188 := (f174.keep Kq178 (ninS ne_o138_0_o160 nin0))
            have f189 := (f175.keep Kq178)
            have f190 := (f176.keep Kq178)
            have f191 := (f177.keep Kq178)
            refine p_virtual B X178 (y := mn10) (pc' := 245) (argsL := []) (under := []) (W := 0) e178 (tw80 hw) (tw81 hw) (tw83 hw) (tw82 hw) (tw84 hw) (tw66 hw) (by decide) (mm13_25 l Z a0 hw o160 o10 o13 o138_0 qL133 qL143 qL151 kq_o138_0 w_D h178 FZ O178 ge_o160 f179 u178_0 u178_1 ge_o10 f180 f181 f182 f183 ge_o13 f184 f185 f186 f187 ge_o138_0 f188 ovu138_0 f189 f190 f191 (Ne.symm ne_o10_o160) (Ne.symm ne_o13_o160) (Ne.symm ne_o138_0_o160) ne_o10_o13 ne_o10_o138_0 ne_o13_o138_0 ) f179 (lenOf pd_3 rfl) rfl rfl (by decide) (by decide) rfl rfl (by decide) (by decide) rfl at_242 rfl (fun T192 X192 e192 => ?_)
            show Go p e below _ (T192.setTop (mkF m 245 #[.val (.int i0), .val (.int i1), .val (.int i2), .val (.int i3), .val (.int i4), .val (.int i5), .val (.int (0 : Int32)), .val (.int (3 : Int32)), .val (.ref o1), .val (.ref o3), .val (.ref o6), .val (.ref o10), .val (.ref o13), .val (.int (0 : Int32))] [(.int (0 : Int32))]))
            refine s_iload B X192 (pc' := 247) at_245 rfl rfl ?_
            refine s_icmpN B X192 (pc' := 250) at_247 (by decide) rfl ?_
            refine s_iconst B X192 (pc' := 251) (v := (1 : Int32)) at_250 rfl rfl ?_
            refine s_goto B X192 (pc' := 255) at_251 (by decide) (by decide) ?_
            exact r_nar B X192 (t := .boolean) (by simp) rfl at_255 ⟨rfl, N178⟩ (by decide) (by decide)
        · rw [hv12]
          show Go p e below _ (T11.setTop (mkF m 114 #[.val (.int i0), .val (.int i1), .val (.int i2), .val (.int i3), .val (.int i4), .val (.int i5), .val (.int (1 : Int32)), .val (.int (i1 &&& (3 : Int32))), .val (.ref o1), .val (.ref o3), .val (.ref o6), .val (.ref o10), .unset, .unset] []))
          refine s_iload B X11 (pc' := 116) at_114 rfl rfl ?_
          refine s_iconst B X11 (pc' := 117) (v := (1 : Int32)) at_116 rfl rfl ?_
          refine s_icmpN B X11 (pc' := 120) at_117 (by decide) rfl ?_
          refine s_aload B X11 (pc' := 122) at_120 rfl rfl rfl ?_
          refine s_aload B X11 (pc' := 124) at_122 rfl rfl rfl ?_
          have f193 := (A10.keep Kq11)
          have f194 := ((Ej105_o1.ext E10).keep Kq11)
          refine c_virtual B X11 (y := mn15) (pc' := 127) (argsL := [(.ref o1)]) (under := []) (W := 0) e11 (tw33 hw) (tw34 hw) (tw36 hw) (tw35 hw) (tw37 hw) (tw2 hw) (by decide) (mm6_27 l Z a0 hw o10 o1 w_D h11 FZ O11 ge_o10 f193 u11_0 u11_1 u11_2 ge_o1 f194 (Ne.symm ne_o1_o10) ) f193 (lenOf pd_9 rfl) rfl rfl (by decide) (by decide) (by decide) (by decide) rfl at_124 rfl (fun v195 T195 L195 X195 hQ195 => ?_)
          obtain ⟨o195_0, kq_o195_0, rfl, Nq195, Kq195, lq_o195_0, u195_0, ovu195_0, u195_1, u195_2, u195_3⟩ := hQ195
          have ne_o1_o195_0 : o1 ≠ o195_0 := Nat.ne_of_lt (Nat.lt_of_lt_of_le f194.lt lq_o195_0)
          have f196 := ((Ej105_o3.ext E10).keep Kq11)
          have ne_o3_o195_0 : o3 ≠ o195_0 := Nat.ne_of_lt (Nat.lt_of_lt_of_le f196.lt lq_o195_0)
          have f197 := ((Ej105_o6.ext E10).keep Kq11)
          have ne_o6_o195_0 : o6 ≠ o195_0 := Nat.ne_of_lt (Nat.lt_of_lt_of_le f197.lt lq_o195_0)
          have ne_o10_o195_0 : o10 ≠ o195_0 := Nat.ne_of_lt (Nat.lt_of_lt_of_le f193.lt lq_o195_0)
          have ge_o195_0 : Z.heap.size ≤ o195_0 := Nat.le_trans (old_le O11) lq_o195_0
          obtain ⟨h195, e195⟩ : ∃ z, T195.heap = z := ⟨_, rfl⟩
          rw [e195] at Kq195 u195_0 u195_1 u195_2 u195_3
          have N195 := Fr.app N11 Nq195
          have O195 := (O11).keep Kq195 (allS ge_o10 all0)
          have F195 := OwnF.ext O195.2 FZ
          show Go p e below _ (T195.setTop (mkF m 127 #[.val (.int i0), .val (.int i1), .val (.int i2), .val (.int i3), .val (.int i4), .val (.int i5), .val (.int (1 : Int32)), .val (.int (i1 &&& (3 : Int32))), .val (.ref o1), .val (.ref o3), .val (.ref o6), .val (.ref o10), .unset, .unset] [(.int (1 : Int32))]))
          refine s_pop B X195 (pc' := 128) at_127 rfl rfl ?_
          refine s_iload B X195 (pc' := 130) at_128 rfl rfl ?_
          refine s_iconst B X195 (pc' := 131) (v := (2 : Int32)) at_130 rfl rfl ?_
          refine s_icmpY B X195 (pc' := 142) at_131 (by decide) (by decide) (by decide) ?_
          refine s_iload B X195 (pc' := 144) at_142 rfl rfl ?_
          refine s_iconst B X195 (pc' := 145) (v := (3 : Int32)) at_144 rfl rfl ?_
          refine s_icmpY B X195 (pc' := 156) at_145 (by decide) (by decide) (by decide) ?_
          refine s_new B X195 (pc' := 159) (n0 := 3) e195 (tw0 hw) (tw1 hw) (tw2 hw) (by decide) (by decide) at_156 rfl (fun T198 h198 o198 g198 X198 e198 E198 A198 D198 => ?_)
          have f199 := (f194.keep Kq195)
          have ne_o1_o198 : o1 ≠ o198 := Nat.ne_of_lt (g198 ▸ f199.lt)
          have f200 := (f196.keep Kq195)
          have ne_o3_o198 : o3 ≠ o198 := Nat.ne_of_lt (g198 ▸ f200.lt)
          have f201 := (f197.keep Kq195)
          have ne_o6_o198 : o6 ≠ o198 := Nat.ne_of_lt (g198 ▸ f201.lt)
          have f202 := (f193.keep Kq195)
          have ne_o10_o198 : o10 ≠ o198 := Nat.ne_of_lt (g198 ▸ f202.lt)
          have ne_o195_0_o198 : o195_0 ≠ o198 := Nat.ne_of_lt (g198 ▸ u195_0.lt)
          have ge_o198 : Z.heap.size ≤ o198 := g198 ▸ old_le O195
          have O198 := (O195).ext E198
          have F198 := OwnF.ext O198.2 FZ
          have D198_modCount : Fld Z h198 o198 "java/util/AbstractList" "modCount" "I" (.int (0 : Int32)) := D198 (Or.inl (tw22 hw)) (ty := .int) (by decide)
          have D198_elementData : Fld Z h198 o198 "java/util/ArrayList" "elementData" "[Ljava/lang/Object;" .null := D198 (Or.inl (tw25 hw)) (ty := (.array (.object "java/lang/Object"))) (by decide)
          have D198_size : Fld Z h198 o198 "java/util/ArrayList" "size" "I" (.int (0 : Int32)) := D198 (Or.inl (tw41 hw)) (ty := .int) (by decide)
          show Go p e below _ (T198.setTop (mkF m 159 #[.val (.int i0), .val (.int i1), .val (.int i2), .val (.int i3), .val (.int i4), .val (.int i5), .val (.int (1 : Int32)), .val (.int (i1 &&& (3 : Int32))), .val (.ref o1), .val (.ref o3), .val (.ref o6), .val (.ref o10), .unset, .unset] [(.ref o198)]))
          refine s_dup B X198 (pc' := 160) at_159 rfl rfl ?_
          refine c_init B X198 (y := mn5) (pc' := 163) (argsL := []) (under := [(.ref o198)]) (W := 1) e198 rfl (tw3 hw) (tw4 hw) (tw5 hw) (tw2 hw) (by decide) (mm1_3 l Z a0 hw o198 w_D h198 FZ O198 ge_o198 A198 D198_elementData D198_modCount D198_size ) (lenOf pd_0 rfl) rfl rfl (by decide) (by decide) (by decide) (by decide) rfl at_160 rfl (fun v203 T203 L203 X203 hQ203 => ?_)
          obtain ⟨rfl, Nq203, Kq203, u203_0, u203_1, u203_2⟩ := hQ203
          obtain ⟨h203, e203⟩ : ∃ z, T203.heap = z := ⟨_, rfl⟩
          rw [e203] at Kq203 u203_0 u203_1 u203_2
          have N203 := Fr.app N195 Nq203
          have O203 := (O198).keep Kq203 (allS ge_o198 all0)
          have F203 := OwnF.ext O203.2 FZ
          show Go p e below _ (T203.setTop (mkF m 163 #[.val (.int i0), .val (.int i1), .val (.int i2), .val (.int i3), .val (.int i4), .val (.int i5), .val (.int (1 : Int32)), .val (.int (i1 &&& (3 : Int32))), .val (.ref o1), .val (.ref o3), .val (.ref o6), .val (.ref o10), .unset, .unset] [(.ref o198)]))
          refine s_astore B X203 (pc' := 165) (Ls' := #[.val (.int i0), .val (.int i1), .val (.int i2), .val (.int i3), .val (.int i4), .val (.int i5), .val (.int (1 : Int32)), .val (.int (i1 &&& (3 : Int32))), .val (.ref o1), .val (.ref o3), .val (.ref o6), .val (.ref o10), .val (.ref o198), .unset]) at_163 rfl rfl rfl ?_
          rcases own_and3 i1 with hv204 | hv204 | hv204 | hv204
          · rw [hv204]
            show Go p e below _ (T203.setTop (mkF m 165 #[.val (.int i0), .val (.int i1), .val (.int i2), .val (.int i3), .val (.int i4), .val (.int i5), .val (.int (1 : Int32)), .val (.int (0 : Int32)), .val (.ref o1), .val (.ref o3), .val (.ref o6), .val (.ref o10), .val (.ref o198), .unset] []))
            refine s_iload B X203 (pc' := 167) at_165 rfl rfl ?_
            refine s_iconst B X203 (pc' := 168) (v := (1 : Int32)) at_167 rfl rfl ?_
            refine s_icmpY B X203 (pc' := 181) at_168 (by decide) (by decide) (by decide) ?_
            refine s_iload B X203 (pc' := 183) at_181 rfl rfl ?_
            refine s_iconst B X203 (pc' := 184) (v := (2 : Int32)) at_183 rfl rfl ?_
            refine s_icmpY B X203 (pc' := 198) at_184 (by decide) (by decide) (by decide) ?_
            refine s_iload B X203 (pc' := 200) at_198 rfl rfl ?_
            refine s_iconst B X203 (pc' := 201) (v := (3 : Int32)) at_200 rfl rfl ?_
            refine s_icmpY B X203 (pc' := 214) at_201 (by decide) (by decide) (by decide) ?_
            refine s_iload B X203 (pc' := 216) at_214 rfl rfl ?_
            refine s_ifY B X203 (pc' := 228) at_216 (by decide) (by decide) (by decide) ?_
            refine s_iconst B X203 (pc' := 229) (v := (0 : Int32)) at_228 rfl rfl ?_
            refine s_istore B X203 (pc' := 231) (Ls' := #[.val (.int i0), .val (.int i1), .val (.int i2), .val (.int i3), .val (.int i4), .val (.int i5), .val (.int (1 : Int32)), .val (.int (0 : Int32)), .val (.ref o1), .val (.ref o3), .val (.ref o6), .val (.ref o10), .val (.ref o198), .val (.int (0 : Int32))]) at_229 rfl rfl ?_
            refine s_new B X203 (pc' := 234) (n0 := 2) e203 (tw64 hw) (tw65 hw) (tw66 hw) (by decide) (by decide) at_231 rfl (fun T205 h205 o205 g205 X205 e205 E205 A205 D205 => ?_)
            have f206 := ((f199.ext E198).keep Kq203)
            have ne_o1_o205 : o1 ≠ o205 := Nat.ne_of_lt (g205 ▸ f206.lt)
            have f207 := ((f200.ext E198).keep Kq203)
            have ne_o3_o205 : o3 ≠ o205 := Nat.ne_of_lt (g205 ▸ f207.lt)
            have f208 := ((f201.ext E198).keep Kq203)
            have ne_o6_o205 : o6 ≠ o205 := Nat.ne_of_lt (g205 ▸ f208.lt)
            have f209 := ((f202.ext E198).keep Kq203)
            have ne_o10_o205 : o10 ≠ o205 := Nat.ne_of_lt (g205 ▸ f209.lt)
            have f210 := ((u195_0.ext E198).keep Kq203 (ninS ne_o195_0_o198 nin0))
            have ne_o195_0_o205 : o195_0 ≠ o205 := Nat.ne_of_lt (g205 ▸ f210.lt)
            have f211 := (A198.keep Kq203)
            have ne_o198_o205 : o198 ≠ o205 := Nat.ne_of_lt (g205 ▸ f211.lt)
            have ge_o205 : Z.heap.size ≤ o205 := g205 ▸ old_le O203
            have O205 := (O203).ext E205
            have F205 := OwnF.ext O205.2 FZ
            have D205_each : Fld Z h205 o205 "com/example/lichen/lichen/solver/TermSubsumption$Ways" "each" "Ljava/util/List;" .null := D205 (Or.inr (tw77 hw)) (ty := (.object "java/util/List")) (by decide)
            have D205_producers : Fld Z h205 o205 "com/example/lichen/lichen/solver/TermSubsumption$Ways" "producers" "Ljava/util/List;" .null := D205 (Or.inr (tw79 hw)) (ty := (.object "java/util/List")) (by decide)
            show Go p e below _ (T205.setTop (mkF m 234 #[.val (.int i0), .val (.int i1), .val (.int i2), .val (.int i3), .val (.int i4), .val (.int i5), .val (.int (1 : Int32)), .val (.int (0 : Int32)), .val (.ref o1), .val (.ref o3), .val (.ref o6), .val (.ref o10), .val (.ref o198), .val (.int (0 : Int32))] [(.ref o205)]))
            refine s_dup B X205 (pc' := 235) at_234 rfl rfl ?_
            refine s_aload B X205 (pc' := 237) at_235 rfl rfl rfl ?_
            refine s_aload B X205 (pc' := 239) at_237 rfl rfl rfl ?_
            have f212 := (f209.ext E205)
            have f213 := (((u195_1.ext E198).keep Kq203 (ninS ne_o10_o198 nin0)).ext E205)
            have f214 := (((u195_2.ext E198).keep Kq203 (ninS ne_o10_o198 nin0)).ext E205)
            have f215 := (((u195_3.ext E198).keep Kq203 (ninS ne_o10_o198 nin0)).ext E205)
            have f216 := (f211.ext E205)
            have f217 := (u203_0.ext E205)
            have f218 := (u203_1.ext E205)
            have f219 := (u203_2.ext E205)
            have f220 := (f210.ext E205)
            have f221 := (f206.ext E205)
            refine c_init B X205 (y := mn7) (pc' := 242) (argsL := [(.ref o10), (.ref o198)]) (under := [(.ref o205)]) (W := 1) e205 rfl (tw67 hw) (tw68 hw) (tw69 hw) (tw66 hw) (by decide) (mm11_29 l Z a0 hw o205 o10 o198 o195_0 o1 kq_o195_0 w_D h205 FZ O205 ge_o205 A205 D205_each D205_producers ge_o10 f212 f213 f214 f215 ge_o198 f216 f217 f218 f219 ge_o195_0 f220 ovu195_0 ge_o1 f221 (Ne.symm ne_o10_o205) (Ne.symm ne_o198_o205) (Ne.symm ne_o195_0_o205) (Ne.symm ne_o1_o205) ne_o10_o198 ne_o10_o195_0 (Ne.symm ne_o1_o10) (Ne.symm ne_o195_0_o198) (Ne.symm ne_o1_o198) (Ne.symm ne_o1_o195_0) ) (lenOf pd_2 rfl) rfl rfl (by decide) (by decide) (by decide) (by decide) rfl at_239 rfl (fun v222 T222 L222 X222 hQ222 => ?_)
            obtain ⟨rfl, Nq222, Kq222, u222_0, u222_1⟩ := hQ222
            obtain ⟨h222, e222⟩ : ∃ z, T222.heap = z := ⟨_, rfl⟩
            rw [e222] at Kq222 u222_0 u222_1
            have N222 := Fr.app N203 Nq222
            have O222 := (O205).keep Kq222 (allS ge_o205 all0)
            have F222 := OwnF.ext O222.2 FZ
            show Go p e below _ (T222.setTop (mkF m 242 #[.val (.int i0), .val (.int i1), .val (.int i2), .val (.int i3), .val (.int i4), .val (.int i5), .val (.int (1 : Int32)), .val (.int (0 : Int32)), .val (.ref o1), .val (.ref o3), .val (.ref o6), .val (.ref o10), .val (.ref o198), .val (.int (0 : Int32))] [(.ref o205)]))
            have f223 := (A205.keep Kq222)
            have f224 := (f212.keep Kq222)
            have f225 := (f213.keep Kq222 (ninS ne_o10_o205 nin0))
            have f226 := (f214.keep Kq222 (ninS ne_o10_o205 nin0))
            have f227 := (f215.keep Kq222 (ninS ne_o10_o205 nin0))
            have f228 := (f216.keep Kq222)
            have f229 := (f217.keep Kq222 (ninS ne_o198_o205 nin0))
            have f230 := (f218.keep Kq222 (ninS ne_o198_o205 nin0))
            have f231 := (f219.keep Kq222 (ninS ne_o198_o205 nin0))
            have f232 := (f220.keep Kq222 (ninS ne_o195_0_o205 nin0))
            have f233 := (f221.keep Kq222)
            refine p_virtual B X222 (y := mn10) (pc' := 245) (argsL := []) (under := []) (W := 0) e222 (tw80 hw) (tw81 hw) (tw83 hw) (tw82 hw) (tw84 hw) (tw66 hw) (by decide) (mm13_30 l Z a0 hw o205 o10 o198 o195_0 o1 kq_o195_0 w_D h222 FZ O222 ge_o205 f223 u222_0 u222_1 ge_o10 f224 f225 f226 f227 ge_o198 f228 f229 f230 f231 ge_o195_0 f232 ovu195_0 ge_o1 f233 (Ne.symm ne_o10_o205) (Ne.symm ne_o198_o205) (Ne.symm ne_o195_0_o205) (Ne.symm ne_o1_o205) ne_o10_o198 ne_o10_o195_0 (Ne.symm ne_o1_o10) (Ne.symm ne_o195_0_o198) (Ne.symm ne_o1_o198) (Ne.symm ne_o1_o195_0) ) f223 (lenOf pd_3 rfl) rfl rfl (by decide) (by decide) rfl rfl (by decide) (by decide) rfl at_242 rfl (fun T234 X234 e234 => ?_)
            show Go p e below _ (T234.setTop (mkF m 245 #[.val (.int i0), .val (.int i1), .val (.int i2), .val (.int i3), .val (.int i4), .val (.int i5), .val (.int (1 : Int32)), .val (.int (0 : Int32)), .val (.ref o1), .val (.ref o3), .val (.ref o6), .val (.ref o10), .val (.ref o198), .val (.int (0 : Int32))] [(.int (0 : Int32))]))
            refine s_iload B X234 (pc' := 247) at_245 rfl rfl ?_
            refine s_icmpN B X234 (pc' := 250) at_247 (by decide) rfl ?_
            refine s_iconst B X234 (pc' := 251) (v := (1 : Int32)) at_250 rfl rfl ?_
            refine s_goto B X234 (pc' := 255) at_251 (by decide) (by decide) ?_
            exact r_nar B X234 (t := .boolean) (by simp) rfl at_255 ⟨rfl, N222⟩ (by decide) (by decide)
          · rw [hv204]
            show Go p e below _ (T203.setTop (mkF m 165 #[.val (.int i0), .val (.int i1), .val (.int i2), .val (.int i3), .val (.int i4), .val (.int i5), .val (.int (1 : Int32)), .val (.int (1 : Int32)), .val (.ref o1), .val (.ref o3), .val (.ref o6), .val (.ref o10), .val (.ref o198), .unset] []))
            refine s_iload B X203 (pc' := 167) at_165 rfl rfl ?_
            refine s_iconst B X203 (pc' := 168) (v := (1 : Int32)) at_167 rfl rfl ?_
            refine s_icmpN B X203 (pc' := 171) at_168 (by decide) rfl ?_
            refine s_aload B X203 (pc' := 173) at_171 rfl rfl rfl ?_
            refine s_iloadN B X203 (pc' := 174) at_173 rfl rfl ?_
            refine c_static B X203 (y := mn2) (pc' := 177) (argsL := [(.int i2)]) (under := [(.ref o198)]) (W := 1) e203 (tw26 hw) (tw27 hw) (tw29 hw) (tw28 hw) (by decide) (rm_valueOf l Z a0 hw i2 w_D h203 FZ O203) (lenOf pd_4 rfl) rfl rfl (by decide) (by decide) (by decide) (by decide) rfl at_174 rfl (fun v235 T235 L235 X235 hQ => ?_)
            obtain ⟨qL235, rfl, Nq235, Kq235, EL235⟩ := hQ
            obtain ⟨h235, e235⟩ : ∃ z, T235.heap = z := ⟨_, rfl⟩
            rw [e235] at Kq235 EL235
            have N235 := Fr.app N203 Nq235
            have O235 := (O203).keep Kq235 all0
            have F235 := OwnF.ext O235.2 FZ
            show Go p e below _ (T235.setTop (mkF m 177 #[.val (.int i0), .val (.int i1), .val (.int i2), .val (.int i3), .val (.int i4), .val (.int i5), .val (.int (1 : Int32)), .val (.int (1 : Int32)), .val (.ref o1), .val (.ref o3), .val (.ref o6), .val (.ref o10), .val (.ref o198), .unset] [(.ref qL235), (.ref o198)]))
            have f236 := ((A198.keep Kq203).keep Kq235)
            have f237 := (u203_0.keep Kq235 nin0)
            have f238 := (u203_1.keep Kq235 nin0)
            have f239 := (u203_2.keep Kq235 nin0)
            refine c_virtual B X235 (y := mn15) (pc' := 180) (argsL := [(.ref qL235)]) (under := []) (W := 0) e235 (tw33 hw) (tw34 hw) (tw36 hw) (tw35 hw) (tw37 hw) (tw2 hw) (by decide) (mm6_10 l Z a0 hw o198 qL235 w_D h235 FZ O235 ge_o198 f236 f237 f238 f239 EL235 ) f236 (lenOf pd_9 rfl) rfl rfl (by decide) (by decide) (by decide) (by decide) rfl at_177 rfl (fun v240 T240 L240 X240 hQ240 => ?_)
            obtain ⟨o240_0, kq_o240_0, rfl, Nq240, Kq240, lq_o240_0, u240_0, ovu240_0, u240_1, u240_2, u240_3⟩ := hQ240
            have f241 := (((f199.ext E198).keep Kq203).keep Kq235)
            have ne_o1_o240_0 : o1 ≠ o240_0 := Nat.ne_of_lt (Nat.lt_of_lt_of_le f241.lt lq_o240_0)
            have f242 := (((f200.ext E198).keep Kq203).keep Kq235)
            have ne_o3_o240_0 : o3 ≠ o240_0 := Nat.ne_of_lt (Nat.lt_of_lt_of_le f242.lt lq_o240_0)
            have f243 := (((f201.ext E198).keep Kq203).keep Kq235)
            have ne_o6_o240_0 : o6 ≠ o240_0 := Nat.ne_of_lt (Nat.lt_of_lt_of_le f243.lt lq_o240_0)
            have f244 := (((f202.ext E198).keep Kq203).keep Kq235)
            have ne_o10_o240_0 : o10 ≠ o240_0 := Nat.ne_of_lt (Nat.lt_of_lt_of_le f244.lt lq_o240_0)
            have f245 := (((u195_0.ext E198).keep Kq203 (ninS ne_o195_0_o198 nin0)).keep Kq235 nin0)
            have ne_o195_0_o240_0 : o195_0 ≠ o240_0 := Nat.ne_of_lt (Nat.lt_of_lt_of_le f245.lt lq_o240_0)
            have ne_o198_o240_0 : o198 ≠ o240_0 := Nat.ne_of_lt (Nat.lt_of_lt_of_le f236.lt lq_o240_0)
            have ge_o240_0 : Z.heap.size ≤ o240_0 := Nat.le_trans (old_le O235) lq_o240_0
            obtain ⟨h240, e240⟩ : ∃ z, T240.heap = z := ⟨_, rfl⟩
            rw [e240] at Kq240 u240_0 u240_1 u240_2 u240_3
            have N240 := Fr.app N235 Nq240
            have O240 := (O235).keep Kq240 (allS ge_o198 all0)
            have F240 := OwnF.ext O240.2 FZ
            show Go p e below _ (T240.setTop (mkF m 180 #[.val (.int i0), .val (.int i1), .val (.int i2), .val (.int i3), .val (.int i4), .val (.int i5), .val (.int (1 : Int32)), .val (.int (1 : Int32)), .val (.ref o1), .val (.ref o3), .val (.ref o6), .val (.ref o10), .val (.ref o198), .unset] [(.int (1 : Int32))]))
            refine s_pop B X240 (pc' := 181) at_180 rfl rfl ?_
            refine s_iload B X240 (pc' := 183) at_181 rfl rfl ?_
            refine s_iconst B X240 (pc' := 184) (v := (2 : Int32)) at_183 rfl rfl ?_
            refine s_icmpY B X240 (pc' := 198) at_184 (by decide) (by decide) (by decide) ?_
            refine s_iload B X240 (pc' := 200) at_198 rfl rfl ?_
            refine s_iconst B X240 (pc' := 201) (v := (3 : Int32)) at_200 rfl rfl ?_
            refine s_icmpY B X240 (pc' := 214) at_201 (by decide) (by decide) (by decide) ?_
            refine s_iload B X240 (pc' := 216) at_214 rfl rfl ?_
            refine s_ifY B X240 (pc' := 228) at_216 (by decide) (by decide) (by decide) ?_
            refine s_iconst B X240 (pc' := 229) (v := (0 : Int32)) at_228 rfl rfl ?_
            refine s_istore B X240 (pc' := 231) (Ls' := #[.val (.int i0), .val (.int i1), .val (.int i2), .val (.int i3), .val (.int i4), .val (.int i5), .val (.int (1 : Int32)), .val (.int (1 : Int32)), .val (.ref o1), .val (.ref o3), .val (.ref o6), .val (.ref o10), .val (.ref o198), .val (.int (0 : Int32))]) at_229 rfl rfl ?_
            refine s_new B X240 (pc' := 234) (n0 := 2) e240 (tw64 hw) (tw65 hw) (tw66 hw) (by decide) (by decide) at_231 rfl (fun T246 h246 o246 g246 X246 e246 E246 A246 D246 => ?_)
            have f247 := (f241.keep Kq240)
            have ne_o1_o246 : o1 ≠ o246 := Nat.ne_of_lt (g246 ▸ f247.lt)
            have f248 := (f242.keep Kq240)
            have ne_o3_o246 : o3 ≠ o246 := Nat.ne_of_lt (g246 ▸ f248.lt)
            have f249 := (f243.keep Kq240)
            have ne_o6_o246 : o6 ≠ o246 := Nat.ne_of_lt (g246 ▸ f249.lt)
            have f250 := (f244.keep Kq240)
            have ne_o10_o246 : o10 ≠ o246 := Nat.ne_of_lt (g246 ▸ f250.lt)
            have f251 := (f245.keep Kq240 (ninS ne_o195_0_o198 nin0))
            have ne_o195_0_o246 : o195_0 ≠ o246 := Nat.ne_of_lt (g246 ▸ f251.lt)
            have f252 := (f236.keep Kq240)
            have ne_o198_o246 : o198 ≠ o246 := Nat.ne_of_lt (g246 ▸ f252.lt)
            have ne_o240_0_o246 : o240_0 ≠ o246 := Nat.ne_of_lt (g246 ▸ u240_0.lt)
            have ge_o246 : Z.heap.size ≤ o246 := g246 ▸ old_le O240
            have O246 := (O240).ext E246
            have F246 := OwnF.ext O246.2 FZ
            have D246_each : Fld Z h246 o246 "com/example/lichen/lichen/solver/TermSubsumption$Ways" "each" "Ljava/util/List;" .null := D246 (Or.inr (tw77 hw)) (ty := (.object "java/util/List")) (by decide)
            have D246_producers : Fld Z h246 o246 "com/example/lichen/lichen/solver/TermSubsumption$Ways" "producers" "Ljava/util/List;" .null := D246 (Or.inr (tw79 hw)) (ty := (.object "java/util/List")) (by decide)
            show Go p e below _ (T246.setTop (mkF m 234 #[.val (.int i0), .val (.int i1), .val (.int i2), .val (.int i3), .val (.int i4), .val (.int i5), .val (.int (1 : Int32)), .val (.int (1 : Int32)), .val (.ref o1), .val (.ref o3), .val (.ref o6), .val (.ref o10), .val (.ref o198), .val (.int (0 : Int32))] [(.ref o246)]))
            refine s_dup B X246 (pc' := 235) at_234 rfl rfl ?_
            refine s_aload B X246 (pc' := 237) at_235 rfl rfl rfl ?_
            refine s_aload B X246 (pc' := 239) at_237 rfl rfl rfl ?_
            have f253 := (f250.ext E246)
            have f254 := (((((u195_1.ext E198).keep Kq203 (ninS ne_o10_o198 nin0)).keep Kq235 nin0).keep Kq240 (ninS ne_o10_o198 nin0)).ext E246)
            have f255 := (((((u195_2.ext E198).keep Kq203 (ninS ne_o10_o198 nin0)).keep Kq235 nin0).keep Kq240 (ninS ne_o10_o198 nin0)).ext E246)
            have f256 := (((((u195_3.ext E198).keep Kq203 (ninS ne_o10_o198 nin0)).keep Kq235 nin0).keep Kq240 (ninS ne_o10_o198 nin0)).ext E246)
            have f257 := (f252.ext E246)
            have f258 := (u240_1.ext E246)
            have f259 := (u240_2.ext E246)
            have f260 := (u240_3.ext E246)
            have f261 := (f251.ext E246)
            have f262 := (u240_0.ext E246)
            have f263 := (f247.ext E246)
            have f264 := ((EL235.keep Kq240).ext E246)
            refine c_init B X246 (y := mn7) (pc' := 242) (argsL := [(.ref o10), (.ref o198)]) (under := [(.ref o246)]) (W := 1) e246 rfl (tw67 hw) (tw68 hw) (tw69 hw) (tw66 hw) (by decide) (mm11_32 l Z a0 hw o246 o10 o198 o195_0 o240_0 o1 qL235 kq_o195_0 kq_o240_0 w_D h246 FZ O246 ge_o246 A246 D246_each D246_producers ge_o10 f253 f254 f255 f256 ge_o198 f257 f258 f259 f260 ge_o195_0 f261 ovu195_0 ge_o240_0 f262 ovu240_0 ge_o1 f263 f264 (Ne.symm ne_o10_o246) (Ne.symm ne_o198_o246) (Ne.symm ne_o195_0_o246) (Ne.symm ne_o240_0_o246) (Ne.symm ne_o1_o246) ne_o10_o198 ne_o10_o195_0 ne_o10_o240_0 (Ne.symm ne_o1_o10) (Ne.symm ne_o195_0_o198) ne_o198_o240_0 (Ne.symm ne_o1_o198) ne_o195_0_o240_0 (Ne.symm ne_o1_o195_0) (Ne.symm ne_o1_o240_0) ) (lenOf pd_2 rfl) rfl rfl (by decide) (by decide) (by decide) (by decide) rfl at_239 rfl (fun v265 T265 L265 X265 hQ265 => ?_)
            obtain ⟨rfl, Nq265, Kq265, u265_0, u265_1⟩ := hQ265
            obtain ⟨h265, e265⟩ : ∃ z, T265.heap = z := ⟨_, rfl⟩
            rw [e265] at Kq265 u265_0 u265_1
            have N265 := Fr.app N240 Nq265
            have O265 := (O246).keep Kq265 (allS ge_o246 all0)
            have F265 := OwnF.ext O265.2 FZ
            show Go p e below _ (T265.setTop (mkF m 242 #[.val (.int i0), .val (.int i1), .val (.int i2), .val (.int i3), .val (.int i4), .val (.int i5), .val (.int (1 : Int32)), .val (.int (1 : Int32)), .val (.ref o1), .val (.ref o3), .val (.ref o6), .val (.ref o10), .val (.ref o198), .val (.int (0 : Int32))] [(.ref o246)]))
            have f266 := (A246.keep Kq265)
            have f267 := (f253.keep Kq265)
            have f268 := (f254.keep Kq265 (ninS ne_o10_o246 nin0))
            have f269 := (f255.keep Kq265 (ninS ne_o10_o246 nin0))
            have f270 := (f256.keep Kq265 (ninS ne_o10_o246 nin0))
            have f271 := (f257.keep Kq265)
            have f272 := (f258.keep Kq265 (ninS ne_o198_o246 nin0))
            have f273 := (f259.keep Kq265 (ninS ne_o198_o246 nin0))
            have f274 := (f260.keep Kq265 (ninS ne_o198_o246 nin0))
            have f275 := (f261.keep Kq265 (ninS ne_o195_0_o246 nin0))
            have f276 := (f262.keep Kq265 (ninS ne_o240_0_o246 nin0))
            have f277 := (f263.keep Kq265)
            have f278 := (f264.keep Kq265)
            refine p_virtual B X265 (y := mn10) (pc' := 245) (argsL := []) (under := []) (W := 0) e265 (tw80 hw) (tw81 hw) (tw83 hw) (tw82 hw) (tw84 hw) (tw66 hw) (by decide) (mm13_33 l Z a0 hw o246 o10 o198 o195_0 o240_0 o1 qL235 kq_o195_0 kq_o240_0 w_D h265 FZ O265 ge_o246 f266 u265_0 u265_1 ge_o10 f267 f268 f269 f270 ge_o198 f271 f272 f273 f274 ge_o195_0 f275 ovu195_0 ge_o240_0 f276 ovu240_0 ge_o1 f277 f278 (Ne.symm ne_o10_o246) (Ne.symm ne_o198_o246) (Ne.symm ne_o195_0_o246) (Ne.symm ne_o240_0_o246) (Ne.symm ne_o1_o246) ne_o10_o198 ne_o10_o195_0 ne_o10_o240_0 (Ne.symm ne_o1_o10) (Ne.symm ne_o195_0_o198) ne_o198_o240_0 (Ne.symm ne_o1_o198) ne_o195_0_o240_0 (Ne.symm ne_o1_o195_0) (Ne.symm ne_o1_o240_0) ) f266 (lenOf pd_3 rfl) rfl rfl (by decide) (by decide) rfl rfl (by decide) (by decide) rfl at_242 rfl (fun T279 X279 e279 => ?_)
            show Go p e below _ (T279.setTop (mkF m 245 #[.val (.int i0), .val (.int i1), .val (.int i2), .val (.int i3), .val (.int i4), .val (.int i5), .val (.int (1 : Int32)), .val (.int (1 : Int32)), .val (.ref o1), .val (.ref o3), .val (.ref o6), .val (.ref o10), .val (.ref o198), .val (.int (0 : Int32))] [(.int (0 : Int32))]))
            refine s_iload B X279 (pc' := 247) at_245 rfl rfl ?_
            refine s_icmpN B X279 (pc' := 250) at_247 (by decide) rfl ?_
            refine s_iconst B X279 (pc' := 251) (v := (1 : Int32)) at_250 rfl rfl ?_
            refine s_goto B X279 (pc' := 255) at_251 (by decide) (by decide) ?_
            exact r_nar B X279 (t := .boolean) (by simp) rfl at_255 ⟨rfl, N265⟩ (by decide) (by decide)
          · rw [hv204]
            show Go p e below _ (T203.setTop (mkF m 165 #[.val (.int i0), .val (.int i1), .val (.int i2), .val (.int i3), .val (.int i4), .val (.int i5), .val (.int (1 : Int32)), .val (.int (2 : Int32)), .val (.ref o1), .val (.ref o3), .val (.ref o6), .val (.ref o10), .val (.ref o198), .unset] []))
            refine s_iload B X203 (pc' := 167) at_165 rfl rfl ?_
            refine s_iconst B X203 (pc' := 168) (v := (1 : Int32)) at_167 rfl rfl ?_
            refine s_icmpN B X203 (pc' := 171) at_168 (by decide) rfl ?_
            refine s_aload B X203 (pc' := 173) at_171 rfl rfl rfl ?_
            refine s_iloadN B X203 (pc' := 174) at_173 rfl rfl ?_
            refine c_static B X203 (y := mn2) (pc' := 177) (argsL := [(.int i2)]) (under := [(.ref o198)]) (W := 1) e203 (tw26 hw) (tw27 hw) (tw29 hw) (tw28 hw) (by decide) (rm_valueOf l Z a0 hw i2 w_D h203 FZ O203) (lenOf pd_4 rfl) rfl rfl (by decide) (by decide) (by decide) (by decide) rfl at_174 rfl (fun v280 T280 L280 X280 hQ => ?_)
            obtain ⟨qL280, rfl, Nq280, Kq280, EL280⟩ := hQ
            obtain ⟨h280, e280⟩ : ∃ z, T280.heap = z := ⟨_, rfl⟩
            rw [e280] at Kq280 EL280
            have N280 := Fr.app N203 Nq280
            have O280 := (O203).keep Kq280 all0
            have F280 := OwnF.ext O280.2 FZ
            show Go p e below _ (T280.setTop (mkF m 177 #[.val (.int i0), .val (.int i1), .val (.int i2), .val (.int i3), .val (.int i4), .val (.int i5), .val (.int (1 : Int32)), .val (.int (2 : Int32)), .val (.ref o1), .val (.ref o3), .val (.ref o6), .val (.ref o10), .val (.ref o198), .unset] [(.ref qL280), (.ref o198)]))
            have f281 := ((A198.keep Kq203).keep Kq280)
            have f282 := (u203_0.keep Kq280 nin0)
            have f283 := (u203_1.keep Kq280 nin0)
            have f284 := (u203_2.keep Kq280 nin0)
            refine c_virtual B X280 (y := mn15) (pc' := 180) (argsL := [(.ref qL280)]) (under := []) (W := 0) e280 (tw33 hw) (tw34 hw) (tw36 hw) (tw35 hw) (tw37 hw) (tw2 hw) (by decide) (mm6_10 l Z a0 hw o198 qL280 w_D h280 FZ O280 ge_o198 f281 f282 f283 f284 EL280 ) f281 (lenOf pd_9 rfl) rfl rfl (by decide) (by decide) (by decide) (by decide) rfl at_177 rfl (fun v285 T285 L285 X285 hQ285 => ?_)
            obtain ⟨o285_0, kq_o285_0, rfl, Nq285, Kq285, lq_o285_0, u285_0, ovu285_0, u285_1, u285_2, u285_3⟩ := hQ285
            have f286 := (((f199.ext E198).keep Kq203).keep Kq280)
            have ne_o1_o285_0 : o1 ≠ o285_0 := Nat.ne_of_lt (Nat.lt_of_lt_of_le f286.lt lq_o285_0)
            have f287 := (((f200.ext E198).keep Kq203).keep Kq280)
            have ne_o3_o285_0 : o3 ≠ o285_0 := Nat.ne_of_lt (Nat.lt_of_lt_of_le f287.lt lq_o285_0)
            have f288 := (((f201.ext E198).keep Kq203).keep Kq280)
            have ne_o6_o285_0 : o6 ≠ o285_0 := Nat.ne_of_lt (Nat.lt_of_lt_of_le f288.lt lq_o285_0)
            have f289 := (((f202.ext E198).keep Kq203).keep Kq280)
            have ne_o10_o285_0 : o10 ≠ o285_0 := Nat.ne_of_lt (Nat.lt_of_lt_of_le f289.lt lq_o285_0)
            have f290 := (((u195_0.ext E198).keep Kq203 (ninS ne_o195_0_o198 nin0)).keep Kq280 nin0)
            have ne_o195_0_o285_0 : o195_0 ≠ o285_0 := Nat.ne_of_lt (Nat.lt_of_lt_of_le f290.lt lq_o285_0)
            have ne_o198_o285_0 : o198 ≠ o285_0 := Nat.ne_of_lt (Nat.lt_of_lt_of_le f281.lt lq_o285_0)
            have ge_o285_0 : Z.heap.size ≤ o285_0 := Nat.le_trans (old_le O280) lq_o285_0
            obtain ⟨h285, e285⟩ : ∃ z, T285.heap = z := ⟨_, rfl⟩
            rw [e285] at Kq285 u285_0 u285_1 u285_2 u285_3
            have N285 := Fr.app N280 Nq285
            have O285 := (O280).keep Kq285 (allS ge_o198 all0)
            have F285 := OwnF.ext O285.2 FZ
            show Go p e below _ (T285.setTop (mkF m 180 #[.val (.int i0), .val (.int i1), .val (.int i2), .val (.int i3), .val (.int i4), .val (.int i5), .val (.int (1 : Int32)), .val (.int (2 : Int32)), .val (.ref o1), .val (.ref o3), .val (.ref o6), .val (.ref o10), .val (.ref o198), .unset] [(.int (1 : Int32))]))
            refine s_pop B X285 (pc' := 181) at_180 rfl rfl ?_
            refine s_iload B X285 (pc' := 183) at_181 rfl rfl ?_
            refine s_iconst B X285 (pc' := 184) (v := (2 : Int32)) at_183 rfl rfl ?_
            refine s_icmpN B X285 (pc' := 187) at_184 (by decide) rfl ?_
            refine s_aload B X285 (pc' := 189) at_187 rfl rfl rfl ?_
            refine s_iload B X285 (pc' := 191) at_189 rfl rfl ?_
            refine c_static B X285 (y := mn2) (pc' := 194) (argsL := [(.int i5)]) (under := [(.ref o198)]) (W := 1) e285 (tw26 hw) (tw27 hw) (tw29 hw) (tw28 hw) (by decide) (rm_valueOf l Z a0 hw i5 w_D h285 FZ O285) (lenOf pd_4 rfl) rfl rfl (by decide) (by decide) (by decide) (by decide) rfl at_191 rfl (fun v291 T291 L291 X291 hQ => ?_)
            obtain ⟨qL291, rfl, Nq291, Kq291, EL291⟩ := hQ
            obtain ⟨h291, e291⟩ : ∃ z, T291.heap = z := ⟨_, rfl⟩
            rw [e291] at Kq291 EL291
            have N291 := Fr.app N285 Nq291
            have O291 := (O285).keep Kq291 all0
            have F291 := OwnF.ext O291.2 FZ
            show Go p e below _ (T291.setTop (mkF m 194 #[.val (.int i0), .val (.int i1), .val (.int i2), .val (.int i3), .val (.int i4), .val (.int i5), .val (.int (1 : Int32)), .val (.int (2 : Int32)), .val (.ref o1), .val (.ref o3), .val (.ref o6), .val (.ref o10), .val (.ref o198), .unset] [(.ref qL291), (.ref o198)]))
            have f292 := ((f281.keep Kq285).keep Kq291)
            have f293 := (u285_1.keep Kq291 nin0)
            have f294 := (u285_2.keep Kq291 nin0)
            have f295 := (u285_3.keep Kq291 nin0)
            have f296 := (u285_0.keep Kq291 nin0)
            have f297 := ((EL280.keep Kq285).keep Kq291)
            refine c_virtual B X291 (y := mn15) (pc' := 197) (argsL := [(.ref qL291)]) (under := []) (W := 0) e291 (tw33 hw) (tw34 hw) (tw36 hw) (tw35 hw) (tw37 hw) (tw2 hw) (by decide) (mm6_17 l Z a0 hw o198 qL291 o285_0 qL280 kq_o285_0 w_D h291 FZ O291 ge_o198 f292 f293 f294 f295 EL291 ge_o285_0 f296 ovu285_0 f297 ne_o198_o285_0 ) f292 (lenOf pd_9 rfl) rfl rfl (by decide) (by decide) (by decide) (by decide) rfl at_194 rfl (fun v298 T298 L298 X298 hQ298 => ?_)
            obtain ⟨rfl, Nq298, Kq298, u298_0, u298_1, u298_2, u298_3⟩ := hQ298
            obtain ⟨h298, e298⟩ : ∃ z, T298.heap = z := ⟨_, rfl⟩
            rw [e298] at Kq298 u298_0 u298_1 u298_2 u298_3
            have N298 := Fr.app N291 Nq298
            have O298 := (O291).keep Kq298 (allS ge_o198 (allS ge_o285_0 all0))
            have F298 := OwnF.ext O298.2 FZ
            show Go p e below _ (T298.setTop (mkF m 197 #[.val (.int i0), .val (.int i1), .val (.int i2), .val (.int i3), .val (.int i4), .val (.int i5), .val (.int (1 : Int32)), .val (.int (2 : Int32)), .val (.ref o1), .val (.ref o3), .val (.ref o6), .val (.ref o10), .val (.ref o198), .unset] [(.int (1 : Int32))]))
            refine s_pop B X298 (pc' := 198) at_197 rfl rfl ?_
            refine s_iload B X298 (pc' := 200) at_198 rfl rfl ?_
            refine s_iconst B X298 (pc' := 201) (v := (3 : Int32)) at_200 rfl rfl ?_
            refine s_icmpY B X298 (pc' := 214) at_201 (by decide) (by decide) (by decide) ?_
            refine s_iload B X298 (pc' := 216) at_214 rfl rfl ?_
            refine s_ifY B X298 (pc' := 228) at_216 (by decide) (by decide) (by decide) ?_
            refine s_iconst B X298 (pc' := 229) (v := (0 : Int32)) at_228 rfl rfl ?_
            refine s_istore B X298 (pc' := 231) (Ls' := #[.val (.int i0), .val (.int i1), .val (.int i2), .val (.int i3), .val (.int i4), .val (.int i5), .val (.int (1 : Int32)), .val (.int (2 : Int32)), .val (.ref o1), .val (.ref o3), .val (.ref o6), .val (.ref o10), .val (.ref o198), .val (.int (0 : Int32))]) at_229 rfl rfl ?_
            refine s_new B X298 (pc' := 234) (n0 := 2) e298 (tw64 hw) (tw65 hw) (tw66 hw) (by decide) (by decide) at_231 rfl (fun T299 h299 o299 g299 X299 e299 E299 A299 D299 => ?_)
            have f300 := (((f286.keep Kq285).keep Kq291).keep Kq298)
            have ne_o1_o299 : o1 ≠ o299 := Nat.ne_of_lt (g299 ▸ f300.lt)
            have f301 := (((f287.keep Kq285).keep Kq291).keep Kq298)
            have ne_o3_o299 : o3 ≠ o299 := Nat.ne_of_lt (g299 ▸ f301.lt)
            have f302 := (((f288.keep Kq285).keep Kq291).keep Kq298)
            have ne_o6_o299 : o6 ≠ o299 := Nat.ne_of_lt (g299 ▸ f302.lt)
            have f303 := (((f289.keep Kq285).keep Kq291).keep Kq298)
            have ne_o10_o299 : o10 ≠ o299 := Nat.ne_of_lt (g299 ▸ f303.lt)
            have f304 := (((f290.keep Kq285 (ninS ne_o195_0_o198 nin0)).keep Kq291 nin0).keep Kq298 (ninS ne_o195_0_o198 (ninS ne_o195_0_o285_0 nin0)))
            have ne_o195_0_o299 : o195_0 ≠ o299 := Nat.ne_of_lt (g299 ▸ f304.lt)
            have f305 := (f292.keep Kq298)
            have ne_o198_o299 : o198 ≠ o299 := Nat.ne_of_lt (g299 ▸ f305.lt)
            have ne_o285_0_o299 : o285_0 ≠ o299 := Nat.ne_of_lt (g299 ▸ u298_3.lt)
            have ge_o299 : Z.heap.size ≤ o299 := g299 ▸ old_le O298
            have O299 := (O298).ext E299
            have F299 := OwnF.ext O299.2 FZ
            have D299_each : Fld Z h299 o299 "com/example/lichen/lichen/solver/TermSubsumption$Ways" "each" "Ljava/util/List;" .null := D299 (Or.inr (tw77 hw)) (ty := (.object "java/util/List")) (by decide)
            have D299_producers : Fld Z h299 o299 "com/example/lichen/lichen/solver/TermSubsumption$Ways" "producers" "Ljava/util/List;" .null := D299 (Or.inr (tw79 hw)) (ty := (.object "java/util/List")) (by decide)
            show Go p e below _ (T299.setTop (mkF m 234 #[.val (.int i0), .val (.int i1), .val (.int i2), .val (.int i3), .val (.int i4), .val (.int i5), .val (.int (1 : Int32)), .val (.int (2 : Int32)), .val (.ref o1), .val (.ref o3), .val (.ref o6), .val (.ref o10), .val (.ref o198), .val (.int (0 : Int32))] [(.ref o299)]))
            refine s_dup B X299 (pc' := 235) at_234 rfl rfl ?_
            refine s_aload B X299 (pc' := 237) at_235 rfl rfl rfl ?_
            refine s_aload B X299 (pc' := 239) at_237 rfl rfl rfl ?_
            have f306 := (f303.ext E299)
            have f307 := (((((((u195_1.ext E198).keep Kq203 (ninS ne_o10_o198 nin0)).keep Kq280 nin0).keep Kq285 (ninS ne_o10_o198 nin0)).keep Kq291 nin0).keep Kq298 (ninS ne_o10_o198 (ninS ne_o10_o285_0 nin0))).ext E299)
            have f308 := (((((((u195_2.ext E198).keep Kq203 (ninS ne_o10_o198 nin0)).keep Kq280 nin0).keep Kq285 (ninS ne_o10_o198 nin0)).keep Kq291 nin0).keep Kq298 (ninS ne_o10_o198 (ninS ne_o10_o285_0 nin0))).ext E299)
            have f309 := (((((((u195_3.ext E198).keep Kq203 (ninS ne_o10_o198 nin0)).keep Kq280 nin0).keep Kq285 (ninS ne_o10_o198 nin0)).keep Kq291 nin0).keep Kq298 (ninS ne_o10_o198 (ninS ne_o10_o285_0 nin0))).ext E299)
            have f310 := (f305.ext E299)
            have f311 := (u298_0.ext E299)
            have f312 := (u298_1.ext E299)
            have f313 := (u298_2.ext E299)
            have f314 := (f304.ext E299)
            have f315 := (u298_3.ext E299)
            have f316 := (f300.ext E299)
            have f317 := ((f297.keep Kq298).ext E299)
            have f318 := ((EL291.keep Kq298).ext E299)
            refine c_init B X299 (y := mn7) (pc' := 242) (argsL := [(.ref o10), (.ref o198)]) (under := [(.ref o299)]) (W := 1) e299 rfl (tw67 hw) (tw68 hw) (tw69 hw) (tw66 hw) (by decide) (mm11_34 l Z a0 hw o299 o10 o198 o195_0 o285_0 o1 qL280 qL291 kq_o195_0 kq_o285_0 w_D h299 FZ O299 ge_o299 A299 D299_each D299_producers ge_o10 f306 f307 f308 f309 ge_o198 f310 f311 f312 f313 ge_o195_0 f314 ovu195_0 ge_o285_0 f315 ovu285_0 ge_o1 f316 f317 f318 (Ne.symm ne_o10_o299) (Ne.symm ne_o198_o299) (Ne.symm ne_o195_0_o299) (Ne.symm ne_o285_0_o299) (Ne.symm ne_o1_o299) ne_o10_o198 ne_o10_o195_0 ne_o10_o285_0 (Ne.symm ne_o1_o10) (Ne.symm ne_o195_0_o198) ne_o198_o285_0 (Ne.symm ne_o1_o198) ne_o195_0_o285_0 (Ne.symm ne_o1_o195_0) (Ne.symm ne_o1_o285_0) ) (lenOf pd_2 rfl) rfl rfl (by decide) (by decide) (by decide) (by decide) rfl at_239 rfl (fun v319 T319 L319 X319 hQ319 => ?_)
            obtain ⟨rfl, Nq319, Kq319, u319_0, u319_1⟩ := hQ319
            obtain ⟨h319, e319⟩ : ∃ z, T319.heap = z := ⟨_, rfl⟩
            rw [e319] at Kq319 u319_0 u319_1
            have N319 := Fr.app N298 Nq319
            have O319 := (O299).keep Kq319 (allS ge_o299 all0)
            have F319 := OwnF.ext O319.2 FZ
            show Go p e below _ (T319.setTop (mkF m 242 #[.val (.int i0), .val (.int i1), .val (.int i2), .val (.int i3), .val (.int i4), .val (.int i5), .val (.int (1 : Int32)), .val (.int (2 : Int32)), .val (.ref o1), .val (.ref o3), .val (.ref o6), .val (.ref o10), .val (.ref o198), .val (.int (0 : Int32))] [(.ref o299)]))
            have f320 := (A299.keep Kq319)
            have f321 := (f306.keep Kq319)
            have f322 := (f307.keep Kq319 (ninS ne_o10_o299 nin0))
            have f323 := (f308.keep Kq319 (ninS ne_o10_o299 nin0))
            have f324 := (f309.keep Kq319 (ninS ne_o10_o299 nin0))
            have f325 := (f310.keep Kq319)
            have f326 := (f311.keep Kq319 (ninS ne_o198_o299 nin0))
            have f327 := (f312.keep Kq319 (ninS ne_o198_o299 nin0))
            have f328 := (f313.keep Kq319 (ninS ne_o198_o299 nin0))
            have f329 := (f314.keep Kq319 (ninS ne_o195_0_o299 nin0))
            have f330 := (f315.keep Kq319 (ninS ne_o285_0_o299 nin0))
            have f331 := (f316.keep Kq319)
            have f332 := (f317.keep Kq319)
            have f333 := (f318.keep Kq319)
            refine p_virtual B X319 (y := mn10) (pc' := 245) (argsL := []) (under := []) (W := 0) e319 (tw80 hw) (tw81 hw) (tw83 hw) (tw82 hw) (tw84 hw) (tw66 hw) (by decide) (mm13_35 l Z a0 hw o299 o10 o198 o195_0 o285_0 o1 qL280 qL291 kq_o195_0 kq_o285_0 w_D h319 FZ O319 ge_o299 f320 u319_0 u319_1 ge_o10 f321 f322 f323 f324 ge_o198 f325 f326 f327 f328 ge_o195_0 f329 ovu195_0 ge_o285_0 f330 ovu285_0 ge_o1 f331 f332 f333 (Ne.symm ne_o10_o299) (Ne.symm ne_o198_o299) (Ne.symm ne_o195_0_o299) (Ne.symm ne_o285_0_o299) (Ne.symm ne_o1_o299) ne_o10_o198 ne_o10_o195_0 ne_o10_o285_0 (Ne.symm ne_o1_o10) (Ne.symm ne_o195_0_o198) ne_o198_o285_0 (Ne.symm ne_o1_o198) ne_o195_0_o285_0 (Ne.symm ne_o1_o195_0) (Ne.symm ne_o1_o285_0) ) f320 (lenOf pd_3 rfl) rfl rfl (by decide) (by decide) rfl rfl (by decide) (by decide) rfl at_242 rfl (fun T334 X334 e334 => ?_)
            show Go p e below _ (T334.setTop (mkF m 245 #[.val (.int i0), .val (.int i1), .val (.int i2), .val (.int i3), .val (.int i4), .val (.int i5), .val (.int (1 : Int32)), .val (.int (2 : Int32)), .val (.ref o1), .val (.ref o3), .val (.ref o6), .val (.ref o10), .val (.ref o198), .val (.int (0 : Int32))] [(.int (0 : Int32))]))
            refine s_iload B X334 (pc' := 247) at_245 rfl rfl ?_
            refine s_icmpN B X334 (pc' := 250) at_247 (by decide) rfl ?_
            refine s_iconst B X334 (pc' := 251) (v := (1 : Int32)) at_250 rfl rfl ?_
            refine s_goto B X334 (pc' := 255) at_251 (by decide) (by decide) ?_
            exact r_nar B X334 (t := .boolean) (by simp) rfl at_255 ⟨rfl, N319⟩ (by decide) (by decide)
          · rw [hv204]
            show Go p e below _ (T203.setTop (mkF m 165 #[.val (.int i0), .val (.int i1), .val (.int i2), .val (.int i3), .val (.int i4), .val (.int i5), .val (.int (1 : Int32)), .val (.int (3 : Int32)), .val (.ref o1), .val (.ref o3), .val (.ref o6), .val (.ref o10), .val (.ref o198), .unset] []))
            refine s_iload B X203 (pc' := 167) at_165 rfl rfl ?_
            refine s_iconst B X203 (pc' := 168) (v := (1 : Int32)) at_167 rfl rfl ?_
            refine s_icmpN B X203 (pc' := 171) at_168 (by decide) rfl ?_
            refine s_aload B X203 (pc' := 173) at_171 rfl rfl rfl ?_
            refine s_iloadN B X203 (pc' := 174) at_173 rfl rfl ?_
            refine c_static B X203 (y := mn2) (pc' := 177) (argsL := [(.int i2)]) (under := [(.ref o198)]) (W := 1) e203 (tw26 hw) (tw27 hw) (tw29 hw) (tw28 hw) (by decide) (rm_valueOf l Z a0 hw i2 w_D h203 FZ O203) (lenOf pd_4 rfl) rfl rfl (by decide) (by decide) (by decide) (by decide) rfl at_174 rfl (fun v335 T335 L335 X335 hQ => ?_)
            obtain ⟨qL335, rfl, Nq335, Kq335, EL335⟩ := hQ
            obtain ⟨h335, e335⟩ : ∃ z, T335.heap = z := ⟨_, rfl⟩
            rw [e335] at Kq335 EL335
            have N335 := Fr.app N203 Nq335
            have O335 := (O203).keep Kq335 all0
            have F335 := OwnF.ext O335.2 FZ
            show Go p e below _ (T335.setTop (mkF m 177 #[.val (.int i0), .val (.int i1), .val (.int i2), .val (.int i3), .val (.int i4), .val (.int i5), .val (.int (1 : Int32)), .val (.int (3 : Int32)), .val (.ref o1), .val (.ref o3), .val (.ref o6), .val (.ref o10), .val (.ref o198), .unset] [(.ref qL335), (.ref o198)]))
            have f336 := ((A198.keep Kq203).keep Kq335)
            have f337 := (u203_0.keep Kq335 nin0)
            have f338 := (u203_1.keep Kq335 nin0)
            have f339 := (u203_2.keep Kq335 nin0)
            refine c_virtual B X335 (y := mn15) (pc' := 180) (argsL := [(.ref qL335)]) (under := []) (W := 0) e335 (tw33 hw) (tw34 hw) (tw36 hw) (tw35 hw) (tw37 hw) (tw2 hw) (by decide) (mm6_10 l Z a0 hw o198 qL335 w_D h335 FZ O335 ge_o198 f336 f337 f338 f339 EL335 ) f336 (lenOf pd_9 rfl) rfl rfl (by decide) (by decide) (by decide) (by decide) rfl at_177 rfl (fun v340 T340 L340 X340 hQ340 => ?_)
            obtain ⟨o340_0, kq_o340_0, rfl, Nq340, Kq340, lq_o340_0, u340_0, ovu340_0, u340_1, u340_2, u340_3⟩ := hQ340
            have f341 := (((f199.ext E198).keep Kq203).keep Kq335)
            have ne_o1_o340_0 : o1 ≠ o340_0 := Nat.ne_of_lt (Nat.lt_of_lt_of_le f341.lt lq_o340_0)
            have f342 := (((f200.ext E198).keep Kq203).keep Kq335)
            have ne_o3_o340_0 : o3 ≠ o340_0 := Nat.ne_of_lt (Nat.lt_of_lt_of_le f342.lt lq_o340_0)
            have f343 := (((f201.ext E198).keep Kq203).keep Kq335)
            have ne_o6_o340_0 : o6 ≠ o340_0 := Nat.ne_of_lt (Nat.lt_of_lt_of_le f343.lt lq_o340_0)
            have f344 := (((f202.ext E198).keep Kq203).keep Kq335)
            have ne_o10_o340_0 : o10 ≠ o340_0 := Nat.ne_of_lt (Nat.lt_of_lt_of_le f344.lt lq_o340_0)
            have f345 := (((u195_0.ext E198).keep Kq203 (ninS ne_o195_0_o198 nin0)).keep Kq335 nin0)
            have ne_o195_0_o340_0 : o195_0 ≠ o340_0 := Nat.ne_of_lt (Nat.lt_of_lt_of_le f345.lt lq_o340_0)
            have ne_o198_o340_0 : o198 ≠ o340_0 := Nat.ne_of_lt (Nat.lt_of_lt_of_le f336.lt lq_o340_0)
            have ge_o340_0 : Z.heap.size ≤ o340_0 := Nat.le_trans (old_le O335) lq_o340_0
            obtain ⟨h340, e340⟩ : ∃ z, T340.heap = z := ⟨_, rfl⟩
            rw [e340] at Kq340 u340_0 u340_1 u340_2 u340_3
            have N340 := Fr.app N335 Nq340
            have O340 := (O335).keep Kq340 (allS ge_o198 all0)
            have F340 := OwnF.ext O340.2 FZ
            show Go p e below _ (T340.setTop (mkF m 180 #[.val (.int i0), .val (.int i1), .val (.int i2), .val (.int i3), .val (.int i4), .val (.int i5), .val (.int (1 : Int32)), .val (.int (3 : Int32)), .val (.ref o1), .val (.ref o3), .val (.ref o6), .val (.ref o10), .val (.ref o198), .unset] [(.int (1 : Int32))]))
            refine s_pop B X340 (pc' := 181) at_180 rfl rfl ?_
            refine s_iload B X340 (pc' := 183) at_181 rfl rfl ?_
            refine s_iconst B X340 (pc' := 184) (v := (2 : Int32)) at_183 rfl rfl ?_
            refine s_icmpN B X340 (pc' := 187) at_184 (by decide) rfl ?_
            refine s_aload B X340 (pc' := 189) at_187 rfl rfl rfl ?_
            refine s_iload B X340 (pc' := 191) at_189 rfl rfl ?_
            refine c_static B X340 (y := mn2) (pc' := 194) (argsL := [(.int i5)]) (under := [(.ref o198)]) (W := 1) e340 (tw26 hw) (tw27 hw) (tw29 hw) (tw28 hw) (by decide) (rm_valueOf l Z a0 hw i5 w_D h340 FZ O340) (lenOf pd_4 rfl) rfl rfl (by decide) (by decide) (by decide) (by decide) rfl at_191 rfl (fun v346 T346 L346 X346 hQ => ?_)
            obtain ⟨qL346, rfl, Nq346, Kq346, EL346⟩ := hQ
            obtain ⟨h346, e346⟩ : ∃ z, T346.heap = z := ⟨_, rfl⟩
            rw [e346] at Kq346 EL346
            have N346 := Fr.app N340 Nq346
            have O346 := (O340).keep Kq346 all0
            have F346 := OwnF.ext O346.2 FZ
            show Go p e below _ (T346.setTop (mkF m 194 #[.val (.int i0), .val (.int i1), .val (.int i2), .val (.int i3), .val (.int i4), .val (.int i5), .val (.int (1 : Int32)), .val (.int (3 : Int32)), .val (.ref o1), .val (.ref o3), .val (.ref o6), .val (.ref o10), .val (.ref o198), .unset] [(.ref qL346), (.ref o198)]))
            have f347 := ((f336.keep Kq340).keep Kq346)
            have f348 := (u340_1.keep Kq346 nin0)
            have f349 := (u340_2.keep Kq346 nin0)
            have f350 := (u340_3.keep Kq346 nin0)
            have f351 := (u340_0.keep Kq346 nin0)
            have f352 := ((EL335.keep Kq340).keep Kq346)
            refine c_virtual B X346 (y := mn15) (pc' := 197) (argsL := [(.ref qL346)]) (under := []) (W := 0) e346 (tw33 hw) (tw34 hw) (tw36 hw) (tw35 hw) (tw37 hw) (tw2 hw) (by decide) (mm6_17 l Z a0 hw o198 qL346 o340_0 qL335 kq_o340_0 w_D h346 FZ O346 ge_o198 f347 f348 f349 f350 EL346 ge_o340_0 f351 ovu340_0 f352 ne_o198_o340_0 ) f347 (lenOf pd_9 rfl) rfl rfl (by decide) (by decide) (by decide) (by decide) rfl at_194 rfl (fun v353 T353 L353 X353 hQ353 => ?_)
            obtain ⟨rfl, Nq353, Kq353, u353_0, u353_1, u353_2, u353_3⟩ := hQ353
            obtain ⟨h353, e353⟩ : ∃ z, T353.heap = z := ⟨_, rfl⟩
            rw [e353] at Kq353 u353_0 u353_1 u353_2 u353_3
            have N353 := Fr.app N346 Nq353
            have O353 := (O346).keep Kq353 (allS ge_o198 (allS ge_o340_0 all0))
            have F353 := OwnF.ext O353.2 FZ
            show Go p e below _ (T353.setTop (mkF m 197 #[.val (.int i0), .val (.int i1), .val (.int i2), .val (.int i3), .val (.int i4), .val (.int i5), .val (.int (1 : Int32)), .val (.int (3 : Int32)), .val (.ref o1), .val (.ref o3), .val (.ref o6), .val (.ref o10), .val (.ref o198), .unset] [(.int (1 : Int32))]))
            refine s_pop B X353 (pc' := 198) at_197 rfl rfl ?_
            refine s_iload B X353 (pc' := 200) at_198 rfl rfl ?_
            refine s_iconst B X353 (pc' := 201) (v := (3 : Int32)) at_200 rfl rfl ?_
            refine s_icmpN B X353 (pc' := 204) at_201 (by decide) rfl ?_
            refine s_aload B X353 (pc' := 206) at_204 rfl rfl rfl ?_
            refine s_iloadN B X353 (pc' := 207) at_206 rfl rfl ?_
            refine c_static B X353 (y := mn2) (pc' := 210) (argsL := [(.int i3)]) (under := [(.ref o198)]) (W := 1) e353 (tw26 hw) (tw27 hw) (tw29 hw) (tw28 hw) (by decide) (rm_valueOf l Z a0 hw i3 w_D h353 FZ O353) (lenOf pd_4 rfl) rfl rfl (by decide) (by decide) (by decide) (by decide) rfl at_207 rfl (fun v354 T354 L354 X354 hQ => ?_)
            obtain ⟨qL354, rfl, Nq354, Kq354, EL354⟩ := hQ
            obtain ⟨h354, e354⟩ : ∃ z, T354.heap = z := ⟨_, rfl⟩
            rw [e354] at Kq354 EL354
            have N354 := Fr.app N353 Nq354
            have O354 := (O353).keep Kq354 all0
            have F354 := OwnF.ext O354.2 FZ
            show Go p e below _ (T354.setTop (mkF m 210 #[.val (.int i0), .val (.int i1), .val (.int i2), .val (.int i3), .val (.int i4), .val (.int i5), .val (.int (1 : Int32)), .val (.int (3 : Int32)), .val (.ref o1), .val (.ref o3), .val (.ref o6), .val (.ref o10), .val (.ref o198), .unset] [(.ref qL354), (.ref o198)]))
            have f355 := ((f347.keep Kq353).keep Kq354)
            have f356 := (u353_0.keep Kq354 nin0)
            have f357 := (u353_1.keep Kq354 nin0)
            have f358 := (u353_2.keep Kq354 nin0)
            have f359 := (u353_3.keep Kq354 nin0)
            have f360 := ((f352.keep Kq353).keep Kq354)
            have f361 := ((EL346.keep Kq353).keep Kq354)
            refine c_virtual B X354 (y := mn15) (pc' := 213) (argsL := [(.ref qL354)]) (under := []) (W := 0) e354 (tw33 hw) (tw34 hw) (tw36 hw) (tw35 hw) (tw37 hw) (tw2 hw) (by decide) (mm6_22 l Z a0 hw o198 qL354 o340_0 qL335 qL346 kq_o340_0 w_D h354 FZ O354 ge_o198 f355 f356 f357 f358 EL354 ge_o340_0 f359 ovu340_0 f360 f361 ne_o198_o340_0 ) f355 (lenOf pd_9 rfl) rfl rfl (by decide) (by decide) (by decide) (by decide) rfl at_210 rfl (fun v362 T362 L362 X362 hQ362 => ?_)
            obtain ⟨rfl, Nq362, Kq362, u362_0, u362_1, u362_2, u362_3⟩ := hQ362
            obtain ⟨h362, e362⟩ : ∃ z, T362.heap = z := ⟨_, rfl⟩
            rw [e362] at Kq362 u362_0 u362_1 u362_2 u362_3
            have N362 := Fr.app N354 Nq362
            have O362 := (O354).keep Kq362 (allS ge_o198 (allS ge_o340_0 all0))
            have F362 := OwnF.ext O362.2 FZ
            show Go p e below _ (T362.setTop (mkF m 213 #[.val (.int i0), .val (.int i1), .val (.int i2), .val (.int i3), .val (.int i4), .val (.int i5), .val (.int (1 : Int32)), .val (.int (3 : Int32)), .val (.ref o1), .val (.ref o3), .val (.ref o6), .val (.ref o10), .val (.ref o198), .unset] [(.int (1 : Int32))]))
            refine s_pop B X362 (pc' := 214) at_213 rfl rfl ?_
            refine s_iload B X362 (pc' := 216) at_214 rfl rfl ?_
            refine s_ifY B X362 (pc' := 228) at_216 (by decide) (by decide) (by decide) ?_
            refine s_iconst B X362 (pc' := 229) (v := (0 : Int32)) at_228 rfl rfl ?_
            refine s_istore B X362 (pc' := 231) (Ls' := #[.val (.int i0), .val (.int i1), .val (.int i2), .val (.int i3), .val (.int i4), .val (.int i5), .val (.int (1 : Int32)), .val (.int (3 : Int32)), .val (.ref o1), .val (.ref o3), .val (.ref o6), .val (.ref o10), .val (.ref o198), .val (.int (0 : Int32))]) at_229 rfl rfl ?_
            refine s_new B X362 (pc' := 234) (n0 := 2) e362 (tw64 hw) (tw65 hw) (tw66 hw) (by decide) (by decide) at_231 rfl (fun T363 h363 o363 g363 X363 e363 E363 A363 D363 => ?_)
            have f364 := (((((f341.keep Kq340).keep Kq346).keep Kq353).keep Kq354).keep Kq362)
            have ne_o1_o363 : o1 ≠ o363 := Nat.ne_of_lt (g363 ▸ f364.lt)
            have f365 := (((((f342.keep Kq340).keep Kq346).keep Kq353).keep Kq354).keep Kq362)
            have ne_o3_o363 : o3 ≠ o363 := Nat.ne_of_lt (g363 ▸ f365.lt)
            have f366 := (((((f343.keep Kq340).keep Kq346).keep Kq353).keep Kq354).keep Kq362)
            have ne_o6_o363 : o6 ≠ o363 := Nat.ne_of_lt (g363 ▸ f366.lt)
            have f367 := (((((f344.keep Kq340).keep Kq346).keep Kq353).keep Kq354).keep Kq362)
            have ne_o10_o363 : o10 ≠ o363 := Nat.ne_of_lt (g363 ▸ f367.lt)
            have f368 := (((((f345.keep Kq340 (ninS ne_o195_0_o198 nin0)).keep Kq346 nin0).keep Kq353 (ninS ne_o195_0_o198 (ninS ne_o195_0_o340_0 nin0))).keep Kq354 nin0).keep Kq362 (ninS ne_o195_0_o198 (ninS ne_o195_0_o340_0 nin0)))
            have ne_o195_0_o363 : o195_0 ≠ o363 := Nat.ne_of_lt (g363 ▸ f368.lt)
            have f369 := (f355.keep Kq362)
            have ne_o198_o363 : o198 ≠ o363 := Nat.ne_of_lt (g363 ▸ f369.lt)
            have ne_o340_0_o363 : o340_0 ≠ o363 := Nat.ne_of_lt (g363 ▸ u362_3.lt)
            have ge_o363 : Z.heap.size ≤ o363 := g363 ▸ old_le O362
            have O363 := (O362).ext E363
            have F363 := OwnF.ext O363.2 FZ
            have D363_each : Fld Z h363 o363 "com/example/lichen/lichen/solver/TermSubsumption$Ways" "each" "Ljava/util/List;" .null := D363 (Or.inr (tw77 hw)) (ty := (.object "java/util/List")) (by decide)
            have D363_producers : Fld Z h363 o363 "com/example/lichen/lichen/solver/TermSubsumption$Ways" "producers" "Ljava/util/List;" .null := D363 (Or.inr (tw79 hw)) (ty := (.object "java/util/List")) (by decide)
            show Go p e below _ (T363.setTop (mkF m 234 #[.val (.int i0), .val (.int i1), .val (.int i2), .val (.int i3), .val (.int i4), .val (.int i5), .val (.int (1 : Int32)), .val (.int (3 : Int32)), .val (.ref o1), .val (.ref o3), .val (.ref o6), .val (.ref o10), .val (.ref o198), .val (.int (0 : Int32))] [(.ref o363)]))
            refine s_dup B X363 (pc' := 235) at_234 rfl rfl ?_
            refine s_aload B X363 (pc' := 237) at_235 rfl rfl rfl ?_
            refine s_aload B X363 (pc' := 239) at_237 rfl rfl rfl ?_
            have f370 := (f367.ext E363)
            have f371 := (((((((((u195_1.ext E198).keep Kq203 (ninS ne_o10_o198 nin0)).keep Kq335 nin0).keep Kq340 (ninS ne_o10_o198 nin0)).keep Kq346 nin0).keep Kq353 (ninS ne_o10_o198 (ninS ne_o10_o340_0 nin0))).keep Kq354 nin0).keep Kq362 (ninS ne_o10_o198 (ninS ne_o10_o340_0 nin0))).ext E363)
            have f372 := (((((((((u195_2.ext E198).keep Kq203 (ninS ne_o10_o198 nin0)).keep Kq335 nin0).keep Kq340 (ninS ne_o10_o198 nin0)).keep Kq346 nin0).keep Kq353 (ninS ne_o10_o198 (ninS ne_o10_o340_0 nin0))).keep Kq354 nin0).keep Kq362 (ninS ne_o10_o198 (ninS ne_o10_o340_0 nin0))).ext E363)
            have f373 := (((((((((u195_3.ext E198).keep Kq203 (ninS ne_o10_o198 nin0)).keep Kq335 nin0).keep Kq340 (ninS ne_o10_o198 nin0)).keep Kq346 nin0).keep Kq353 (ninS ne_o10_o198 (ninS ne_o10_o340_0 nin0))).keep Kq354 nin0).keep Kq362 (ninS ne_o10_o198 (ninS ne_o10_o340_0 nin0))).ext E363)
            have f374 := (f369.ext E363)
            have f375 := (u362_0.ext E363)
            have f376 := (u362_1.ext E363)
            have f377 := (u362_2.ext E363)
            have f378 := (f368.ext E363)
            have f379 := (u362_3.ext E363)
            have f380 := (f364.ext E363)
            have f381 := ((f360.keep Kq362).ext E363)
            have f382 := ((f361.keep Kq362).ext E363)
            have f383 := ((EL354.keep Kq362).ext E363)
            refine c_init B X363 (y := mn7) (pc' := 242) (argsL := [(.ref o10), (.ref o198)]) (under := [(.ref o363)]) (W := 1) e363 rfl (tw67 hw) (tw68 hw) (tw69 hw) (tw66 hw) (by decide) (mm11_36 l Z a0 hw o363 o10 o198 o195_0 o340_0 o1 qL335 qL346 qL354 kq_o195_0 kq_o340_0 w_D h363 FZ O363 ge_o363 A363 D363_each D363_producers ge_o10 f370 f371 f372 f373 ge_o198 f374 f375 f376 f377 ge_o195_0 f378 ovu195_0 ge_o340_0 f379 ovu340_0 ge_o1 f380 f381 f382 f383 (Ne.symm ne_o10_o363) (Ne.symm ne_o198_o363) (Ne.symm ne_o195_0_o363) (Ne.symm ne_o340_0_o363) (Ne.symm ne_o1_o363) ne_o10_o198 ne_o10_o195_0 ne_o10_o340_0 (Ne.symm ne_o1_o10) (Ne.symm ne_o195_0_o198) ne_o198_o340_0 (Ne.symm ne_o1_o198) ne_o195_0_o340_0 (Ne.symm ne_o1_o195_0) (Ne.symm ne_o1_o340_0) ) (lenOf pd_2 rfl) rfl rfl (by decide) (by decide) (by decide) (by decide) rfl at_239 rfl (fun v384 T384 L384 X384 hQ384 => ?_)
            obtain ⟨rfl, Nq384, Kq384, u384_0, u384_1⟩ := hQ384
            obtain ⟨h384, e384⟩ : ∃ z, T384.heap = z := ⟨_, rfl⟩
            rw [e384] at Kq384 u384_0 u384_1
            have N384 := Fr.app N362 Nq384
            have O384 := (O363).keep Kq384 (allS ge_o363 all0)
            have F384 := OwnF.ext O384.2 FZ
            show Go p e below _ (T384.setTop (mkF m 242 #[.val (.int i0), .val (.int i1), .val (.int i2), .val (.int i3), .val (.int i4), .val (.int i5), .val (.int (1 : Int32)), .val (.int (3 : Int32)), .val (.ref o1), .val (.ref o3), .val (.ref o6), .val (.ref o10), .val (.ref o198), .val (.int (0 : Int32))] [(.ref o363)]))
            have f385 := (A363.keep Kq384)
            have f386 := (f370.keep Kq384)
            have f387 := (f371.keep Kq384 (ninS ne_o10_o363 nin0))
            have f388 := (f372.keep Kq384 (ninS ne_o10_o363 nin0))
            have f389 := (f373.keep Kq384 (ninS ne_o10_o363 nin0))
            have f390 := (f374.keep Kq384)
            have f391 := (f375.keep Kq384 (ninS ne_o198_o363 nin0))
            have f392 := (f376.keep Kq384 (ninS ne_o198_o363 nin0))
            have f393 := (f377.keep Kq384 (ninS ne_o198_o363 nin0))
            have f394 := (f378.keep Kq384 (ninS ne_o195_0_o363 nin0))
            have f395 := (f379.keep Kq384 (ninS ne_o340_0_o363 nin0))
            have f396 := (f380.keep Kq384)
            have f397 := (f381.keep Kq384)
            have f398 := (f382.keep Kq384)
            have f399 := (f383.keep Kq384)
            refine p_virtual B X384 (y := mn10) (pc' := 245) (argsL := []) (under := []) (W := 0) e384 (tw80 hw) (tw81 hw) (tw83 hw) (tw82 hw) (tw84 hw) (tw66 hw) (by decide) (mm13_37 l Z a0 hw o363 o10 o198 o195_0 o340_0 o1 qL335 qL346 qL354 kq_o195_0 kq_o340_0 w_D h384 FZ O384 ge_o363 f385 u384_0 u384_1 ge_o10 f386 f387 f388 f389 ge_o198 f390 f391 f392 f393 ge_o195_0 f394 ovu195_0 ge_o340_0 f395 ovu340_0 ge_o1 f396 f397 f398 f399 (Ne.symm ne_o10_o363) (Ne.symm ne_o198_o363) (Ne.symm ne_o195_0_o363) (Ne.symm ne_o340_0_o363) (Ne.symm ne_o1_o363) ne_o10_o198 ne_o10_o195_0 ne_o10_o340_0 (Ne.symm ne_o1_o10) (Ne.symm ne_o195_0_o198) ne_o198_o340_0 (Ne.symm ne_o1_o198) ne_o195_0_o340_0 (Ne.symm ne_o1_o195_0) (Ne.symm ne_o1_o340_0) ) f385 (lenOf pd_3 rfl) rfl rfl (by decide) (by decide) rfl rfl (by decide) (by decide) rfl at_242 rfl (fun T400 X400 e400 => ?_)
            show Go p e below _ (T400.setTop (mkF m 245 #[.val (.int i0), .val (.int i1), .val (.int i2), .val (.int i3), .val (.int i4), .val (.int i5), .val (.int (1 : Int32)), .val (.int (3 : Int32)), .val (.ref o1), .val (.ref o3), .val (.ref o6), .val (.ref o10), .val (.ref o198), .val (.int (0 : Int32))] [(.int (0 : Int32))]))
            refine s_iload B X400 (pc' := 247) at_245 rfl rfl ?_
            refine s_icmpN B X400 (pc' := 250) at_247 (by decide) rfl ?_
            refine s_iconst B X400 (pc' := 251) (v := (1 : Int32)) at_250 rfl rfl ?_
            refine s_goto B X400 (pc' := 255) at_251 (by decide) (by decide) ?_
            exact r_nar B X400 (t := .boolean) (by simp) rfl at_255 ⟨rfl, N384⟩ (by decide) (by decide)
        · rw [hv12]
          show Go p e below _ (T11.setTop (mkF m 114 #[.val (.int i0), .val (.int i1), .val (.int i2), .val (.int i3), .val (.int i4), .val (.int i5), .val (.int (2 : Int32)), .val (.int (i1 &&& (3 : Int32))), .val (.ref o1), .val (.ref o3), .val (.ref o6), .val (.ref o10), .unset, .unset] []))
          refine s_iload B X11 (pc' := 116) at_114 rfl rfl ?_
          refine s_iconst B X11 (pc' := 117) (v := (1 : Int32)) at_116 rfl rfl ?_
          refine s_icmpN B X11 (pc' := 120) at_117 (by decide) rfl ?_
          refine s_aload B X11 (pc' := 122) at_120 rfl rfl rfl ?_
          refine s_aload B X11 (pc' := 124) at_122 rfl rfl rfl ?_
          have f401 := (A10.keep Kq11)
          have f402 := ((Ej105_o1.ext E10).keep Kq11)
          refine c_virtual B X11 (y := mn15) (pc' := 127) (argsL := [(.ref o1)]) (under := []) (W := 0) e11 (tw33 hw) (tw34 hw) (tw36 hw) (tw35 hw) (tw37 hw) (tw2 hw) (by decide) (mm6_27 l Z a0 hw o10 o1 w_D h11 FZ O11 ge_o10 f401 u11_0 u11_1 u11_2 ge_o1 f402 (Ne.symm ne_o1_o10) ) f401 (lenOf pd_9 rfl) rfl rfl (by decide) (by decide) (by decide) (by decide) rfl at_124 rfl (fun v403 T403 L403 X403 hQ403 => ?_)
          obtain ⟨o403_0, kq_o403_0, rfl, Nq403, Kq403, lq_o403_0, u403_0, ovu403_0, u403_1, u403_2, u403_3⟩ := hQ403
          have ne_o1_o403_0 : o1 ≠ o403_0 := Nat.ne_of_lt (Nat.lt_of_lt_of_le f402.lt lq_o403_0)
          have f404 := ((Ej105_o3.ext E10).keep Kq11)
          have ne_o3_o403_0 : o3 ≠ o403_0 := Nat.ne_of_lt (Nat.lt_of_lt_of_le f404.lt lq_o403_0)
          have f405 := ((Ej105_o6.ext E10).keep Kq11)
          have ne_o6_o403_0 : o6 ≠ o403_0 := Nat.ne_of_lt (Nat.lt_of_lt_of_le f405.lt lq_o403_0)
          have ne_o10_o403_0 : o10 ≠ o403_0 := Nat.ne_of_lt (Nat.lt_of_lt_of_le f401.lt lq_o403_0)
          have ge_o403_0 : Z.heap.size ≤ o403_0 := Nat.le_trans (old_le O11) lq_o403_0
          obtain ⟨h403, e403⟩ : ∃ z, T403.heap = z := ⟨_, rfl⟩
          rw [e403] at Kq403 u403_0 u403_1 u403_2 u403_3
          have N403 := Fr.app N11 Nq403
          have O403 := (O11).keep Kq403 (allS ge_o10 all0)
          have F403 := OwnF.ext O403.2 FZ
          show Go p e below _ (T403.setTop (mkF m 127 #[.val (.int i0), .val (.int i1), .val (.int i2), .val (.int i3), .val (.int i4), .val (.int i5), .val (.int (2 : Int32)), .val (.int (i1 &&& (3 : Int32))), .val (.ref o1), .val (.ref o3), .val (.ref o6), .val (.ref o10), .unset, .unset] [(.int (1 : Int32))]))
          refine s_pop B X403 (pc' := 128) at_127 rfl rfl ?_
          refine s_iload B X403 (pc' := 130) at_128 rfl rfl ?_
          refine s_iconst B X403 (pc' := 131) (v := (2 : Int32)) at_130 rfl rfl ?_
          refine s_icmpN B X403 (pc' := 134) at_131 (by decide) rfl ?_
          refine s_aload B X403 (pc' := 136) at_134 rfl rfl rfl ?_
          refine s_aload B X403 (pc' := 138) at_136 rfl rfl rfl ?_
          have f406 := (f401.keep Kq403)
          have f407 := (f404.keep Kq403)
          have f408 := (f402.keep Kq403)
          refine c_virtual B X403 (y := mn15) (pc' := 141) (argsL := [(.ref o3)]) (under := []) (W := 0) e403 (tw33 hw) (tw34 hw) (tw36 hw) (tw35 hw) (tw37 hw) (tw2 hw) (by decide) (mm6_38 l Z a0 hw o10 o3 o403_0 o1 kq_o403_0 w_D h403 FZ O403 ge_o10 f406 u403_1 u403_2 u403_3 ge_o3 f407 ge_o403_0 u403_0 ovu403_0 ge_o1 f408 (Ne.symm ne_o3_o10) ne_o10_o403_0 (Ne.symm ne_o1_o10) ne_o3_o403_0 (Ne.symm ne_o1_o3) (Ne.symm ne_o1_o403_0) ) f406 (lenOf pd_9 rfl) rfl rfl (by decide) (by decide) (by decide) (by decide) rfl at_138 rfl (fun v409 T409 L409 X409 hQ409 => ?_)
          obtain ⟨rfl, Nq409, Kq409, u409_0, u409_1, u409_2, u409_3⟩ := hQ409
          obtain ⟨h409, e409⟩ : ∃ z, T409.heap = z := ⟨_, rfl⟩
          rw [e409] at Kq409 u409_0 u409_1 u409_2 u409_3
          have N409 := Fr.app N403 Nq409
          have O409 := (O403).keep Kq409 (allS ge_o10 (allS ge_o403_0 all0))
          have F409 := OwnF.ext O409.2 FZ
          show Go p e below _ (T409.setTop (mkF m 141 #[.val (.int i0), .val (.int i1), .val (.int i2), .val (.int i3), .val (.int i4), .val (.int i5), .val (.int (2 : Int32)), .val (.int (i1 &&& (3 : Int32))), .val (.ref o1), .val (.ref o3), .val (.ref o6), .val (.ref o10), .unset, .unset] [(.int (1 : Int32))]))
          refine s_pop B X409 (pc' := 142) at_141 rfl rfl ?_
          refine s_iload B X409 (pc' := 144) at_142 rfl rfl ?_
          refine s_iconst B X409 (pc' := 145) (v := (3 : Int32)) at_144 rfl rfl ?_
          refine s_icmpY B X409 (pc' := 156) at_145 (by decide) (by decide) (by decide) ?_
          refine s_new B X409 (pc' := 159) (n0 := 3) e409 (tw0 hw) (tw1 hw) (tw2 hw) (by decide) (by decide) at_156 rfl (fun T410 h410 o410 g410 X410 e410 E410 A410 D410 => ?_)
          have f411 := (f408.keep Kq409)
          have ne_o1_o410 : o1 ≠ o410 := Nat.ne_of_lt (g410 ▸ f411.lt)
          have f412 := (f407.keep Kq409)
          have ne_o3_o410 : o3 ≠ o410 := Nat.ne_of_lt (g410 ▸ f412.lt)
          have f413 := ((f405.keep Kq403).keep Kq409)
          have ne_o6_o410 : o6 ≠ o410 := Nat.ne_of_lt (g410 ▸ f413.lt)
          have f414 := (f406.keep Kq409)
          have ne_o10_o410 : o10 ≠ o410 := Nat.ne_of_lt (g410 ▸ f414.lt)
          have ne_o403_0_o410 : o403_0 ≠ o410 := Nat.ne_of_lt (g410 ▸ u409_3.lt)
          have ge_o410 : Z.heap.size ≤ o410 := g410 ▸ old_le O409
          have O410 := (O409).ext E410
          have F410 := OwnF.ext O410.2 FZ
          have D410_modCount : Fld Z h410 o410 "java/util/AbstractList" "modCount" "I" (.int (0 : Int32)) := D410 (Or.inl (tw22 hw)) (ty := .int) (by decide)
          have D410_elementData : Fld Z h410 o410 "java/util/ArrayList" "elementData" "[Ljava/lang/Object;" .null := D410 (Or.inl (tw25 hw)) (ty := (.array (.object "java/lang/Object"))) (by decide)
          have D410_size : Fld Z h410 o410 "java/util/ArrayList" "size" "I" (.int (0 : Int32)) := D410 (Or.inl (tw41 hw)) (ty := .int) (by decide)
          show Go p e below _ (T410.setTop (mkF m 159 #[.val (.int i0), .val (.int i1), .val (.int i2), .val (.int i3), .val (.int i4), .val (.int i5), .val (.int (2 : Int32)), .val (.int (i1 &&& (3 : Int32))), .val (.ref o1), .val (.ref o3), .val (.ref o6), .val (.ref o10), .unset, .unset] [(.ref o410)]))
          refine s_dup B X410 (pc' := 160) at_159 rfl rfl ?_
          refine c_init B X410 (y := mn5) (pc' := 163) (argsL := []) (under := [(.ref o410)]) (W := 1) e410 rfl (tw3 hw) (tw4 hw) (tw5 hw) (tw2 hw) (by decide) (mm1_3 l Z a0 hw o410 w_D h410 FZ O410 ge_o410 A410 D410_elementData D410_modCount D410_size ) (lenOf pd_0 rfl) rfl rfl (by decide) (by decide) (by decide) (by decide) rfl at_160 rfl (fun v415 T415 L415 X415 hQ415 => ?_)
          obtain ⟨rfl, Nq415, Kq415, u415_0, u415_1, u415_2⟩ := hQ415
          obtain ⟨h415, e415⟩ : ∃ z, T415.heap = z := ⟨_, rfl⟩
          rw [e415] at Kq415 u415_0 u415_1 u415_2
          have N415 := Fr.app N409 Nq415
          have O415 := (O410).keep Kq415 (allS ge_o410 all0)
          have F415 := OwnF.ext O415.2 FZ
          show Go p e below _ (T415.setTop (mkF m 163 #[.val (.int i0), .val (.int i1), .val (.int i2), .val (.int i3), .val (.int i4), .val (.int i5), .val (.int (2 : Int32)), .val (.int (i1 &&& (3 : Int32))), .val (.ref o1), .val (.ref o3), .val (.ref o6), .val (.ref o10), .unset, .unset] [(.ref o410)]))
          refine s_astore B X415 (pc' := 165) (Ls' := #[.val (.int i0), .val (.int i1), .val (.int i2), .val (.int i3), .val (.int i4), .val (.int i5), .val (.int (2 : Int32)), .val (.int (i1 &&& (3 : Int32))), .val (.ref o1), .val (.ref o3), .val (.ref o6), .val (.ref o10), .val (.ref o410), .unset]) at_163 rfl rfl rfl ?_
          rcases own_and3 i1 with hv416 | hv416 | hv416 | hv416
          · rw [hv416]
            show Go p e below _ (T415.setTop (mkF m 165 #[.val (.int i0), .val (.int i1), .val (.int i2), .val (.int i3), .val (.int i4), .val (.int i5), .val (.int (2 : Int32)), .val (.int (0 : Int32)), .val (.ref o1), .val (.ref o3), .val (.ref o6), .val (.ref o10), .val (.ref o410), .unset] []))
            refine s_iload B X415 (pc' := 167) at_165 rfl rfl ?_
            refine s_iconst B X415 (pc' := 168) (v := (1 : Int32)) at_167 rfl rfl ?_
            refine s_icmpY B X415 (pc' := 181) at_168 (by decide) (by decide) (by decide) ?_
            refine s_iload B X415 (pc' := 183) at_181 rfl rfl ?_
            refine s_iconst B X415 (pc' := 184) (v := (2 : Int32)) at_183 rfl rfl ?_
            refine s_icmpY B X415 (pc' := 198) at_184 (by decide) (by decide) (by decide) ?_
            refine s_iload B X415 (pc' := 200) at_198 rfl rfl ?_
            refine s_iconst B X415 (pc' := 201) (v := (3 : Int32)) at_200 rfl rfl ?_
            refine s_icmpY B X415 (pc' := 214) at_201 (by decide) (by decide) (by decide) ?_
            refine s_iload B X415 (pc' := 216) at_214 rfl rfl ?_
            refine s_ifY B X415 (pc' := 228) at_216 (by decide) (by decide) (by decide) ?_
            refine s_iconst B X415 (pc' := 229) (v := (0 : Int32)) at_228 rfl rfl ?_
            refine s_istore B X415 (pc' := 231) (Ls' := #[.val (.int i0), .val (.int i1), .val (.int i2), .val (.int i3), .val (.int i4), .val (.int i5), .val (.int (2 : Int32)), .val (.int (0 : Int32)), .val (.ref o1), .val (.ref o3), .val (.ref o6), .val (.ref o10), .val (.ref o410), .val (.int (0 : Int32))]) at_229 rfl rfl ?_
            refine s_new B X415 (pc' := 234) (n0 := 2) e415 (tw64 hw) (tw65 hw) (tw66 hw) (by decide) (by decide) at_231 rfl (fun T417 h417 o417 g417 X417 e417 E417 A417 D417 => ?_)
            have f418 := ((f411.ext E410).keep Kq415)
            have ne_o1_o417 : o1 ≠ o417 := Nat.ne_of_lt (g417 ▸ f418.lt)
            have f419 := ((f412.ext E410).keep Kq415)
            have ne_o3_o417 : o3 ≠ o417 := Nat.ne_of_lt (g417 ▸ f419.lt)
            have f420 := ((f413.ext E410).keep Kq415)
            have ne_o6_o417 : o6 ≠ o417 := Nat.ne_of_lt (g417 ▸ f420.lt)
            have f421 := ((f414.ext E410).keep Kq415)
            have ne_o10_o417 : o10 ≠ o417 := Nat.ne_of_lt (g417 ▸ f421.lt)
            have f422 := ((u409_3.ext E410).keep Kq415 (ninS ne_o403_0_o410 nin0))
            have ne_o403_0_o417 : o403_0 ≠ o417 := Nat.ne_of_lt (g417 ▸ f422.lt)
            have f423 := (A410.keep Kq415)
            have ne_o410_o417 : o410 ≠ o417 := Nat.ne_of_lt (g417 ▸ f423.lt)
            have ge_o417 : Z.heap.size ≤ o417 := g417 ▸ old_le O415
            have O417 := (O415).ext E417
            have F417 := OwnF.ext O417.2 FZ
            have D417_each : Fld Z h417 o417 "com/example/lichen/lichen/solver/TermSubsumption$Ways" "each" "Ljava/util/List;" .null := D417 (Or.inr (tw77 hw)) (ty := (.object "java/util/List")) (by decide)
            have D417_producers : Fld Z h417 o417 "com/example/lichen/lichen/solver/TermSubsumption$Ways" "producers" "Ljava/util/List;" .null := D417 (Or.inr (tw79 hw)) (ty := (.object "java/util/List")) (by decide)
            show Go p e below _ (T417.setTop (mkF m 234 #[.val (.int i0), .val (.int i1), .val (.int i2), .val (.int i3), .val (.int i4), .val (.int i5), .val (.int (2 : Int32)), .val (.int (0 : Int32)), .val (.ref o1), .val (.ref o3), .val (.ref o6), .val (.ref o10), .val (.ref o410), .val (.int (0 : Int32))] [(.ref o417)]))
            refine s_dup B X417 (pc' := 235) at_234 rfl rfl ?_
            refine s_aload B X417 (pc' := 237) at_235 rfl rfl rfl ?_
            refine s_aload B X417 (pc' := 239) at_237 rfl rfl rfl ?_
            have f424 := (f421.ext E417)
            have f425 := (((u409_0.ext E410).keep Kq415 (ninS ne_o10_o410 nin0)).ext E417)
            have f426 := (((u409_1.ext E410).keep Kq415 (ninS ne_o10_o410 nin0)).ext E417)
            have f427 := (((u409_2.ext E410).keep Kq415 (ninS ne_o10_o410 nin0)).ext E417)
            have f428 := (f423.ext E417)
            have f429 := (u415_0.ext E417)
            have f430 := (u415_1.ext E417)
            have f431 := (u415_2.ext E417)
            have f432 := (f422.ext E417)
            have f433 := (f418.ext E417)
            have f434 := (f419.ext E417)
            refine c_init B X417 (y := mn7) (pc' := 242) (argsL := [(.ref o10), (.ref o410)]) (under := [(.ref o417)]) (W := 1) e417 rfl (tw67 hw) (tw68 hw) (tw69 hw) (tw66 hw) (by decide) (mm11_40 l Z a0 hw o417 o10 o410 o403_0 o1 o3 kq_o403_0 w_D h417 FZ O417 ge_o417 A417 D417_each D417_producers ge_o10 f424 f425 f426 f427 ge_o410 f428 f429 f430 f431 ge_o403_0 f432 ovu403_0 ge_o1 f433 ge_o3 f434 (Ne.symm ne_o10_o417) (Ne.symm ne_o410_o417) (Ne.symm ne_o403_0_o417) (Ne.symm ne_o1_o417) (Ne.symm ne_o3_o417) ne_o10_o410 ne_o10_o403_0 (Ne.symm ne_o1_o10) (Ne.symm ne_o3_o10) (Ne.symm ne_o403_0_o410) (Ne.symm ne_o1_o410) (Ne.symm ne_o3_o410) (Ne.symm ne_o1_o403_0) (Ne.symm ne_o3_o403_0) ne_o1_o3 ) (lenOf pd_2 rfl) rfl rfl (by decide) (by decide) (by decide) (by decide) rfl at_239 rfl (fun v435 T435 L435 X435 hQ435 => ?_)
            obtain ⟨rfl, Nq435, Kq435, u435_0, u435_1⟩ := hQ435
            obtain ⟨h435, e435⟩ : ∃ z, T435.heap = z := ⟨_, rfl⟩
            rw [e435] at Kq435 u435_0 u435_1
            have N435 := Fr.app N415 Nq435
            have O435 := (O417).keep Kq435 (allS ge_o417 all0)
            have F435 := OwnF.ext O435.2 FZ
            show Go p e below _ (T435.setTop (mkF m 242 #[.val (.int i0), .val (.int i1), .val (.int i2), .val (.int i3), .val (.int i4), .val (.int i5), .val (.int (2 : Int32)), .val (.int (0 : Int32)), .val (.ref o1), .val (.ref o3), .val (.ref o6), .val (.ref o10), .val (.ref o410), .val (.int (0 : Int32))] [(.ref o417)]))
            have f436 := (A417.keep Kq435)
            have f437 := (f424.keep Kq435)
            have f438 := (f425.keep Kq435 (ninS ne_o10_o417 nin0))
            have f439 := (f426.keep Kq435 (ninS ne_o10_o417 nin0))
            have f440 := (f427.keep Kq435 (ninS ne_o10_o417 nin0))
            have f441 := (f428.keep Kq435)
            have f442 := (f429.keep Kq435 (ninS ne_o410_o417 nin0))
            have f443 := (f430.keep Kq435 (ninS ne_o410_o417 nin0))
            have f444 := (f431.keep Kq435 (ninS ne_o410_o417 nin0))
            have f445 := (f432.keep Kq435 (ninS ne_o403_0_o417 nin0))
            have f446 := (f433.keep Kq435)
            have f447 := (f434.keep Kq435)
            refine p_virtual B X435 (y := mn10) (pc' := 245) (argsL := []) (under := []) (W := 0) e435 (tw80 hw) (tw81 hw) (tw83 hw) (tw82 hw) (tw84 hw) (tw66 hw) (by decide) (mm13_41 l Z a0 hw o417 o10 o410 o403_0 o1 o3 kq_o403_0 w_D h435 FZ O435 ge_o417 f436 u435_0 u435_1 ge_o10 f437 f438 f439 f440 ge_o410 f441 f442 f443 f444 ge_o403_0 f445 ovu403_0 ge_o1 f446 ge_o3 f447 (Ne.symm ne_o10_o417) (Ne.symm ne_o410_o417) (Ne.symm ne_o403_0_o417) (Ne.symm ne_o1_o417) (Ne.symm ne_o3_o417) ne_o10_o410 ne_o10_o403_0 (Ne.symm ne_o1_o10) (Ne.symm ne_o3_o10) (Ne.symm ne_o403_0_o410) (Ne.symm ne_o1_o410) (Ne.symm ne_o3_o410) (Ne.symm ne_o1_o403_0) (Ne.symm ne_o3_o403_0) ne_o1_o3 ) f436 (lenOf pd_3 rfl) rfl rfl (by decide) (by decide) rfl rfl (by decide) (by decide) rfl at_242 rfl (fun T448 X448 e448 => ?_)
            show Go p e below _ (T448.setTop (mkF m 245 #[.val (.int i0), .val (.int i1), .val (.int i2), .val (.int i3), .val (.int i4), .val (.int i5), .val (.int (2 : Int32)), .val (.int (0 : Int32)), .val (.ref o1), .val (.ref o3), .val (.ref o6), .val (.ref o10), .val (.ref o410), .val (.int (0 : Int32))] [(.int (0 : Int32))]))
            refine s_iload B X448 (pc' := 247) at_245 rfl rfl ?_
            refine s_icmpN B X448 (pc' := 250) at_247 (by decide) rfl ?_
            refine s_iconst B X448 (pc' := 251) (v := (1 : Int32)) at_250 rfl rfl ?_
            refine s_goto B X448 (pc' := 255) at_251 (by decide) (by decide) ?_
            exact r_nar B X448 (t := .boolean) (by simp) rfl at_255 ⟨rfl, N435⟩ (by decide) (by decide)
          · rw [hv416]
            show Go p e below _ (T415.setTop (mkF m 165 #[.val (.int i0), .val (.int i1), .val (.int i2), .val (.int i3), .val (.int i4), .val (.int i5), .val (.int (2 : Int32)), .val (.int (1 : Int32)), .val (.ref o1), .val (.ref o3), .val (.ref o6), .val (.ref o10), .val (.ref o410), .unset] []))
            refine s_iload B X415 (pc' := 167) at_165 rfl rfl ?_
            refine s_iconst B X415 (pc' := 168) (v := (1 : Int32)) at_167 rfl rfl ?_
            refine s_icmpN B X415 (pc' := 171) at_168 (by decide) rfl ?_
            refine s_aload B X415 (pc' := 173) at_171 rfl rfl rfl ?_
            refine s_iloadN B X415 (pc' := 174) at_173 rfl rfl ?_
            refine c_static B X415 (y := mn2) (pc' := 177) (argsL := [(.int i2)]) (under := [(.ref o410)]) (W := 1) e415 (tw26 hw) (tw27 hw) (tw29 hw) (tw28 hw) (by decide) (rm_valueOf l Z a0 hw i2 w_D h415 FZ O415) (lenOf pd_4 rfl) rfl rfl (by decide) (by decide) (by decide) (by decide) rfl at_174 rfl (fun v449 T449 L449 X449 hQ => ?_)
            obtain ⟨qL449, rfl, Nq449, Kq449, EL449⟩ := hQ
            obtain ⟨h449, e449⟩ : ∃ z, T449.heap = z := ⟨_, rfl⟩
            rw [e449] at Kq449 EL449
            have N449 := Fr.app N415 Nq449
            have O449 := (O415).keep Kq449 all0
            have F449 := OwnF.ext O449.2 FZ
            show Go p e below _ (T449.setTop (mkF m 177 #[.val (.int i0), .val (.int i1), .val (.int i2), .val (.int i3), .val (.int i4), .val (.int i5), .val (.int (2 : Int32)), .val (.int (1 : Int32)), .val (.ref o1), .val (.ref o3), .val (.ref o6), .val (.ref o10), .val (.ref o410), .unset] [(.ref qL449), (.ref o410)]))
            have f450 := ((A410.keep Kq415).keep Kq449)
            have f451 := (u415_0.keep Kq449 nin0)
            have f452 := (u415_1.keep Kq449 nin0)
            have f453 := (u415_2.keep Kq449 nin0)
            refine c_virtual B X449 (y := mn15) (pc' := 180) (argsL := [(.ref qL449)]) (under := []) (W := 0) e449 (tw33 hw) (tw34 hw) (tw36 hw) (tw35 hw) (tw37 hw) (tw2 hw) (by decide) (mm6_10 l Z a0 hw o410 qL449 w_D h449 FZ O449 ge_o410 f450 f451 f452 f453 EL449 ) f450 (lenOf pd_9 rfl) rfl rfl (by decide) (by decide) (by decide) (by decide) rfl at_177 rfl (fun v454 T454 L454 X454 hQ454 => ?_)
            obtain ⟨o454_0, kq_o454_0, rfl, Nq454, Kq454, lq_o454_0, u454_0, ovu454_0, u454_1, u454_2, u454_3⟩ := hQ454
            have f455 := (((f411.ext E410).keep Kq415).keep Kq449)
            have ne_o1_o454_0 : o1 ≠ o454_0 := Nat.ne_of_lt (Nat.lt_of_lt_of_le f455.lt lq_o454_0)
            have f456 := (((f412.ext E410).keep Kq415).keep Kq449)
            have ne_o3_o454_0 : o3 ≠ o454_0 := Nat.ne_of_lt (Nat.lt_of_lt_of_le f456.lt lq_o454_0)
            have f457 := (((f413.ext E410).keep Kq415).keep Kq449)
            have ne_o6_o454_0 : o6 ≠ o454_0 := Nat.ne_of_lt (Nat.lt_of_lt_of_le f457.lt lq_o454_0)
            have f458 := (((f414.ext E410).keep Kq415).keep Kq449)
            have ne_o10_o454_0 : o10 ≠ o454_0 := Nat.ne_of_lt (Nat.lt_of_lt_of_le f458.lt lq_o454_0)
            have f459 := (((u409_3.ext E410).keep Kq415 (ninS ne_o403_0_o410 nin0)).keep Kq449 nin0)
            have ne_o403_0_o454_0 : o403_0 ≠ o454_0 := Nat.ne_of_lt (Nat.lt_of_lt_of_le f459.lt lq_o454_0)
            have ne_o410_o454_0 : o410 ≠ o454_0 := Nat.ne_of_lt (Nat.lt_of_lt_of_le f450.lt lq_o454_0)
            have ge_o454_0 : Z.heap.size ≤ o454_0 := Nat.le_trans (old_le O449) lq_o454_0
            obtain ⟨h454, e454⟩ : ∃ z, T454.heap = z := ⟨_, rfl⟩
            rw [e454] at Kq454 u454_0 u454_1 u454_2 u454_3
            have N454 := Fr.app N449 Nq454
            have O454 := (O449).keep Kq454 (allS ge_o410 all0)
            have F454 := OwnF.ext O454.2 FZ
            show Go p e below _ (T454.setTop (mkF m 180 #[.val (.int i0), .val (.int i1), .val (.int i2), .val (.int i3), .val (.int i4), .val (.int i5), .val (.int (2 : Int32)), .val (.int (1 : Int32)), .val (.ref o1), .val (.ref o3), .val (.ref o6), .val (.ref o10), .val (.ref o410), .unset] [(.int (1 : Int32))]))
            refine s_pop B X454 (pc' := 181) at_180 rfl rfl ?_
            refine s_iload B X454 (pc' := 183) at_181 rfl rfl ?_
            refine s_iconst B X454 (pc' := 184) (v := (2 : Int32)) at_183 rfl rfl ?_
            refine s_icmpY B X454 (pc' := 198) at_184 (by decide) (by decide) (by decide) ?_
            refine s_iload B X454 (pc' := 200) at_198 rfl rfl ?_
            refine s_iconst B X454 (pc' := 201) (v := (3 : Int32)) at_200 rfl rfl ?_
            refine s_icmpY B X454 (pc' := 214) at_201 (by decide) (by decide) (by decide) ?_
            refine s_iload B X454 (pc' := 216) at_214 rfl rfl ?_
            refine s_ifY B X454 (pc' := 228) at_216 (by decide) (by decide) (by decide) ?_
            refine s_iconst B X454 (pc' := 229) (v := (0 : Int32)) at_228 rfl rfl ?_
            refine s_istore B X454 (pc' := 231) (Ls' := #[.val (.int i0), .val (.int i1), .val (.int i2), .val (.int i3), .val (.int i4), .val (.int i5), .val (.int (2 : Int32)), .val (.int (1 : Int32)), .val (.ref o1), .val (.ref o3), .val (.ref o6), .val (.ref o10), .val (.ref o410), .val (.int (0 : Int32))]) at_229 rfl rfl ?_
            refine s_new B X454 (pc' := 234) (n0 := 2) e454 (tw64 hw) (tw65 hw) (tw66 hw) (by decide) (by decide) at_231 rfl (fun T460 h460 o460 g460 X460 e460 E460 A460 D460 => ?_)
            have f461 := (f455.keep Kq454)
            have ne_o1_o460 : o1 ≠ o460 := Nat.ne_of_lt (g460 ▸ f461.lt)
            have f462 := (f456.keep Kq454)
            have ne_o3_o460 : o3 ≠ o460 := Nat.ne_of_lt (g460 ▸ f462.lt)
            have f463 := (f457.keep Kq454)
            have ne_o6_o460 : o6 ≠ o460 := Nat.ne_of_lt (g460 ▸ f463.lt)
            have f464 := (f458.keep Kq454)
            have ne_o10_o460 : o10 ≠ o460 := Nat.ne_of_lt (g460 ▸ f464.lt)
            have f465 := (f459.keep Kq454 (ninS ne_o403_0_o410 nin0))
            have ne_o403_0_o460 : o403_0 ≠ o460 := Nat.ne_of_lt (g460 ▸ f465.lt)
            have f466 := (f450.keep Kq454)
            have ne_o410_o460 : o410 ≠ o460 := Nat.ne_of_lt (g460 ▸ f466.lt)
            have ne_o454_0_o460 : o454_0 ≠ o460 := Nat.ne_of_lt (g460 ▸ u454_0.lt)
            have ge_o460 : Z.heap.size ≤ o460 := g460 ▸ old_le O454
            have O460 := (O454).ext E460
            have F460 := OwnF.ext O460.2 FZ
            have D460_each : Fld Z h460 o460 "com/example/lichen/lichen/solver/TermSubsumption$Ways" "each" "Ljava/util/List;" .null := D460 (Or.inr (tw77 hw)) (ty := (.object "java/util/List")) (by decide)
            have D460_producers : Fld Z h460 o460 "com/example/lichen/lichen/solver/TermSubsumption$Ways" "producers" "Ljava/util/List;" .null := D460 (Or.inr (tw79 hw)) (ty := (.object "java/util/List")) (by decide)
            show Go p e below _ (T460.setTop (mkF m 234 #[.val (.int i0), .val (.int i1), .val (.int i2), .val (.int i3), .val (.int i4), .val (.int i5), .val (.int (2 : Int32)), .val (.int (1 : Int32)), .val (.ref o1), .val (.ref o3), .val (.ref o6), .val (.ref o10), .val (.ref o410), .val (.int (0 : Int32))] [(.ref o460)]))
            refine s_dup B X460 (pc' := 235) at_234 rfl rfl ?_
            refine s_aload B X460 (pc' := 237) at_235 rfl rfl rfl ?_
            refine s_aload B X460 (pc' := 239) at_237 rfl rfl rfl ?_
            have f467 := (f464.ext E460)
            have f468 := (((((u409_0.ext E410).keep Kq415 (ninS ne_o10_o410 nin0)).keep Kq449 nin0).keep Kq454 (ninS ne_o10_o410 nin0)).ext E460)
            have f469 := (((((u409_1.ext E410).keep Kq415 (ninS ne_o10_o410 nin0)).keep Kq449 nin0).keep Kq454 (ninS ne_o10_o410 nin0)).ext E460)
            have f470 := (((((u409_2.ext E410).keep Kq415 (ninS ne_o10_o410 nin0)).keep Kq449 nin0).keep Kq454 (ninS ne_o10_o410 nin0)).ext E460)
            have f471 := (f466.ext E460)
            have f472 := (u454_1.ext E460)
            have f473 := (u454_2.ext E460)
            have f474 := (u454_3.ext E460)
            have f475 := (f465.ext E460)
            have f476 := (u454_0.ext E460)
            have f477 := (f461.ext E460)
            have f478 := (f462.ext E460)
            have f479 := ((EL449.keep Kq454).ext E460)
            refine c_init B X460 (y := mn7) (pc' := 242) (argsL := [(.ref o10), (.ref o410)]) (under := [(.ref o460)]) (W := 1) e460 rfl (tw67 hw) (tw68 hw) (tw69 hw) (tw66 hw) (by decide) (mm11_43 l Z a0 hw o460 o10 o410 o403_0 o454_0 o1 o3 qL449 kq_o403_0 kq_o454_0 w_D h460 FZ O460 ge_o460 A460 D460_each D460_producers ge_o10 f467 f468 f469 f470 ge_o410 f471 f472 f473 f474 ge_o403_0 f475 ovu403_0 ge_o454_0 f476 ovu454_0 ge_o1 f477 ge_o3 f478 f479 (Ne.symm ne_o10_o460) (Ne.symm ne_o410_o460) (Ne.symm ne_o403_0_o460) (Ne.symm ne_o454_0_o460) (Ne.symm ne_o1_o460) (Ne.symm ne_o3_o460) ne_o10_o410 ne_o10_o403_0 ne_o10_o454_0 (Ne.symm ne_o1_o10) (Ne.symm ne_o3_o10) (Ne.symm ne_o403_0_o410) ne_o410_o454_0 (Ne.symm ne_o1_o410) (Ne.symm ne_o3_o410) ne_o403_0_o454_0 (Ne.symm ne_o1_o403_0) (Ne.symm ne_o3_o403_0) (Ne.symm ne_o1_o454_0) (Ne.symm ne_o3_o454_0) ne_o1_o3 ) (lenOf pd_2 rfl) rfl rfl (by decide) (by decide) (by decide) (by decide) rfl at_239 rfl (fun v480 T480 L480 X480 hQ480 => ?_)
            obtain ⟨rfl, Nq480, Kq480, u480_0, u480_1⟩ := hQ480
            obtain ⟨h480, e480⟩ : ∃ z, T480.heap = z := ⟨_, rfl⟩
            rw [e480] at Kq480 u480_0 u480_1
            have N480 := Fr.app N454 Nq480
            have O480 := (O460).keep Kq480 (allS ge_o460 all0)
            have F480 := OwnF.ext O480.2 FZ
            show Go p e below _ (T480.setTop (mkF m 242 #[.val (.int i0), .val (.int i1), .val (.int i2), .val (.int i3), .val (.int i4), .val (.int i5), .val (.int (2 : Int32)), .val (.int (1 : Int32)), .val (.ref o1), .val (.ref o3), .val (.ref o6), .val (.ref o10), .val (.ref o410), .val (.int (0 : Int32))] [(.ref o460)]))
            have f481 := (A460.keep Kq480)
            have f482 := (f467.keep Kq480)
            have f483 := (f468.keep Kq480 (ninS ne_o10_o460 nin0))
            have f484 := (f469.keep Kq480 (ninS ne_o10_o460 nin0))
            have f485 := (f470.keep Kq480 (ninS ne_o10_o460 nin0))
            have f486 := (f471.keep Kq480)
            have f487 := (f472.keep Kq480 (ninS ne_o410_o460 nin0))
            have f488 := (f473.keep Kq480 (ninS ne_o410_o460 nin0))
            have f489 := (f474.keep Kq480 (ninS ne_o410_o460 nin0))
            have f490 := (f475.keep Kq480 (ninS ne_o403_0_o460 nin0))
            have f491 := (f476.keep Kq480 (ninS ne_o454_0_o460 nin0))
            have f492 := (f477.keep Kq480)
            have f493 := (f478.keep Kq480)
            have f494 := (f479.keep Kq480)
            refine p_virtual B X480 (y := mn10) (pc' := 245) (argsL := []) (under := []) (W := 0) e480 (tw80 hw) (tw81 hw) (tw83 hw) (tw82 hw) (tw84 hw) (tw66 hw) (by decide) (mm13_44 l Z a0 hw o460 o10 o410 o403_0 o454_0 o1 o3 qL449 kq_o403_0 kq_o454_0 w_D h480 FZ O480 ge_o460 f481 u480_0 u480_1 ge_o10 f482 f483 f484 f485 ge_o410 f486 f487 f488 f489 ge_o403_0 f490 ovu403_0 ge_o454_0 f491 ovu454_0 ge_o1 f492 ge_o3 f493 f494 (Ne.symm ne_o10_o460) (Ne.symm ne_o410_o460) (Ne.symm ne_o403_0_o460) (Ne.symm ne_o454_0_o460) (Ne.symm ne_o1_o460) (Ne.symm ne_o3_o460) ne_o10_o410 ne_o10_o403_0 ne_o10_o454_0 (Ne.symm ne_o1_o10) (Ne.symm ne_o3_o10) (Ne.symm ne_o403_0_o410) ne_o410_o454_0 (Ne.symm ne_o1_o410) (Ne.symm ne_o3_o410) ne_o403_0_o454_0 (Ne.symm ne_o1_o403_0) (Ne.symm ne_o3_o403_0) (Ne.symm ne_o1_o454_0) (Ne.symm ne_o3_o454_0) ne_o1_o3 ) f481 (lenOf pd_3 rfl) rfl rfl (by decide) (by decide) rfl rfl (by decide) (by decide) rfl at_242 rfl (fun T495 X495 e495 => ?_)
            show Go p e below _ (T495.setTop (mkF m 245 #[.val (.int i0), .val (.int i1), .val (.int i2), .val (.int i3), .val (.int i4), .val (.int i5), .val (.int (2 : Int32)), .val (.int (1 : Int32)), .val (.ref o1), .val (.ref o3), .val (.ref o6), .val (.ref o10), .val (.ref o410), .val (.int (0 : Int32))] [(.int (0 : Int32))]))
            refine s_iload B X495 (pc' := 247) at_245 rfl rfl ?_
            refine s_icmpN B X495 (pc' := 250) at_247 (by decide) rfl ?_
            refine s_iconst B X495 (pc' := 251) (v := (1 : Int32)) at_250 rfl rfl ?_
            refine s_goto B X495 (pc' := 255) at_251 (by decide) (by decide) ?_
            exact r_nar B X495 (t := .boolean) (by simp) rfl at_255 ⟨rfl, N480⟩ (by decide) (by decide)
          · rw [hv416]
            show Go p e below _ (T415.setTop (mkF m 165 #[.val (.int i0), .val (.int i1), .val (.int i2), .val (.int i3), .val (.int i4), .val (.int i5), .val (.int (2 : Int32)), .val (.int (2 : Int32)), .val (.ref o1), .val (.ref o3), .val (.ref o6), .val (.ref o10), .val (.ref o410), .unset] []))
            refine s_iload B X415 (pc' := 167) at_165 rfl rfl ?_
            refine s_iconst B X415 (pc' := 168) (v := (1 : Int32)) at_167 rfl rfl ?_
            refine s_icmpN B X415 (pc' := 171) at_168 (by decide) rfl ?_
            refine s_aload B X415 (pc' := 173) at_171 rfl rfl rfl ?_
            refine s_iloadN B X415 (pc' := 174) at_173 rfl rfl ?_
            refine c_static B X415 (y := mn2) (pc' := 177) (argsL := [(.int i2)]) (under := [(.ref o410)]) (W := 1) e415 (tw26 hw) (tw27 hw) (tw29 hw) (tw28 hw) (by decide) (rm_valueOf l Z a0 hw i2 w_D h415 FZ O415) (lenOf pd_4 rfl) rfl rfl (by decide) (by decide) (by decide) (by decide) rfl at_174 rfl (fun v496 T496 L496 X496 hQ => ?_)
            obtain ⟨qL496, rfl, Nq496, Kq496, EL496⟩ := hQ
            obtain ⟨h496, e496⟩ : ∃ z, T496.heap = z := ⟨_, rfl⟩
            rw [e496] at Kq496 EL496
            have N496 := Fr.app N415 Nq496
            have O496 := (O415).keep Kq496 all0
            have F496 := OwnF.ext O496.2 FZ
            show Go p e below _ (T496.setTop (mkF m 177 #[.val (.int i0), .val (.int i1), .val (.int i2), .val (.int i3), .val (.int i4), .val (.int i5), .val (.int (2 : Int32)), .val (.int (2 : Int32)), .val (.ref o1), .val (.ref o3), .val (.ref o6), .val (.ref o10), .val (.ref o410), .unset] [(.ref qL496), (.ref o410)]))
            have f497 := ((A410.keep Kq415).keep Kq496)
            have f498 := (u415_0.keep Kq496 nin0)
            have f499 := (u415_1.keep Kq496 nin0)
            have f500 := (u415_2.keep Kq496 nin0)
            refine c_virtual B X496 (y := mn15) (pc' := 180) (argsL := [(.ref qL496)]) (under := []) (W := 0) e496 (tw33 hw) (tw34 hw) (tw36 hw) (tw35 hw) (tw37 hw) (tw2 hw) (by decide) (mm6_10 l Z a0 hw o410 qL496 w_D h496 FZ O496 ge_o410 f497 f498 f499 f500 EL496 ) f497 (lenOf pd_9 rfl) rfl rfl (by decide) (by decide) (by decide) (by decide) rfl at_177 rfl (fun v501 T501 L501 X501 hQ501 => ?_)
            obtain ⟨o501_0, kq_o501_0, rfl, Nq501, Kq501, lq_o501_0, u501_0, ovu501_0, u501_1, u501_2, u501_3⟩ := hQ501
            have f502 := (((f411.ext E410).keep Kq415).keep Kq496)
            have ne_o1_o501_0 : o1 ≠ o501_0 := Nat.ne_of_lt (Nat.lt_of_lt_of_le f502.lt lq_o501_0)
            have f503 := (((f412.ext E410).keep Kq415).keep Kq496)
            have ne_o3_o501_0 : o3 ≠ o501_0 := Nat.ne_of_lt (Nat.lt_of_lt_of_le f503.lt lq_o501_0)
            have f504 := (((f413.ext E410).keep Kq415).keep Kq496)
            have ne_o6_o501_0 : o6 ≠ o501_0 := Nat.ne_of_lt (Nat.lt_of_lt_of_le f504.lt lq_o501_0)
            have f505 := (((f414.ext E410).keep Kq415).keep Kq496)
            have ne_o10_o501_0 : o10 ≠ o501_0 := Nat.ne_of_lt (Nat.lt_of_lt_of_le f505.lt lq_o501_0)
            have f506 := (((u409_3.ext E410).keep Kq415 (ninS ne_o403_0_o410 nin0)).keep Kq496 nin0)
            have ne_o403_0_o501_0 : o403_0 ≠ o501_0 := Nat.ne_of_lt (Nat.lt_of_lt_of_le f506.lt lq_o501_0)
            have ne_o410_o501_0 : o410 ≠ o501_0 := Nat.ne_of_lt (Nat.lt_of_lt_of_le f497.lt lq_o501_0)
            have ge_o501_0 : Z.heap.size ≤ o501_0 := Nat.le_trans (old_le O496) lq_o501_0
            obtain ⟨h501, e501⟩ : ∃ z, T501.heap = z := ⟨_, rfl⟩
            rw [e501] at Kq501 u501_0 u501_1 u501_2 u501_3
            have N501 := Fr.app N496 Nq501
            have O501 := (O496).keep Kq501 (allS ge_o410 all0)
            have F501 := OwnF.ext O501.2 FZ
            show Go p e below _ (T501.setTop (mkF m 180 #[.val (.int i0), .val (.int i1), .val (.int i2), .val (.int i3), .val (.int i4), .val (.int i5), .val (.int (2 : Int32)), .val (.int (2 : Int32)), .val (.ref o1), .val (.ref o3), .val (.ref o6), .val (.ref o10), .val (.ref o410), .unset] [(.int (1 : Int32))]))
            refine s_pop B X501 (pc' := 181) at_180 rfl rfl ?_
            refine s_iload B X501 (pc' := 183) at_181 rfl rfl ?_
            refine s_iconst B X501 (pc' := 184) (v := (2 : Int32)) at_183 rfl rfl ?_
            refine s_icmpN B X501 (pc' := 187) at_184 (by decide) rfl ?_
            refine s_aload B X501 (pc' := 189) at_187 rfl rfl rfl ?_
            refine s_iload B X501 (pc' := 191) at_189 rfl rfl ?_
            refine c_static B X501 (y := mn2) (pc' := 194) (argsL := [(.int i5)]) (under := [(.ref o410)]) (W := 1) e501 (tw26 hw) (tw27 hw) (tw29 hw) (tw28 hw) (by decide) (rm_valueOf l Z a0 hw i5 w_D h501 FZ O501) (lenOf pd_4 rfl) rfl rfl (by decide) (by decide) (by decide) (by decide) rfl at_191 rfl (fun v507 T507 L507 X507 hQ => ?_)
            obtain ⟨qL507, rfl, Nq507, Kq507, EL507⟩ := hQ
            obtain ⟨h507, e507⟩ : ∃ z, T507.heap = z := ⟨_, rfl⟩
            rw [e507] at Kq507 EL507
            have N507 := Fr.app N501 Nq507
            have O507 := (O501).keep Kq507 all0
            have F507 := OwnF.ext O507.2 FZ
            show Go p e below _ (T507.setTop (mkF m 194 #[.val (.int i0), .val (.int i1), .val (.int i2), .val (.int i3), .val (.int i4), .val (.int i5), .val (.int (2 : Int32)), .val (.int (2 : Int32)), .val (.ref o1), .val (.ref o3), .val (.ref o6), .val (.ref o10), .val (.ref o410), .unset] [(.ref qL507), (.ref o410)]))
            have f508 := ((f497.keep Kq501).keep Kq507)
            have f509 := (u501_1.keep Kq507 nin0)
            have f510 := (u501_2.keep Kq507 nin0)
            have f511 := (u501_3.keep Kq507 nin0)
            have f512 := (u501_0.keep Kq507 nin0)
            have f513 := ((EL496.keep Kq501).keep Kq507)
            refine c_virtual B X507 (y := mn15) (pc' := 197) (argsL := [(.ref qL507)]) (under := []) (W := 0) e507 (tw33 hw) (tw34 hw) (tw36 hw) (tw35 hw) (tw37 hw) (tw2 hw) (by decide) (mm6_17 l Z a0 hw o410 qL507 o501_0 qL496 kq_o501_0 w_D h507 FZ O507 ge_o410 f508 f509 f510 f511 EL507 ge_o501_0 f512 ovu501_0 f513 ne_o410_o501_0 ) f508 (lenOf pd_9 rfl) rfl rfl (by decide) (by decide) (by decide) (by decide) rfl at_194 rfl (fun v514 T514 L514 X514 hQ514 => ?_)
            obtain ⟨rfl, Nq514, Kq514, u514_0, u514_1, u514_2, u514_3⟩ := hQ514
            obtain ⟨h514, e514⟩ : ∃ z, T514.heap = z := ⟨_, rfl⟩
            rw [e514] at Kq514 u514_0 u514_1 u514_2 u514_3
            have N514 := Fr.app N507 Nq514
            have O514 := (O507).keep Kq514 (allS ge_o410 (allS ge_o501_0 all0))
            have F514 := OwnF.ext O514.2 FZ
            show Go p e below _ (T514.setTop (mkF m 197 #[.val (.int i0), .val (.int i1), .val (.int i2), .val (.int i3), .val (.int i4), .val (.int i5), .val (.int (2 : Int32)), .val (.int (2 : Int32)), .val (.ref o1), .val (.ref o3), .val (.ref o6), .val (.ref o10), .val (.ref o410), .unset] [(.int (1 : Int32))]))
            refine s_pop B X514 (pc' := 198) at_197 rfl rfl ?_
            refine s_iload B X514 (pc' := 200) at_198 rfl rfl ?_
            refine s_iconst B X514 (pc' := 201) (v := (3 : Int32)) at_200 rfl rfl ?_
            refine s_icmpY B X514 (pc' := 214) at_201 (by decide) (by decide) (by decide) ?_
            refine s_iload B X514 (pc' := 216) at_214 rfl rfl ?_
            refine s_ifY B X514 (pc' := 228) at_216 (by decide) (by decide) (by decide) ?_
            refine s_iconst B X514 (pc' := 229) (v := (0 : Int32)) at_228 rfl rfl ?_
            refine s_istore B X514 (pc' := 231) (Ls' := #[.val (.int i0), .val (.int i1), .val (.int i2), .val (.int i3), .val (.int i4), .val (.int i5), .val (.int (2 : Int32)), .val (.int (2 : Int32)), .val (.ref o1), .val (.ref o3), .val (.ref o6), .val (.ref o10), .val (.ref o410), .val (.int (0 : Int32))]) at_229 rfl rfl ?_
            refine s_new B X514 (pc' := 234) (n0 := 2) e514 (tw64 hw) (tw65 hw) (tw66 hw) (by decide) (by decide) at_231 rfl (fun T515 h515 o515 g515 X515 e515 E515 A515 D515 => ?_)
            have f516 := (((f502.keep Kq501).keep Kq507).keep Kq514)
            have ne_o1_o515 : o1 ≠ o515 := Nat.ne_of_lt (g515 ▸ f516.lt)
            have f517 := (((f503.keep Kq501).keep Kq507).keep Kq514)
            have ne_o3_o515 : o3 ≠ o515 := Nat.ne_of_lt (g515 ▸ f517.lt)
            have f518 := (((f504.keep Kq501).keep Kq507).keep Kq514)
            have ne_o6_o515 : o6 ≠ o515 := Nat.ne_of_lt (g515 ▸ f518.lt)
            have f519 := (((f505.keep Kq501).keep Kq507).keep Kq514)
            have ne_o10_o515 : o10 ≠ o515 := Nat.ne_of_lt (g515 ▸ f519.lt)
            have f520 := (((f506.keep Kq501 (ninS ne_o403_0_o410 nin0)).keep Kq507 nin0).keep Kq514 (ninS ne_o403_0_o410 (ninS ne_o403_0_o501_0 nin0)))
            have ne_o403_0_o515 : o403_0 ≠ o515 := Nat.ne_of_lt (g515 ▸ f520.lt)
            have f521 := (f508.keep Kq514)
            have ne_o410_o515 : o410 ≠ o515 := Nat.ne_of_lt (g515 ▸ f521.lt)
            have ne_o501_0_o515 : o501_0 ≠ o515 := Nat.ne_of_lt (g515 ▸ u514_3.lt)
            have ge_o515 : Z.heap.size ≤ o515 := g515 ▸ old_le O514
            have O515 := (O514).ext E515
            have F515 := OwnF.ext O515.2 FZ
            have D515_each : Fld Z h515 o515 "com/example/lichen/lichen/solver/TermSubsumption$Ways" "each" "Ljava/util/List;" .null := D515 (Or.inr (tw77 hw)) (ty := (.object "java/util/List")) (by decide)
            have D515_producers : Fld Z h515 o515 "com/example/lichen/lichen/solver/TermSubsumption$Ways" "producers" "Ljava/util/List;" .null := D515 (Or.inr (tw79 hw)) (ty := (.object "java/util/List")) (by decide)
            show Go p e below _ (T515.setTop (mkF m 234 #[.val (.int i0), .val (.int i1), .val (.int i2), .val (.int i3), .val (.int i4), .val (.int i5), .val (.int (2 : Int32)), .val (.int (2 : Int32)), .val (.ref o1), .val (.ref o3), .val (.ref o6), .val (.ref o10), .val (.ref o410), .val (.int (0 : Int32))] [(.ref o515)]))
            refine s_dup B X515 (pc' := 235) at_234 rfl rfl ?_
            refine s_aload B X515 (pc' := 237) at_235 rfl rfl rfl ?_
            refine s_aload B X515 (pc' := 239) at_237 rfl rfl rfl ?_
            have f522 := (f519.ext E515)
            have f523 := (((((((u409_0.ext E410).keep Kq415 (ninS ne_o10_o410 nin0)).keep Kq496 nin0).keep Kq501 (ninS ne_o10_o410 nin0)).keep Kq507 nin0).keep Kq514 (ninS ne_o10_o410 (ninS ne_o10_o501_0 nin0))).ext E515)
            have f524 := (((((((u409_1.ext E410).keep Kq415 (ninS ne_o10_o410 nin0)).keep Kq496 nin0).keep Kq501 (ninS ne_o10_o410 nin0)).keep Kq507 nin0).keep Kq514 (ninS ne_o10_o410 (ninS ne_o10_o501_0 nin0))).ext E515)
            have f525 := (((((((u409_2.ext E410).keep Kq415 (ninS ne_o10_o410 nin0)).keep Kq496 nin0).keep Kq501 (ninS ne_o10_o410 nin0)).keep Kq507 nin0).keep Kq514 (ninS ne_o10_o410 (ninS ne_o10_o501_0 nin0))).ext E515)
            have f526 := (f521.ext E515)
            have f527 := (u514_0.ext E515)
            have f528 := (u514_1.ext E515)
            have f529 := (u514_2.ext E515)
            have f530 := (f520.ext E515)
            have f531 := (u514_3.ext E515)
            have f532 := (f516.ext E515)
            have f533 := (f517.ext E515)
            have f534 := ((f513.keep Kq514).ext E515)
            have f535 := ((EL507.keep Kq514).ext E515)
            refine c_init B X515 (y := mn7) (pc' := 242) (argsL := [(.ref o10), (.ref o410)]) (under := [(.ref o515)]) (W := 1) e515 rfl (tw67 hw) (tw68 hw) (tw69 hw) (tw66 hw) (by decide) (mm11_45 l Z a0 hw o515 o10 o410 o403_0 o501_0 o1 o3 qL496 qL507 kq_o403_0 kq_o501_0 w_D h515 FZ O515 ge_o515 A515 D515_each D515_producers ge_o10 f522 f523 f524 f525 ge_o410 f526 f527 f528 f529 ge_o403_0 f530 ovu403_0 ge_o501_0 f531 ovu501_0 ge_o1 f532 ge_o3 f533 f534 f535 (Ne.symm ne_o10_o515) (Ne.symm ne_o410_o515) (Ne.symm ne_o403_0_o515) (Ne.symm ne_o501_0_o515) (Ne.symm ne_o1_o515) (Ne.symm ne_o3_o515) ne_o10_o410 ne_o10_o403_0 ne_o10_o501_0 (Ne.symm ne_o1_o10) (Ne.symm ne_o3_o10) (Ne.symm ne_o403_0_o410) ne_o410_o501_0 (Ne.symm ne_o1_o410) (Ne.symm ne_o3_o410) ne_o403_0_o501_0 (Ne.symm ne_o1_o403_0) (Ne.symm ne_o3_o403_0) (Ne.symm ne_o1_o501_0) (Ne.symm ne_o3_o501_0) ne_o1_o3 ) (lenOf pd_2 rfl) rfl rfl (by decide) (by decide) (by decide) (by decide) rfl at_239 rfl (fun v536 T536 L536 X536 hQ536 => ?_)
            obtain ⟨rfl, Nq536, Kq536, u536_0, u536_1⟩ := hQ536
            obtain ⟨h536, e536⟩ : ∃ z, T536.heap = z := ⟨_, rfl⟩
            rw [e536] at Kq536 u536_0 u536_1
            have N536 := Fr.app N514 Nq536
            have O536 := (O515).keep Kq536 (allS ge_o515 all0)
            have F536 := OwnF.ext O536.2 FZ
            show Go p e below _ (T536.setTop (mkF m 242 #[.val (.int i0), .val (.int i1), .val (.int i2), .val (.int i3), .val (.int i4), .val (.int i5), .val (.int (2 : Int32)), .val (.int (2 : Int32)), .val (.ref o1), .val (.ref o3), .val (.ref o6), .val (.ref o10), .val (.ref o410), .val (.int (0 : Int32))] [(.ref o515)]))
            have f537 := (A515.keep Kq536)
            have f538 := (f522.keep Kq536)
            have f539 := (f523.keep Kq536 (ninS ne_o10_o515 nin0))
            have f540 := (f524.keep Kq536 (ninS ne_o10_o515 nin0))
            have f541 := (f525.keep Kq536 (ninS ne_o10_o515 nin0))
            have f542 := (f526.keep Kq536)
            have f543 := (f527.keep Kq536 (ninS ne_o410_o515 nin0))
            have f544 := (f528.keep Kq536 (ninS ne_o410_o515 nin0))
            have f545 := (f529.keep Kq536 (ninS ne_o410_o515 nin0))
            have f546 := (f530.keep Kq536 (ninS ne_o403_0_o515 nin0))
            have f547 := (f531.keep Kq536 (ninS ne_o501_0_o515 nin0))
            have f548 := (f532.keep Kq536)
            have f549 := (f533.keep Kq536)
            have f550 := (f534.keep Kq536)
            have f551 := (f535.keep Kq536)
            refine p_virtual B X536 (y := mn10) (pc' := 245) (argsL := []) (under := []) (W := 0) e536 (tw80 hw) (tw81 hw) (tw83 hw) (tw82 hw) (tw84 hw) (tw66 hw) (by decide) (mm13_46 l Z a0 hw o515 o10 o410 o403_0 o501_0 o1 o3 qL496 qL507 kq_o403_0 kq_o501_0 w_D h536 FZ O536 ge_o515 f537 u536_0 u536_1 ge_o10 f538 f539 f540 f541 ge_o410 f542 f543 f544 f545 ge_o403_0 f546 ovu403_0 ge_o501_0 f547 ovu501_0 ge_o1 f548 ge_o3 f549 f550 f551 (Ne.symm ne_o10_o515) (Ne.symm ne_o410_o515) (Ne.symm ne_o403_0_o515) (Ne.symm ne_o501_0_o515) (Ne.symm ne_o1_o515) (Ne.symm ne_o3_o515) ne_o10_o410 ne_o10_o403_0 ne_o10_o501_0 (Ne.symm ne_o1_o10) (Ne.symm ne_o3_o10) (Ne.symm ne_o403_0_o410) ne_o410_o501_0 (Ne.symm ne_o1_o410) (Ne.symm ne_o3_o410) ne_o403_0_o501_0 (Ne.symm ne_o1_o403_0) (Ne.symm ne_o3_o403_0) (Ne.symm ne_o1_o501_0) (Ne.symm ne_o3_o501_0) ne_o1_o3 ) f537 (lenOf pd_3 rfl) rfl rfl (by decide) (by decide) rfl rfl (by decide) (by decide) rfl at_242 rfl (fun T552 X552 e552 => ?_)
            show Go p e below _ (T552.setTop (mkF m 245 #[.val (.int i0), .val (.int i1), .val (.int i2), .val (.int i3), .val (.int i4), .val (.int i5), .val (.int (2 : Int32)), .val (.int (2 : Int32)), .val (.ref o1), .val (.ref o3), .val (.ref o6), .val (.ref o10), .val (.ref o410), .val (.int (0 : Int32))] [(.int (0 : Int32))]))
            refine s_iload B X552 (pc' := 247) at_245 rfl rfl ?_
            refine s_icmpN B X552 (pc' := 250) at_247 (by decide) rfl ?_
            refine s_iconst B X552 (pc' := 251) (v := (1 : Int32)) at_250 rfl rfl ?_
            refine s_goto B X552 (pc' := 255) at_251 (by decide) (by decide) ?_
            exact r_nar B X552 (t := .boolean) (by simp) rfl at_255 ⟨rfl, N536⟩ (by decide) (by decide)
          · rw [hv416]
            show Go p e below _ (T415.setTop (mkF m 165 #[.val (.int i0), .val (.int i1), .val (.int i2), .val (.int i3), .val (.int i4), .val (.int i5), .val (.int (2 : Int32)), .val (.int (3 : Int32)), .val (.ref o1), .val (.ref o3), .val (.ref o6), .val (.ref o10), .val (.ref o410), .unset] []))
            refine s_iload B X415 (pc' := 167) at_165 rfl rfl ?_
            refine s_iconst B X415 (pc' := 168) (v := (1 : Int32)) at_167 rfl rfl ?_
            refine s_icmpN B X415 (pc' := 171) at_168 (by decide) rfl ?_
            refine s_aload B X415 (pc' := 173) at_171 rfl rfl rfl ?_
            refine s_iloadN B X415 (pc' := 174) at_173 rfl rfl ?_
            refine c_static B X415 (y := mn2) (pc' := 177) (argsL := [(.int i2)]) (under := [(.ref o410)]) (W := 1) e415 (tw26 hw) (tw27 hw) (tw29 hw) (tw28 hw) (by decide) (rm_valueOf l Z a0 hw i2 w_D h415 FZ O415) (lenOf pd_4 rfl) rfl rfl (by decide) (by decide) (by decide) (by decide) rfl at_174 rfl (fun v553 T553 L553 X553 hQ => ?_)
            obtain ⟨qL553, rfl, Nq553, Kq553, EL553⟩ := hQ
            obtain ⟨h553, e553⟩ : ∃ z, T553.heap = z := ⟨_, rfl⟩
            rw [e553] at Kq553 EL553
            have N553 := Fr.app N415 Nq553
            have O553 := (O415).keep Kq553 all0
            have F553 := OwnF.ext O553.2 FZ
            show Go p e below _ (T553.setTop (mkF m 177 #[.val (.int i0), .val (.int i1), .val (.int i2), .val (.int i3), .val (.int i4), .val (.int i5), .val (.int (2 : Int32)), .val (.int (3 : Int32)), .val (.ref o1), .val (.ref o3), .val (.ref o6), .val (.ref o10), .val (.ref o410), .unset] [(.ref qL553), (.ref o410)]))
            have f554 := ((A410.keep Kq415).keep Kq553)
            have f555 := (u415_0.keep Kq553 nin0)
            have f556 := (u415_1.keep Kq553 nin0)
            have f557 := (u415_2.keep Kq553 nin0)
            refine c_virtual B X553 (y := mn15) (pc' := 180) (argsL := [(.ref qL553)]) (under := []) (W := 0) e553 (tw33 hw) (tw34 hw) (tw36 hw) (tw35 hw) (tw37 hw) (tw2 hw) (by decide) (mm6_10 l Z a0 hw o410 qL553 w_D h553 FZ O553 ge_o410 f554 f555 f556 f557 EL553 ) f554 (lenOf pd_9 rfl) rfl rfl (by decide) (by decide) (by decide) (by decide) rfl at_177 rfl (fun v558 T558 L558 X558 hQ558 => ?_)
            obtain ⟨o558_0, kq_o558_0, rfl, Nq558, Kq558, lq_o558_0, u558_0, ovu558_0, u558_1, u558_2, u558_3⟩ := hQ558
            have f559 := (((f411.ext E410).keep Kq415).keep Kq553)
            have ne_o1_o558_0 : o1 ≠ o558_0 := Nat.ne_of_lt (Nat.lt_of_lt_of_le f559.lt lq_o558_0)
            have f560 := (((f412.ext E410).keep Kq415).keep Kq553)
            have ne_o3_o558_0 : o3 ≠ o558_0 := Nat.ne_of_lt (Nat.lt_of_lt_of_le f560.lt lq_o558_0)
            have f561 := (((f413.ext E410).keep Kq415).keep Kq553)
            have ne_o6_o558_0 : o6 ≠ o558_0 := Nat.ne_of_lt (Nat.lt_of_lt_of_le f561.lt lq_o558_0)
            have f562 := (((f414.ext E410).keep Kq415).keep Kq553)
            have ne_o10_o558_0 : o10 ≠ o558_0 := Nat.ne_of_lt (Nat.lt_of_lt_of_le f562.lt lq_o558_0)
            have f563 := (((u409_3.ext E410).keep Kq415 (ninS ne_o403_0_o410 nin0)).keep Kq553 nin0)
            have ne_o403_0_o558_0 : o403_0 ≠ o558_0 := Nat.ne_of_lt (Nat.lt_of_lt_of_le f563.lt lq_o558_0)
            have ne_o410_o558_0 : o410 ≠ o558_0 := Nat.ne_of_lt (Nat.lt_of_lt_of_le f554.lt lq_o558_0)
            have ge_o558_0 : Z.heap.size ≤ o558_0 := Nat.le_trans (old_le O553) lq_o558_0
            obtain ⟨h558, e558⟩ : ∃ z, T558.heap = z := ⟨_, rfl⟩
            rw [e558] at Kq558 u558_0 u558_1 u558_2 u558_3
            have N558 := Fr.app N553 Nq558
            have O558 := (O553).keep Kq558 (allS ge_o410 all0)
            have F558 := OwnF.ext O558.2 FZ
            show Go p e below _ (T558.setTop (mkF m 180 #[.val (.int i0), .val (.int i1), .val (.int i2), .val (.int i3), .val (.int i4), .val (.int i5), .val (.int (2 : Int32)), .val (.int (3 : Int32)), .val (.ref o1), .val (.ref o3), .val (.ref o6), .val (.ref o10), .val (.ref o410), .unset] [(.int (1 : Int32))]))
            refine s_pop B X558 (pc' := 181) at_180 rfl rfl ?_
            refine s_iload B X558 (pc' := 183) at_181 rfl rfl ?_
            refine s_iconst B X558 (pc' := 184) (v := (2 : Int32)) at_183 rfl rfl ?_
            refine s_icmpN B X558 (pc' := 187) at_184 (by decide) rfl ?_
            refine s_aload B X558 (pc' := 189) at_187 rfl rfl rfl ?_
            refine s_iload B X558 (pc' := 191) at_189 rfl rfl ?_
            refine c_static B X558 (y := mn2) (pc' := 194) (argsL := [(.int i5)]) (under := [(.ref o410)]) (W := 1) e558 (tw26 hw) (tw27 hw) (tw29 hw) (tw28 hw) (by decide) (rm_valueOf l Z a0 hw i5 w_D h558 FZ O558) (lenOf pd_4 rfl) rfl rfl (by decide) (by decide) (by decide) (by decide) rfl at_191 rfl (fun v564 T564 L564 X564 hQ => ?_)
            obtain ⟨qL564, rfl, Nq564, Kq564, EL564⟩ := hQ
            obtain ⟨h564, e564⟩ : ∃ z, T564.heap = z := ⟨_, rfl⟩
            rw [e564] at Kq564 EL564
            have N564 := Fr.app N558 Nq564
            have O564 := (O558).keep Kq564 all0
            have F564 := OwnF.ext O564.2 FZ
            show Go p e below _ (T564.setTop (mkF m 194 #[.val (.int i0), .val (.int i1), .val (.int i2), .val (.int i3), .val (.int i4), .val (.int i5), .val (.int (2 : Int32)), .val (.int (3 : Int32)), .val (.ref o1), .val (.ref o3), .val (.ref o6), .val (.ref o10), .val (.ref o410), .unset] [(.ref qL564), (.ref o410)]))
            have f565 := ((f554.keep Kq558).keep Kq564)
            have f566 := (u558_1.keep Kq564 nin0)
            have f567 := (u558_2.keep Kq564 nin0)
            have f568 := (u558_3.keep Kq564 nin0)
            have f569 := (u558_0.keep Kq564 nin0)
            have f570 := ((EL553.keep Kq558).keep Kq564)
            refine c_virtual B X564 (y := mn15) (pc' := 197) (argsL := [(.ref qL564)]) (under := []) (W := 0) e564 (tw33 hw) (tw34 hw) (tw36 hw) (tw35 hw) (tw37 hw) (tw2 hw) (by decide) (mm6_17 l Z a0 hw o410 qL564 o558_0 qL553 kq_o558_0 w_D h564 FZ O564 ge_o410 f565 f566 f567 f568 EL564 ge_o558_0 f569 ovu558_0 f570 ne_o410_o558_0 ) f565 (lenOf pd_9 rfl) rfl rfl (by decide) (by decide) (by decide) (by decide) rfl at_194 rfl (fun v571 T571 L571 X571 hQ571 => ?_)
            obtain ⟨rfl, Nq571, Kq571, u571_0, u571_1, u571_2, u571_3⟩ := hQ571
            obtain ⟨h571, e571⟩ : ∃ z, T571.heap = z := ⟨_, rfl⟩
            rw [e571] at Kq571 u571_0 u571_1 u571_2 u571_3
            have N571 := Fr.app N564 Nq571
            have O571 := (O564).keep Kq571 (allS ge_o410 (allS ge_o558_0 all0))
            have F571 := OwnF.ext O571.2 FZ
            show Go p e below _ (T571.setTop (mkF m 197 #[.val (.int i0), .val (.int i1), .val (.int i2), .val (.int i3), .val (.int i4), .val (.int i5), .val (.int (2 : Int32)), .val (.int (3 : Int32)), .val (.ref o1), .val (.ref o3), .val (.ref o6), .val (.ref o10), .val (.ref o410), .unset] [(.int (1 : Int32))]))
            refine s_pop B X571 (pc' := 198) at_197 rfl rfl ?_
            refine s_iload B X571 (pc' := 200) at_198 rfl rfl ?_
            refine s_iconst B X571 (pc' := 201) (v := (3 : Int32)) at_200 rfl rfl ?_
            refine s_icmpN B X571 (pc' := 204) at_201 (by decide) rfl ?_
            refine s_aload B X571 (pc' := 206) at_204 rfl rfl rfl ?_
            refine s_iloadN B X571 (pc' := 207) at_206 rfl rfl ?_
            refine c_static B X571 (y := mn2) (pc' := 210) (argsL := [(.int i3)]) (under := [(.ref o410)]) (W := 1) e571 (tw26 hw) (tw27 hw) (tw29 hw) (tw28 hw) (by decide) (rm_valueOf l Z a0 hw i3 w_D h571 FZ O571) (lenOf pd_4 rfl) rfl rfl (by decide) (by decide) (by decide) (by decide) rfl at_207 rfl (fun v572 T572 L572 X572 hQ => ?_)
            obtain ⟨qL572, rfl, Nq572, Kq572, EL572⟩ := hQ
            obtain ⟨h572, e572⟩ : ∃ z, T572.heap = z := ⟨_, rfl⟩
            rw [e572] at Kq572 EL572
            have N572 := Fr.app N571 Nq572
            have O572 := (O571).keep Kq572 all0
            have F572 := OwnF.ext O572.2 FZ
            show Go p e below _ (T572.setTop (mkF m 210 #[.val (.int i0), .val (.int i1), .val (.int i2), .val (.int i3), .val (.int i4), .val (.int i5), .val (.int (2 : Int32)), .val (.int (3 : Int32)), .val (.ref o1), .val (.ref o3), .val (.ref o6), .val (.ref o10), .val (.ref o410), .unset] [(.ref qL572), (.ref o410)]))
            have f573 := ((f565.keep Kq571).keep Kq572)
            have f574 := (u571_0.keep Kq572 nin0)
            have f575 := (u571_1.keep Kq572 nin0)
            have f576 := (u571_2.keep Kq572 nin0)
            have f577 := (u571_3.keep Kq572 nin0)
            have f578 := ((f570.keep Kq571).keep Kq572)
            have f579 := ((EL564.keep Kq571).keep Kq572)
            refine c_virtual B X572 (y := mn15) (pc' := 213) (argsL := [(.ref qL572)]) (under := []) (W := 0) e572 (tw33 hw) (tw34 hw) (tw36 hw) (tw35 hw) (tw37 hw) (tw2 hw) (by decide) (mm6_22 l Z a0 hw o410 qL572 o558_0 qL553 qL564 kq_o558_0 w_D h572 FZ O572 ge_o410 f573 f574 f575 f576 EL572 ge_o558_0 f577 ovu558_0 f578 f579 ne_o410_o558_0 ) f573 (lenOf pd_9 rfl) rfl rfl (by decide) (by decide) (by decide) (by decide) rfl at_210 rfl (fun v580 T580 L580 X580 hQ580 => ?_)
            obtain ⟨rfl, Nq580, Kq580, u580_0, u580_1, u580_2, u580_3⟩ := hQ580
            obtain ⟨h580, e580⟩ : ∃ z, T580.heap = z := ⟨_, rfl⟩
            rw [e580] at Kq580 u580_0 u580_1 u580_2 u580_3
            have N580 := Fr.app N572 Nq580
            have O580 := (O572).keep Kq580 (allS ge_o410 (allS ge_o558_0 all0))
            have F580 := OwnF.ext O580.2 FZ
            show Go p e below _ (T580.setTop (mkF m 213 #[.val (.int i0), .val (.int i1), .val (.int i2), .val (.int i3), .val (.int i4), .val (.int i5), .val (.int (2 : Int32)), .val (.int (3 : Int32)), .val (.ref o1), .val (.ref o3), .val (.ref o6), .val (.ref o10), .val (.ref o410), .unset] [(.int (1 : Int32))]))
            refine s_pop B X580 (pc' := 214) at_213 rfl rfl ?_
            refine s_iload B X580 (pc' := 216) at_214 rfl rfl ?_
            refine s_ifY B X580 (pc' := 228) at_216 (by decide) (by decide) (by decide) ?_
            refine s_iconst B X580 (pc' := 229) (v := (0 : Int32)) at_228 rfl rfl ?_
            refine s_istore B X580 (pc' := 231) (Ls' := #[.val (.int i0), .val (.int i1), .val (.int i2), .val (.int i3), .val (.int i4), .val (.int i5), .val (.int (2 : Int32)), .val (.int (3 : Int32)), .val (.ref o1), .val (.ref o3), .val (.ref o6), .val (.ref o10), .val (.ref o410), .val (.int (0 : Int32))]) at_229 rfl rfl ?_
            refine s_new B X580 (pc' := 234) (n0 := 2) e580 (tw64 hw) (tw65 hw) (tw66 hw) (by decide) (by decide) at_231 rfl (fun T581 h581 o581 g581 X581 e581 E581 A581 D581 => ?_)
            have f582 := (((((f559.keep Kq558).keep Kq564).keep Kq571).keep Kq572).keep Kq580)
            have ne_o1_o581 : o1 ≠ o581 := Nat.ne_of_lt (g581 ▸ f582.lt)
            have f583 := (((((f560.keep Kq558).keep Kq564).keep Kq571).keep Kq572).keep Kq580)
            have ne_o3_o581 : o3 ≠ o581 := Nat.ne_of_lt (g581 ▸ f583.lt)
            have f584 := (((((f561.keep Kq558).keep Kq564).keep Kq571).keep Kq572).keep Kq580)
            have ne_o6_o581 : o6 ≠ o581 := Nat.ne_of_lt (g581 ▸ f584.lt)
            have f585 := (((((f562.keep Kq558).keep Kq564).keep Kq571).keep Kq572).keep Kq580)
            have ne_o10_o581 : o10 ≠ o581 := Nat.ne_of_lt (g581 ▸ f585.lt)
            have f586 := (((((f563.keep Kq558 (ninS ne_o403_0_o410 nin0)).keep Kq564 nin0).keep Kq571 (ninS ne_o403_0_o410 (ninS ne_o403_0_o558_0 nin0))).keep Kq572 nin0).keep Kq580 (ninS ne_o403_0_o410 (ninS ne_o403_0_o558_0 nin0)))
            have ne_o403_0_o581 : o403_0 ≠ o581 := Nat.ne_of_lt (g581 ▸ f586.lt)
            have f587 := (f573.keep Kq580)
            have ne_o410_o581 : o410 ≠ o581 := Nat.ne_of_lt (g581 ▸ f587.lt)
            have ne_o558_0_o581 : o558_0 ≠ o581 := Nat.ne_of_lt (g581 ▸ u580_3.lt)
            have ge_o581 : Z.heap.size ≤ o581 := g581 ▸ old_le O580
            have O581 := (O580).ext E581
            have F581 := OwnF.ext O581.2 FZ
            have D581_each : Fld Z h581 o581 "com/example/lichen/lichen/solver/TermSubsumption$Ways" "each" "Ljava/util/List;" .null := D581 (Or.inr (tw77 hw)) (ty := (.object "java/util/List")) (by decide)
            have D581_producers : Fld Z h581 o581 "com/example/lichen/lichen/solver/TermSubsumption$Ways" "producers" "Ljava/util/List;" .null := D581 (Or.inr (tw79 hw)) (ty := (.object "java/util/List")) (by decide)
            show Go p e below _ (T581.setTop (mkF m 234 #[.val (.int i0), .val (.int i1), .val (.int i2), .val (.int i3), .val (.int i4), .val (.int i5), .val (.int (2 : Int32)), .val (.int (3 : Int32)), .val (.ref o1), .val (.ref o3), .val (.ref o6), .val (.ref o10), .val (.ref o410), .val (.int (0 : Int32))] [(.ref o581)]))
            refine s_dup B X581 (pc' := 235) at_234 rfl rfl ?_
            refine s_aload B X581 (pc' := 237) at_235 rfl rfl rfl ?_
            refine s_aload B X581 (pc' := 239) at_237 rfl rfl rfl ?_
            have f588 := (f585.ext E581)
            have f589 := (((((((((u409_0.ext E410).keep Kq415 (ninS ne_o10_o410 nin0)).keep Kq553 nin0).keep Kq558 (ninS ne_o10_o410 nin0)).keep Kq564 nin0).keep Kq571 (ninS ne_o10_o410 (ninS ne_o10_o558_0 nin0))).keep Kq572 nin0).keep Kq580 (ninS ne_o10_o410 (ninS ne_o10_o558_0 nin0))).ext E581)
            have f590 := (((((((((u409_1.ext E410).keep Kq415 (ninS ne_o10_o410 nin0)).keep Kq553 nin0).keep Kq558 (ninS ne_o10_o410 nin0)).keep Kq564 nin0).keep Kq571 (ninS ne_o10_o410 (ninS ne_o10_o558_0 nin0))).keep Kq572 nin0).keep Kq580 (ninS ne_o10_o410 (ninS ne_o10_o558_0 nin0))).ext E581)
            have f591 := (((((((((u409_2.ext E410).keep Kq415 (ninS ne_o10_o410 nin0)).keep Kq553 nin0).keep Kq558 (ninS ne_o10_o410 nin0)).keep Kq564 nin0).keep Kq571 (ninS ne_o10_o410 (ninS ne_o10_o558_0 nin0))).keep Kq572 nin0).keep Kq580 (ninS ne_o10_o410 (ninS ne_o10_o558_0 nin0))).ext E581)
            have f592 := (f587.ext E581)
            have f593 := (u580_0.ext E581)
            have f594 := (u580_1.ext E581)
            have f595 := (u580_2.ext E581)
            have f596 := (f586.ext E581)
            have f597 := (u580_3.ext E581)
            have f598 := (f582.ext E581)
            have f599 := (f583.ext E581)
            have f600 := ((f578.keep Kq580).ext E581)
            have f601 := ((f579.keep Kq580).ext E581)
            have f602 := ((EL572.keep Kq580).ext E581)
            refine c_init B X581 (y := mn7) (pc' := 242) (argsL := [(.ref o10), (.ref o410)]) (under := [(.ref o581)]) (W := 1) e581 rfl (tw67 hw) (tw68 hw) (tw69 hw) (tw66 hw) (by decide) (mm11_47 l Z a0 hw o581 o10 o410 o403_0 o558_0 o1 o3 qL553 qL564 qL572 kq_o403_0 kq_o558_0 w_D h581 FZ O581 ge_o581 A581 D581_each D581_producers ge_o10 f588 f589 f590 f591 ge_o410 f592 f593 f594 f595 ge_o403_0 f596 ovu403_0 ge_o558_0 f597 ovu558_0 ge_o1 f598 ge_o3 f599 f600 f601 f602 (Ne.symm ne_o10_o581) (Ne.symm ne_o410_o581) (Ne.symm ne_o403_0_o581) (Ne.symm ne_o558_0_o581) (Ne.symm ne_o1_o581) (Ne.symm ne_o3_o581) ne_o10_o410 ne_o10_o403_0 ne_o10_o558_0 (Ne.symm ne_o1_o10) (Ne.symm ne_o3_o10) (Ne.symm ne_o403_0_o410) ne_o410_o558_0 (Ne.symm ne_o1_o410) (Ne.symm ne_o3_o410) ne_o403_0_o558_0 (Ne.symm ne_o1_o403_0) (Ne.symm ne_o3_o403_0) (Ne.symm ne_o1_o558_0) (Ne.symm ne_o3_o558_0) ne_o1_o3 ) (lenOf pd_2 rfl) rfl rfl (by decide) (by decide) (by decide) (by decide) rfl at_239 rfl (fun v603 T603 L603 X603 hQ603 => ?_)
            obtain ⟨rfl, Nq603, Kq603, u603_0, u603_1⟩ := hQ603
            obtain ⟨h603, e603⟩ : ∃ z, T603.heap = z := ⟨_, rfl⟩
            rw [e603] at Kq603 u603_0 u603_1
            have N603 := Fr.app N580 Nq603
            have O603 := (O581).keep Kq603 (allS ge_o581 all0)
            have F603 := OwnF.ext O603.2 FZ
            show Go p e below _ (T603.setTop (mkF m 242 #[.val (.int i0), .val (.int i1), .val (.int i2), .val (.int i3), .val (.int i4), .val (.int i5), .val (.int (2 : Int32)), .val (.int (3 : Int32)), .val (.ref o1), .val (.ref o3), .val (.ref o6), .val (.ref o10), .val (.ref o410), .val (.int (0 : Int32))] [(.ref o581)]))
            have f604 := (A581.keep Kq603)
            have f605 := (f588.keep Kq603)
            have f606 := (f589.keep Kq603 (ninS ne_o10_o581 nin0))
            have f607 := (f590.keep Kq603 (ninS ne_o10_o581 nin0))
            have f608 := (f591.keep Kq603 (ninS ne_o10_o581 nin0))
            have f609 := (f592.keep Kq603)
            have f610 := (f593.keep Kq603 (ninS ne_o410_o581 nin0))
            have f611 := (f594.keep Kq603 (ninS ne_o410_o581 nin0))
            have f612 := (f595.keep Kq603 (ninS ne_o410_o581 nin0))
            have f613 := (f596.keep Kq603 (ninS ne_o403_0_o581 nin0))
            have f614 := (f597.keep Kq603 (ninS ne_o558_0_o581 nin0))
            have f615 := (f598.keep Kq603)
            have f616 := (f599.keep Kq603)
            have f617 := (f600.keep Kq603)
            have f618 := (f601.keep Kq603)
            have f619 := (f602.keep Kq603)
            refine p_virtual B X603 (y := mn10) (pc' := 245) (argsL := []) (under := []) (W := 0) e603 (tw80 hw) (tw81 hw) (tw83 hw) (tw82 hw) (tw84 hw) (tw66 hw) (by decide) (mm13_48 l Z a0 hw o581 o10 o410 o403_0 o558_0 o1 o3 qL553 qL564 qL572 kq_o403_0 kq_o558_0 w_D h603 FZ O603 ge_o581 f604 u603_0 u603_1 ge_o10 f605 f606 f607 f608 ge_o410 f609 f610 f611 f612 ge_o403_0 f613 ovu403_0 ge_o558_0 f614 ovu558_0 ge_o1 f615 ge_o3 f616 f617 f618 f619 (Ne.symm ne_o10_o581) (Ne.symm ne_o410_o581) (Ne.symm ne_o403_0_o581) (Ne.symm ne_o558_0_o581) (Ne.symm ne_o1_o581) (Ne.symm ne_o3_o581) ne_o10_o410 ne_o10_o403_0 ne_o10_o558_0 (Ne.symm ne_o1_o10) (Ne.symm ne_o3_o10) (Ne.symm ne_o403_0_o410) ne_o410_o558_0 (Ne.symm ne_o1_o410) (Ne.symm ne_o3_o410) ne_o403_0_o558_0 (Ne.symm ne_o1_o403_0) (Ne.symm ne_o3_o403_0) (Ne.symm ne_o1_o558_0) (Ne.symm ne_o3_o558_0) ne_o1_o3 ) f604 (lenOf pd_3 rfl) rfl rfl (by decide) (by decide) rfl rfl (by decide) (by decide) rfl at_242 rfl (fun T620 X620 e620 => ?_)
            show Go p e below _ (T620.setTop (mkF m 245 #[.val (.int i0), .val (.int i1), .val (.int i2), .val (.int i3), .val (.int i4), .val (.int i5), .val (.int (2 : Int32)), .val (.int (3 : Int32)), .val (.ref o1), .val (.ref o3), .val (.ref o6), .val (.ref o10), .val (.ref o410), .val (.int (0 : Int32))] [(.int (0 : Int32))]))
            refine s_iload B X620 (pc' := 247) at_245 rfl rfl ?_
            refine s_icmpN B X620 (pc' := 250) at_247 (by decide) rfl ?_
            refine s_iconst B X620 (pc' := 251) (v := (1 : Int32)) at_250 rfl rfl ?_
            refine s_goto B X620 (pc' := 255) at_251 (by decide) (by decide) ?_
            exact r_nar B X620 (t := .boolean) (by simp) rfl at_255 ⟨rfl, N603⟩ (by decide) (by decide)
        · rw [hv12]
          show Go p e below _ (T11.setTop (mkF m 114 #[.val (.int i0), .val (.int i1), .val (.int i2), .val (.int i3), .val (.int i4), .val (.int i5), .val (.int (3 : Int32)), .val (.int (i1 &&& (3 : Int32))), .val (.ref o1), .val (.ref o3), .val (.ref o6), .val (.ref o10), .unset, .unset] []))
          refine s_iload B X11 (pc' := 116) at_114 rfl rfl ?_
          refine s_iconst B X11 (pc' := 117) (v := (1 : Int32)) at_116 rfl rfl ?_
          refine s_icmpN B X11 (pc' := 120) at_117 (by decide) rfl ?_
          refine s_aload B X11 (pc' := 122) at_120 rfl rfl rfl ?_
          refine s_aload B X11 (pc' := 124) at_122 rfl rfl rfl ?_
          have f621 := (A10.keep Kq11)
          have f622 := ((Ej105_o1.ext E10).keep Kq11)
          refine c_virtual B X11 (y := mn15) (pc' := 127) (argsL := [(.ref o1)]) (under := []) (W := 0) e11 (tw33 hw) (tw34 hw) (tw36 hw) (tw35 hw) (tw37 hw) (tw2 hw) (by decide) (mm6_27 l Z a0 hw o10 o1 w_D h11 FZ O11 ge_o10 f621 u11_0 u11_1 u11_2 ge_o1 f622 (Ne.symm ne_o1_o10) ) f621 (lenOf pd_9 rfl) rfl rfl (by decide) (by decide) (by decide) (by decide) rfl at_124 rfl (fun v623 T623 L623 X623 hQ623 => ?_)
          obtain ⟨o623_0, kq_o623_0, rfl, Nq623, Kq623, lq_o623_0, u623_0, ovu623_0, u623_1, u623_2, u623_3⟩ := hQ623
          have ne_o1_o623_0 : o1 ≠ o623_0 := Nat.ne_of_lt (Nat.lt_of_lt_of_le f622.lt lq_o623_0)
          have f624 := ((Ej105_o3.ext E10).keep Kq11)
          have ne_o3_o623_0 : o3 ≠ o623_0 := Nat.ne_of_lt (Nat.lt_of_lt_of_le f624.lt lq_o623_0)
          have f625 := ((Ej105_o6.ext E10).keep Kq11)
          have ne_o6_o623_0 : o6 ≠ o623_0 := Nat.ne_of_lt (Nat.lt_of_lt_of_le f625.lt lq_o623_0)
          have ne_o10_o623_0 : o10 ≠ o623_0 := Nat.ne_of_lt (Nat.lt_of_lt_of_le f621.lt lq_o623_0)
          have ge_o623_0 : Z.heap.size ≤ o623_0 := Nat.le_trans (old_le O11) lq_o623_0
          obtain ⟨h623, e623⟩ : ∃ z, T623.heap = z := ⟨_, rfl⟩
          rw [e623] at Kq623 u623_0 u623_1 u623_2 u623_3
          have N623 := Fr.app N11 Nq623
          have O623 := (O11).keep Kq623 (allS ge_o10 all0)
          have F623 := OwnF.ext O623.2 FZ
          show Go p e below _ (T623.setTop (mkF m 127 #[.val (.int i0), .val (.int i1), .val (.int i2), .val (.int i3), .val (.int i4), .val (.int i5), .val (.int (3 : Int32)), .val (.int (i1 &&& (3 : Int32))), .val (.ref o1), .val (.ref o3), .val (.ref o6), .val (.ref o10), .unset, .unset] [(.int (1 : Int32))]))
          refine s_pop B X623 (pc' := 128) at_127 rfl rfl ?_
          refine s_iload B X623 (pc' := 130) at_128 rfl rfl ?_
          refine s_iconst B X623 (pc' := 131) (v := (2 : Int32)) at_130 rfl rfl ?_
          refine s_icmpN B X623 (pc' := 134) at_131 (by decide) rfl ?_
          refine s_aload B X623 (pc' := 136) at_134 rfl rfl rfl ?_
          refine s_aload B X623 (pc' := 138) at_136 rfl rfl rfl ?_
          have f626 := (f621.keep Kq623)
          have f627 := (f624.keep Kq623)
          have f628 := (f622.keep Kq623)
          refine c_virtual B X623 (y := mn15) (pc' := 141) (argsL := [(.ref o3)]) (under := []) (W := 0) e623 (tw33 hw) (tw34 hw) (tw36 hw) (tw35 hw) (tw37 hw) (tw2 hw) (by decide) (mm6_38 l Z a0 hw o10 o3 o623_0 o1 kq_o623_0 w_D h623 FZ O623 ge_o10 f626 u623_1 u623_2 u623_3 ge_o3 f627 ge_o623_0 u623_0 ovu623_0 ge_o1 f628 (Ne.symm ne_o3_o10) ne_o10_o623_0 (Ne.symm ne_o1_o10) ne_o3_o623_0 (Ne.symm ne_o1_o3) (Ne.symm ne_o1_o623_0) ) f626 (lenOf pd_9 rfl) rfl rfl (by decide) (by decide) (by decide) (by decide) rfl at_138 rfl (fun v629 T629 L629 X629 hQ629 => ?_)
          obtain ⟨rfl, Nq629, Kq629, u629_0, u629_1, u629_2, u629_3⟩ := hQ629
          obtain ⟨h629, e629⟩ : ∃ z, T629.heap = z := ⟨_, rfl⟩
          rw [e629] at Kq629 u629_0 u629_1 u629_2 u629_3
          have N629 := Fr.app N623 Nq629
          have O629 := (O623).keep Kq629 (allS ge_o10 (allS ge_o623_0 all0))
          have F629 := OwnF.ext O629.2 FZ
          show Go p e below _ (T629.setTop (mkF m 141 #[.val (.int i0), .val (.int i1), .val (.int i2), .val (.int i3), .val (.int i4), .val (.int i5), .val (.int (3 : Int32)), .val (.int (i1 &&& (3 : Int32))), .val (.ref o1), .val (.ref o3), .val (.ref o6), .val (.ref o10), .unset, .unset] [(.int (1 : Int32))]))
          refine s_pop B X629 (pc' := 142) at_141 rfl rfl ?_
          refine s_iload B X629 (pc' := 144) at_142 rfl rfl ?_
          refine s_iconst B X629 (pc' := 145) (v := (3 : Int32)) at_144 rfl rfl ?_
          refine s_icmpN B X629 (pc' := 148) at_145 (by decide) rfl ?_
          refine s_aload B X629 (pc' := 150) at_148 rfl rfl rfl ?_
          refine s_aload B X629 (pc' := 152) at_150 rfl rfl rfl ?_
          have f630 := (f626.keep Kq629)
          have f631 := ((f625.keep Kq623).keep Kq629)
          have f632 := (f628.keep Kq629)
          have f633 := (f627.keep Kq629)
          refine c_virtual B X629 (y := mn15) (pc' := 155) (argsL := [(.ref o6)]) (under := []) (W := 0) e629 (tw33 hw) (tw34 hw) (tw36 hw) (tw35 hw) (tw37 hw) (tw2 hw) (by decide) (mm6_49 l Z a0 hw o10 o6 o623_0 o1 o3 kq_o623_0 w_D h629 FZ O629 ge_o10 f630 u629_0 u629_1 u629_2 ge_o6 f631 ge_o623_0 u629_3 ovu623_0 ge_o1 f632 ge_o3 f633 (Ne.symm ne_o6_o10) ne_o10_o623_0 (Ne.symm ne_o1_o10) (Ne.symm ne_o3_o10) ne_o6_o623_0 (Ne.symm ne_o1_o6) (Ne.symm ne_o3_o6) (Ne.symm ne_o1_o623_0) (Ne.symm ne_o3_o623_0) ne_o1_o3 ) f630 (lenOf pd_9 rfl) rfl rfl (by decide) (by decide) (by decide) (by decide) rfl at_152 rfl (fun v634 T634 L634 X634 hQ634 => ?_)
          obtain ⟨rfl, Nq634, Kq634, u634_0, u634_1, u634_2, u634_3⟩ := hQ634
          obtain ⟨h634, e634⟩ : ∃ z, T634.heap = z := ⟨_, rfl⟩
          rw [e634] at Kq634 u634_0 u634_1 u634_2 u634_3
          have N634 := Fr.app N629 Nq634
          have O634 := (O629).keep Kq634 (allS ge_o10 (allS ge_o623_0 all0))
          have F634 := OwnF.ext O634.2 FZ
          show Go p e below _ (T634.setTop (mkF m 155 #[.val (.int i0), .val (.int i1), .val (.int i2), .val (.int i3), .val (.int i4), .val (.int i5), .val (.int (3 : Int32)), .val (.int (i1 &&& (3 : Int32))), .val (.ref o1), .val (.ref o3), .val (.ref o6), .val (.ref o10), .unset, .unset] [(.int (1 : Int32))]))
          refine s_pop B X634 (pc' := 156) at_155 rfl rfl ?_
          refine s_new B X634 (pc' := 159) (n0 := 3) e634 (tw0 hw) (tw1 hw) (tw2 hw) (by decide) (by decide) at_156 rfl (fun T635 h635 o635 g635 X635 e635 E635 A635 D635 => ?_)
          have f636 := (f632.keep Kq634)
          have ne_o1_o635 : o1 ≠ o635 := Nat.ne_of_lt (g635 ▸ f636.lt)
          have f637 := (f633.keep Kq634)
          have ne_o3_o635 : o3 ≠ o635 := Nat.ne_of_lt (g635 ▸ f637.lt)
          have f638 := (f631.keep Kq634)
          have ne_o6_o635 : o6 ≠ o635 := Nat.ne_of_lt (g635 ▸ f638.lt)
          have f639 := (f630.keep Kq634)
          have ne_o10_o635 : o10 ≠ o635 := Nat.ne_of_lt (g635 ▸ f639.lt)
          have ne_o623_0_o635 : o623_0 ≠ o635 := Nat.ne_of_lt (g635 ▸ u634_3.lt)
          have ge_o635 : Z.heap.size ≤ o635 := g635 ▸ old_le O634
          have O635 := (O634).ext E635
          have F635 := OwnF.ext O635.2 FZ
          have D635_modCount : Fld Z h635 o635 "java/util/AbstractList" "modCount" "I" (.int (0 : Int32)) := D635 (Or.inl (tw22 hw)) (ty := .int) (by decide)
          have D635_elementData : Fld Z h635 o635 "java/util/ArrayList" "elementData" "[Ljava/lang/Object;" .null := D635 (Or.inl (tw25 hw)) (ty := (.array (.object "java/lang/Object"))) (by decide)
          have D635_size : Fld Z h635 o635 "java/util/ArrayList" "size" "I" (.int (0 : Int32)) := D635 (Or.inl (tw41 hw)) (ty := .int) (by decide)
          show Go p e below _ (T635.setTop (mkF m 159 #[.val (.int i0), .val (.int i1), .val (.int i2), .val (.int i3), .val (.int i4), .val (.int i5), .val (.int (3 : Int32)), .val (.int (i1 &&& (3 : Int32))), .val (.ref o1), .val (.ref o3), .val (.ref o6), .val (.ref o10), .unset, .unset] [(.ref o635)]))
          refine s_dup B X635 (pc' := 160) at_159 rfl rfl ?_
          refine c_init B X635 (y := mn5) (pc' := 163) (argsL := []) (under := [(.ref o635)]) (W := 1) e635 rfl (tw3 hw) (tw4 hw) (tw5 hw) (tw2 hw) (by decide) (mm1_3 l Z a0 hw o635 w_D h635 FZ O635 ge_o635 A635 D635_elementData D635_modCount D635_size ) (lenOf pd_0 rfl) rfl rfl (by decide) (by decide) (by decide) (by decide) rfl at_160 rfl (fun v640 T640 L640 X640 hQ640 => ?_)
          obtain ⟨rfl, Nq640, Kq640, u640_0, u640_1, u640_2⟩ := hQ640
          obtain ⟨h640, e640⟩ : ∃ z, T640.heap = z := ⟨_, rfl⟩
          rw [e640] at Kq640 u640_0 u640_1 u640_2
          have N640 := Fr.app N634 Nq640
          have O640 := (O635).keep Kq640 (allS ge_o635 all0)
          have F640 := OwnF.ext O640.2 FZ
          show Go p e below _ (T640.setTop (mkF m 163 #[.val (.int i0), .val (.int i1), .val (.int i2), .val (.int i3), .val (.int i4), .val (.int i5), .val (.int (3 : Int32)), .val (.int (i1 &&& (3 : Int32))), .val (.ref o1), .val (.ref o3), .val (.ref o6), .val (.ref o10), .unset, .unset] [(.ref o635)]))
          refine s_astore B X640 (pc' := 165) (Ls' := #[.val (.int i0), .val (.int i1), .val (.int i2), .val (.int i3), .val (.int i4), .val (.int i5), .val (.int (3 : Int32)), .val (.int (i1 &&& (3 : Int32))), .val (.ref o1), .val (.ref o3), .val (.ref o6), .val (.ref o10), .val (.ref o635), .unset]) at_163 rfl rfl rfl ?_
          rcases own_and3 i1 with hv641 | hv641 | hv641 | hv641
          · rw [hv641]
            show Go p e below _ (T640.setTop (mkF m 165 #[.val (.int i0), .val (.int i1), .val (.int i2), .val (.int i3), .val (.int i4), .val (.int i5), .val (.int (3 : Int32)), .val (.int (0 : Int32)), .val (.ref o1), .val (.ref o3), .val (.ref o6), .val (.ref o10), .val (.ref o635), .unset] []))
            refine s_iload B X640 (pc' := 167) at_165 rfl rfl ?_
            refine s_iconst B X640 (pc' := 168) (v := (1 : Int32)) at_167 rfl rfl ?_
            refine s_icmpY B X640 (pc' := 181) at_168 (by decide) (by decide) (by decide) ?_
            refine s_iload B X640 (pc' := 183) at_181 rfl rfl ?_
            refine s_iconst B X640 (pc' := 184) (v := (2 : Int32)) at_183 rfl rfl ?_
            refine s_icmpY B X640 (pc' := 198) at_184 (by decide) (by decide) (by decide) ?_
            refine s_iload B X640 (pc' := 200) at_198 rfl rfl ?_
            refine s_iconst B X640 (pc' := 201) (v := (3 : Int32)) at_200 rfl rfl ?_
            refine s_icmpY B X640 (pc' := 214) at_201 (by decide) (by decide) (by decide) ?_
            refine s_iload B X640 (pc' := 216) at_214 rfl rfl ?_
            refine s_ifY B X640 (pc' := 228) at_216 (by decide) (by decide) (by decide) ?_
            refine s_iconst B X640 (pc' := 229) (v := (0 : Int32)) at_228 rfl rfl ?_
            refine s_istore B X640 (pc' := 231) (Ls' := #[.val (.int i0), .val (.int i1), .val (.int i2), .val (.int i3), .val (.int i4), .val (.int i5), .val (.int (3 : Int32)), .val (.int (0 : Int32)), .val (.ref o1), .val (.ref o3), .val (.ref o6), .val (.ref o10), .val (.ref o635), .val (.int (0 : Int32))]) at_229 rfl rfl ?_
            refine s_new B X640 (pc' := 234) (n0 := 2) e640 (tw64 hw) (tw65 hw) (tw66 hw) (by decide) (by decide) at_231 rfl (fun T642 h642 o642 g642 X642 e642 E642 A642 D642 => ?_)
            have f643 := ((f636.ext E635).keep Kq640)
            have ne_o1_o642 : o1 ≠ o642 := Nat.ne_of_lt (g642 ▸ f643.lt)
            have f644 := ((f637.ext E635).keep Kq640)
            have ne_o3_o642 : o3 ≠ o642 := Nat.ne_of_lt (g642 ▸ f644.lt)
            have f645 := ((f638.ext E635).keep Kq640)
            have ne_o6_o642 : o6 ≠ o642 := Nat.ne_of_lt (g642 ▸ f645.lt)
            have f646 := ((f639.ext E635).keep Kq640)
            have ne_o10_o642 : o10 ≠ o642 := Nat.ne_of_lt (g642 ▸ f646.lt)
            have f647 := ((u634_3.ext E635).keep Kq640 (ninS ne_o623_0_o635 nin0))
            have ne_o623_0_o642 : o623_0 ≠ o642 := Nat.ne_of_lt (g642 ▸ f647.lt)
            have f648 := (A635.keep Kq640)
            have ne_o635_o642 : o635 ≠ o642 := Nat.ne_of_lt (g642 ▸ f648.lt)
            have ge_o642 : Z.heap.size ≤ o642 := g642 ▸ old_le O640
            have O642 := (O640).ext E642
            have F642 := OwnF.ext O642.2 FZ
            have D642_each : Fld Z h642 o642 "com/example/lichen/lichen/solver/TermSubsumption$Ways" "each" "Ljava/util/List;" .null := D642 (Or.inr (tw77 hw)) (ty := (.object "java/util/List")) (by decide)
            have D642_producers : Fld Z h642 o642 "com/example/lichen/lichen/solver/TermSubsumption$Ways" "producers" "Ljava/util/List;" .null := D642 (Or.inr (tw79 hw)) (ty := (.object "java/util/List")) (by decide)
            show Go p e below _ (T642.setTop (mkF m 234 #[.val (.int i0), .val (.int i1), .val (.int i2), .val (.int i3), .val (.int i4), .val (.int i5), .val (.int (3 : Int32)), .val (.int (0 : Int32)), .val (.ref o1), .val (.ref o3), .val (.ref o6), .val (.ref o10), .val (.ref o635), .val (.int (0 : Int32))] [(.ref o642)]))
            refine s_dup B X642 (pc' := 235) at_234 rfl rfl ?_
            refine s_aload B X642 (pc' := 237) at_235 rfl rfl rfl ?_
            refine s_aload B X642 (pc' := 239) at_237 rfl rfl rfl ?_
            have f649 := (f646.ext E642)
            have f650 := (((u634_0.ext E635).keep Kq640 (ninS ne_o10_o635 nin0)).ext E642)
            have f651 := (((u634_1.ext E635).keep Kq640 (ninS ne_o10_o635 nin0)).ext E642)
            have f652 := (((u634_2.ext E635).keep Kq640 (ninS ne_o10_o635 nin0)).ext E642)
            have f653 := (f648.ext E642)
            have f654 := (u640_0.ext E642)
            have f655 := (u640_1.ext E642)
            have f656 := (u640_2.ext E642)
            have f657 := (f647.ext E642)
            have f658 := (f643.ext E642)
            have f659 := (f644.ext E642)
            have f660 := (f645.ext E642)
            refine c_init B X642 (y := mn7) (pc' := 242) (argsL := [(.ref o10), (.ref o635)]) (under := [(.ref o642)]) (W := 1) e642 rfl (tw67 hw) (tw68 hw) (tw69 hw) (tw66 hw) (by decide) (mm11_51 l Z a0 hw o642 o10 o635 o623_0 o1 o3 o6 kq_o623_0 w_D h642 FZ O642 ge_o642 A642 D642_each D642_producers ge_o10 f649 f650 f651 f652 ge_o635 f653 f654 f655 f656 ge_o623_0 f657 ovu623_0 ge_o1 f658 ge_o3 f659 ge_o6 f660 (Ne.symm ne_o10_o642) (Ne.symm ne_o635_o642) (Ne.symm ne_o623_0_o642) (Ne.symm ne_o1_o642) (Ne.symm ne_o3_o642) (Ne.symm ne_o6_o642) ne_o10_o635 ne_o10_o623_0 (Ne.symm ne_o1_o10) (Ne.symm ne_o3_o10) (Ne.symm ne_o6_o10) (Ne.symm ne_o623_0_o635) (Ne.symm ne_o1_o635) (Ne.symm ne_o3_o635) (Ne.symm ne_o6_o635) (Ne.symm ne_o1_o623_0) (Ne.symm ne_o3_o623_0) (Ne.symm ne_o6_o623_0) ne_o1_o3 ne_o1_o6 ne_o3_o6 ) (lenOf pd_2 rfl) rfl rfl (by decide) (by decide) (by decide) (by decide) rfl at_239 rfl (fun v661 T661 L661 X661 hQ661 => ?_)
            obtain ⟨rfl, Nq661, Kq661, u661_0, u661_1⟩ := hQ661
            obtain ⟨h661, e661⟩ : ∃ z, T661.heap = z := ⟨_, rfl⟩
            rw [e661] at Kq661 u661_0 u661_1
            have N661 := Fr.app N640 Nq661
            have O661 := (O642).keep Kq661 (allS ge_o642 all0)
            have F661 := OwnF.ext O661.2 FZ
            show Go p e below _ (T661.setTop (mkF m 242 #[.val (.int i0), .val (.int i1), .val (.int i2), .val (.int i3), .val (.int i4), .val (.int i5), .val (.int (3 : Int32)), .val (.int (0 : Int32)), .val (.ref o1), .val (.ref o3), .val (.ref o6), .val (.ref o10), .val (.ref o635), .val (.int (0 : Int32))] [(.ref o642)]))
            have f662 := (A642.keep Kq661)
            have f663 := (f649.keep Kq661)
            have f664 := (f650.keep Kq661 (ninS ne_o10_o642 nin0))
            have f665 := (f651.keep Kq661 (ninS ne_o10_o642 nin0))
            have f666 := (f652.keep Kq661 (ninS ne_o10_o642 nin0))
            have f667 := (f653.keep Kq661)
            have f668 := (f654.keep Kq661 (ninS ne_o635_o642 nin0))
            have f669 := (f655.keep Kq661 (ninS ne_o635_o642 nin0))
            have f670 := (f656.keep Kq661 (ninS ne_o635_o642 nin0))
            have f671 := (f657.keep Kq661 (ninS ne_o623_0_o642 nin0))
            have f672 := (f658.keep Kq661)
            have f673 := (f659.keep Kq661)
            have f674 := (f660.keep Kq661)
            refine p_virtual B X661 (y := mn10) (pc' := 245) (argsL := []) (under := []) (W := 0) e661 (tw80 hw) (tw81 hw) (tw83 hw) (tw82 hw) (tw84 hw) (tw66 hw) (by decide) (mm13_52 l Z a0 hw o642 o10 o635 o623_0 o1 o3 o6 kq_o623_0 w_D h661 FZ O661 ge_o642 f662 u661_0 u661_1 ge_o10 f663 f664 f665 f666 ge_o635 f667 f668 f669 f670 ge_o623_0 f671 ovu623_0 ge_o1 f672 ge_o3 f673 ge_o6 f674 (Ne.symm ne_o10_o642) (Ne.symm ne_o635_o642) (Ne.symm ne_o623_0_o642) (Ne.symm ne_o1_o642) (Ne.symm ne_o3_o642) (Ne.symm ne_o6_o642) ne_o10_o635 ne_o10_o623_0 (Ne.symm ne_o1_o10) (Ne.symm ne_o3_o10) (Ne.symm ne_o6_o10) (Ne.symm ne_o623_0_o635) (Ne.symm ne_o1_o635) (Ne.symm ne_o3_o635) (Ne.symm ne_o6_o635) (Ne.symm ne_o1_o623_0) (Ne.symm ne_o3_o623_0) (Ne.symm ne_o6_o623_0) ne_o1_o3 ne_o1_o6 ne_o3_o6 ) f662 (lenOf pd_3 rfl) rfl rfl (by decide) (by decide) rfl rfl (by decide) (by decide) rfl at_242 rfl (fun T675 X675 e675 => ?_)
            show Go p e below _ (T675.setTop (mkF m 245 #[.val (.int i0), .val (.int i1), .val (.int i2), .val (.int i3), .val (.int i4), .val (.int i5), .val (.int (3 : Int32)), .val (.int (0 : Int32)), .val (.ref o1), .val (.ref o3), .val (.ref o6), .val (.ref o10), .val (.ref o635), .val (.int (0 : Int32))] [(.int (0 : Int32))]))
            refine s_iload B X675 (pc' := 247) at_245 rfl rfl ?_
            refine s_icmpN B X675 (pc' := 250) at_247 (by decide) rfl ?_
            refine s_iconst B X675 (pc' := 251) (v := (1 : Int32)) at_250 rfl rfl ?_
            refine s_goto B X675 (pc' := 255) at_251 (by decide) (by decide) ?_
            exact r_nar B X675 (t := .boolean) (by simp) rfl at_255 ⟨rfl, N661⟩ (by decide) (by decide)
          · rw [hv641]
            show Go p e below _ (T640.setTop (mkF m 165 #[.val (.int i0), .val (.int i1), .val (.int i2), .val (.int i3), .val (.int i4), .val (.int i5), .val (.int (3 : Int32)), .val (.int (1 : Int32)), .val (.ref o1), .val (.ref o3), .val (.ref o6), .val (.ref o10), .val (.ref o635), .unset] []))
            refine s_iload B X640 (pc' := 167) at_165 rfl rfl ?_
            refine s_iconst B X640 (pc' := 168) (v := (1 : Int32)) at_167 rfl rfl ?_
            refine s_icmpN B X640 (pc' := 171) at_168 (by decide) rfl ?_
            refine s_aload B X640 (pc' := 173) at_171 rfl rfl rfl ?_
            refine s_iloadN B X640 (pc' := 174) at_173 rfl rfl ?_
            refine c_static B X640 (y := mn2) (pc' := 177) (argsL := [(.int i2)]) (under := [(.ref o635)]) (W := 1) e640 (tw26 hw) (tw27 hw) (tw29 hw) (tw28 hw) (by decide) (rm_valueOf l Z a0 hw i2 w_D h640 FZ O640) (lenOf pd_4 rfl) rfl rfl (by decide) (by decide) (by decide) (by decide) rfl at_174 rfl (fun v676 T676 L676 X676 hQ => ?_)
            obtain ⟨qL676, rfl, Nq676, Kq676, EL676⟩ := hQ
            obtain ⟨h676, e676⟩ : ∃ z, T676.heap = z := ⟨_, rfl⟩
            rw [e676] at Kq676 EL676
            have N676 := Fr.app N640 Nq676
            have O676 := (O640).keep Kq676 all0
            have F676 := OwnF.ext O676.2 FZ
            show Go p e below _ (T676.setTop (mkF m 177 #[.val (.int i0), .val (.int i1), .val (.int i2), .val (.int i3), .val (.int i4), .val (.int i5), .val (.int (3 : Int32)), .val (.int (1 : Int32)), .val (.ref o1), .val (.ref o3), .val (.ref o6), .val (.ref o10), .val (.ref o635), .unset] [(.ref qL676), (.ref o635)]))
            have f677 := ((A635.keep Kq640).keep Kq676)
            have f678 := (u640_0.keep Kq676 nin0)
            have f679 := (u640_1.keep Kq676 nin0)
            have f680 := (u640_2.keep Kq676 nin0)
            refine c_virtual B X676 (y := mn15) (pc' := 180) (argsL := [(.ref qL676)]) (under := []) (W := 0) e676 (tw33 hw) (tw34 hw) (tw36 hw) (tw35 hw) (tw37 hw) (tw2 hw) (by decide) (mm6_10 l Z a0 hw o635 qL676 w_D h676 FZ O676 ge_o635 f677 f678 f679 f680 EL676 ) f677 (lenOf pd_9 rfl) rfl rfl (by decide) (by decide) (by decide) (by decide) rfl at_177 rfl (fun v681 T681 L681 X681 hQ681 => ?_)
            obtain ⟨o681_0, kq_o681_0, rfl, Nq681, Kq681, lq_o681_0, u681_0, ovu681_0, u681_1, u681_2, u681_3⟩ := hQ681
            have f682 := (((f636.ext E635).keep Kq640).keep Kq676)
            have ne_o1_o681_0 : o1 ≠ o681_0 := Nat.ne_of_lt (Nat.lt_of_lt_of_le f682.lt lq_o681_0)
            have f683 := (((f637.ext E635).keep Kq640).keep Kq676)
            have ne_o3_o681_0 : o3 ≠ o681_0 := Nat.ne_of_lt (Nat.lt_of_lt_of_le f683.lt lq_o681_0)
            have f684 := (((f638.ext E635).keep Kq640).keep Kq676)
            have ne_o6_o681_0 : o6 ≠ o681_0 := Nat.ne_of_lt (Nat.lt_of_lt_of_le f684.lt lq_o681_0)
            have f685 := (((f639.ext E635).keep Kq640).keep Kq676)
            have ne_o10_o681_0 : o10 ≠ o681_0 := Nat.ne_of_lt (Nat.lt_of_lt_of_le f685.lt lq_o681_0)
            have f686 := (((u634_3.ext E635).keep Kq640 (ninS ne_o623_0_o635 nin0)).keep Kq676 nin0)
            have ne_o623_0_o681_0 : o623_0 ≠ o681_0 := Nat.ne_of_lt (Nat.lt_of_lt_of_le f686.lt lq_o681_0)
            have ne_o635_o681_0 : o635 ≠ o681_0 := Nat.ne_of_lt (Nat.lt_of_lt_of_le f677.lt lq_o681_0)
            have ge_o681_0 : Z.heap.size ≤ o681_0 := Nat.le_trans (old_le O676) lq_o681_0
            obtain ⟨h681, e681⟩ : ∃ z, T681.heap = z := ⟨_, rfl⟩
            rw [e681] at Kq681 u681_0 u681_1 u681_2 u681_3
            have N681 := Fr.app N676 Nq681
            have O681 := (O676).keep Kq681 (allS ge_o635 all0)
            have F681 := OwnF.ext O681.2 FZ
            show Go p e below _ (T681.setTop (mkF m 180 #[.val (.int i0), .val (.int i1), .val (.int i2), .val (.int i3), .val (.int i4), .val (.int i5), .val (.int (3 : Int32)), .val (.int (1 : Int32)), .val (.ref o1), .val (.ref o3), .val (.ref o6), .val (.ref o10), .val (.ref o635), .unset] [(.int (1 : Int32))]))
            refine s_pop B X681 (pc' := 181) at_180 rfl rfl ?_
            refine s_iload B X681 (pc' := 183) at_181 rfl rfl ?_
            refine s_iconst B X681 (pc' := 184) (v := (2 : Int32)) at_183 rfl rfl ?_
            refine s_icmpY B X681 (pc' := 198) at_184 (by decide) (by decide) (by decide) ?_
            refine s_iload B X681 (pc' := 200) at_198 rfl rfl ?_
            refine s_iconst B X681 (pc' := 201) (v := (3 : Int32)) at_200 rfl rfl ?_
            refine s_icmpY B X681 (pc' := 214) at_201 (by decide) (by decide) (by decide) ?_
            refine s_iload B X681 (pc' := 216) at_214 rfl rfl ?_
            refine s_ifY B X681 (pc' := 228) at_216 (by decide) (by decide) (by decide) ?_
            refine s_iconst B X681 (pc' := 229) (v := (0 : Int32)) at_228 rfl rfl ?_
            refine s_istore B X681 (pc' := 231) (Ls' := #[.val (.int i0), .val (.int i1), .val (.int i2), .val (.int i3), .val (.int i4), .val (.int i5), .val (.int (3 : Int32)), .val (.int (1 : Int32)), .val (.ref o1), .val (.ref o3), .val (.ref o6), .val (.ref o10), .val (.ref o635), .val (.int (0 : Int32))]) at_229 rfl rfl ?_
            refine s_new B X681 (pc' := 234) (n0 := 2) e681 (tw64 hw) (tw65 hw) (tw66 hw) (by decide) (by decide) at_231 rfl (fun T687 h687 o687 g687 X687 e687 E687 A687 D687 => ?_)
            have f688 := (f682.keep Kq681)
            have ne_o1_o687 : o1 ≠ o687 := Nat.ne_of_lt (g687 ▸ f688.lt)
            have f689 := (f683.keep Kq681)
            have ne_o3_o687 : o3 ≠ o687 := Nat.ne_of_lt (g687 ▸ f689.lt)
            have f690 := (f684.keep Kq681)
            have ne_o6_o687 : o6 ≠ o687 := Nat.ne_of_lt (g687 ▸ f690.lt)
            have f691 := (f685.keep Kq681)
            have ne_o10_o687 : o10 ≠ o687 := Nat.ne_of_lt (g687 ▸ f691.lt)
            have f692 := (f686.keep Kq681 (ninS ne_o623_0_o635 nin0))
            have ne_o623_0_o687 : o623_0 ≠ o687 := Nat.ne_of_lt (g687 ▸ f692.lt)
            have f693 := (f677.keep Kq681)
            have ne_o635_o687 : o635 ≠ o687 := Nat.ne_of_lt (g687 ▸ f693.lt)
            have ne_o681_0_o687 : o681_0 ≠ o687 := Nat.ne_of_lt (g687 ▸ u681_0.lt)
            have ge_o687 : Z.heap.size ≤ o687 := g687 ▸ old_le O681
            have O687 := (O681).ext E687
            have F687 := OwnF.ext O687.2 FZ
            have D687_each : Fld Z h687 o687 "com/example/lichen/lichen/solver/TermSubsumption$Ways" "each" "Ljava/util/List;" .null := D687 (Or.inr (tw77 hw)) (ty := (.object "java/util/List")) (by decide)
            have D687_producers : Fld Z h687 o687 "com/example/lichen/lichen/solver/TermSubsumption$Ways" "producers" "Ljava/util/List;" .null := D687 (Or.inr (tw79 hw)) (ty := (.object "java/util/List")) (by decide)
            show Go p e below _ (T687.setTop (mkF m 234 #[.val (.int i0), .val (.int i1), .val (.int i2), .val (.int i3), .val (.int i4), .val (.int i5), .val (.int (3 : Int32)), .val (.int (1 : Int32)), .val (.ref o1), .val (.ref o3), .val (.ref o6), .val (.ref o10), .val (.ref o635), .val (.int (0 : Int32))] [(.ref o687)]))
            refine s_dup B X687 (pc' := 235) at_234 rfl rfl ?_
            refine s_aload B X687 (pc' := 237) at_235 rfl rfl rfl ?_
            refine s_aload B X687 (pc' := 239) at_237 rfl rfl rfl ?_
            have f694 := (f691.ext E687)
            have f695 := (((((u634_0.ext E635).keep Kq640 (ninS ne_o10_o635 nin0)).keep Kq676 nin0).keep Kq681 (ninS ne_o10_o635 nin0)).ext E687)
            have f696 := (((((u634_1.ext E635).keep Kq640 (ninS ne_o10_o635 nin0)).keep Kq676 nin0).keep Kq681 (ninS ne_o10_o635 nin0)).ext E687)
            have f697 := (((((u634_2.ext E635).keep Kq640 (ninS ne_o10_o635 nin0)).keep Kq676 nin0).keep Kq681 (ninS ne_o10_o635 nin0)).ext E687)
            have f698 := (f693.ext E687)
            have f699 := (u681_1.ext E687)
            have f700 := (u681_2.ext E687)
            have f701 := (u681_3.ext E687)
            have f702 := (f692.ext E687)
            have f703 := (u681_0.ext E687)
            have f704 := (f688.ext E687)
            have f705 := (f689.ext E687)
            have f706 := (f690.ext E687)
            have f707 := ((EL676.keep Kq681).ext E687)
            refine c_init B X687 (y := mn7) (pc' := 242) (argsL := [(.ref o10), (.ref o635)]) (under := [(.ref o687)]) (W := 1) e687 rfl (tw67 hw) (tw68 hw) (tw69 hw) (tw66 hw) (by decide) (mm11_54 l Z a0 hw o687 o10 o635 o623_0 o681_0 o1 o3 o6 qL676 kq_o623_0 kq_o681_0 w_D h687 FZ O687 ge_o687 A687 D687_each D687_producers ge_o10 f694 f695 f696 f697 ge_o635 f698 f699 f700 f701 ge_o623_0 f702 ovu623_0 ge_o681_0 f703 ovu681_0 ge_o1 f704 ge_o3 f705 ge_o6 f706 f707 (Ne.symm ne_o10_o687) (Ne.symm ne_o635_o687) (Ne.symm ne_o623_0_o687) (Ne.symm ne_o681_0_o687) (Ne.symm ne_o1_o687) (Ne.symm ne_o3_o687) (Ne.symm ne_o6_o687) ne_o10_o635 ne_o10_o623_0 ne_o10_o681_0 (Ne.symm ne_o1_o10) (Ne.symm ne_o3_o10) (Ne.symm ne_o6_o10) (Ne.symm ne_o623_0_o635) ne_o635_o681_0 (Ne.symm ne_o1_o635) (Ne.symm ne_o3_o635) (Ne.symm ne_o6_o635) ne_o623_0_o681_0 (Ne.symm ne_o1_o623_0) (Ne.symm ne_o3_o623_0) (Ne.symm ne_o6_o623_0) (Ne.symm ne_o1_o681_0) (Ne.symm ne_o3_o681_0) (Ne.symm ne_o6_o681_0) ne_o1_o3 ne_o1_o6 ne_o3_o6 ) (lenOf pd_2 rfl) rfl rfl (by decide) (by decide) (by decide) (by decide) rfl at_239 rfl (fun v708 T708 L708 X708 hQ708 => ?_)
            obtain ⟨rfl, Nq708, Kq708, u708_0, u708_1⟩ := hQ708
            obtain ⟨h708, e708⟩ : ∃ z, T708.heap = z := ⟨_, rfl⟩
            rw [e708] at Kq708 u708_0 u708_1
            have N708 := Fr.app N681 Nq708
            have O708 := (O687).keep Kq708 (allS ge_o687 all0)
            have F708 := OwnF.ext O708.2 FZ
            show Go p e below _ (T708.setTop (mkF m 242 #[.val (.int i0), .val (.int i1), .val (.int i2), .val (.int i3), .val (.int i4), .val (.int i5), .val (.int (3 : Int32)), .val (.int (1 : Int32)), .val (.ref o1), .val (.ref o3), .val (.ref o6), .val (.ref o10), .val (.ref o635), .val (.int (0 : Int32))] [(.ref o687)]))
            have f709 := (A687.keep Kq708)
            have f710 := (f694.keep Kq708)
            have f711 := (f695.keep Kq708 (ninS ne_o10_o687 nin0))
            have f712 := (f696.keep Kq708 (ninS ne_o10_o687 nin0))
            have f713 := (f697.keep Kq708 (ninS ne_o10_o687 nin0))
            have f714 := (f698.keep Kq708)
            have f715 := (f699.keep Kq708 (ninS ne_o635_o687 nin0))
            have f716 := (f700.keep Kq708 (ninS ne_o635_o687 nin0))
            have f717 := (f701.keep Kq708 (ninS ne_o635_o687 nin0))
            have f718 := (f702.keep Kq708 (ninS ne_o623_0_o687 nin0))
            have f719 := (f703.keep Kq708 (ninS ne_o681_0_o687 nin0))
            have f720 := (f704.keep Kq708)
            have f721 := (f705.keep Kq708)
            have f722 := (f706.keep Kq708)
            have f723 := (f707.keep Kq708)
            refine p_virtual B X708 (y := mn10) (pc' := 245) (argsL := []) (under := []) (W := 0) e708 (tw80 hw) (tw81 hw) (tw83 hw) (tw82 hw) (tw84 hw) (tw66 hw) (by decide) (mm13_55 l Z a0 hw o687 o10 o635 o623_0 o681_0 o1 o3 o6 qL676 kq_o623_0 kq_o681_0 w_D h708 FZ O708 ge_o687 f709 u708_0 u708_1 ge_o10 f710 f711 f712 f713 ge_o635 f714 f715 f716 f717 ge_o623_0 f718 ovu623_0 ge_o681_0 f719 ovu681_0 ge_o1 f720 ge_o3 f721 ge_o6 f722 f723 (Ne.symm ne_o10_o687) (Ne.symm ne_o635_o687) (Ne.symm ne_o623_0_o687) (Ne.symm ne_o681_0_o687) (Ne.symm ne_o1_o687) (Ne.symm ne_o3_o687) (Ne.symm ne_o6_o687) ne_o10_o635 ne_o10_o623_0 ne_o10_o681_0 (Ne.symm ne_o1_o10) (Ne.symm ne_o3_o10) (Ne.symm ne_o6_o10) (Ne.symm ne_o623_0_o635) ne_o635_o681_0 (Ne.symm ne_o1_o635) (Ne.symm ne_o3_o635) (Ne.symm ne_o6_o635) ne_o623_0_o681_0 (Ne.symm ne_o1_o623_0) (Ne.symm ne_o3_o623_0) (Ne.symm ne_o6_o623_0) (Ne.symm ne_o1_o681_0) (Ne.symm ne_o3_o681_0) (Ne.symm ne_o6_o681_0) ne_o1_o3 ne_o1_o6 ne_o3_o6 ) f709 (lenOf pd_3 rfl) rfl rfl (by decide) (by decide) rfl rfl (by decide) (by decide) rfl at_242 rfl (fun T724 X724 e724 => ?_)
            show Go p e below _ (T724.setTop (mkF m 245 #[.val (.int i0), .val (.int i1), .val (.int i2), .val (.int i3), .val (.int i4), .val (.int i5), .val (.int (3 : Int32)), .val (.int (1 : Int32)), .val (.ref o1), .val (.ref o3), .val (.ref o6), .val (.ref o10), .val (.ref o635), .val (.int (0 : Int32))] [(.int (0 : Int32))]))
            refine s_iload B X724 (pc' := 247) at_245 rfl rfl ?_
            refine s_icmpN B X724 (pc' := 250) at_247 (by decide) rfl ?_
            refine s_iconst B X724 (pc' := 251) (v := (1 : Int32)) at_250 rfl rfl ?_
            refine s_goto B X724 (pc' := 255) at_251 (by decide) (by decide) ?_
            exact r_nar B X724 (t := .boolean) (by simp) rfl at_255 ⟨rfl, N708⟩ (by decide) (by decide)
          · rw [hv641]
            show Go p e below _ (T640.setTop (mkF m 165 #[.val (.int i0), .val (.int i1), .val (.int i2), .val (.int i3), .val (.int i4), .val (.int i5), .val (.int (3 : Int32)), .val (.int (2 : Int32)), .val (.ref o1), .val (.ref o3), .val (.ref o6), .val (.ref o10), .val (.ref o635), .unset] []))
            refine s_iload B X640 (pc' := 167) at_165 rfl rfl ?_
            refine s_iconst B X640 (pc' := 168) (v := (1 : Int32)) at_167 rfl rfl ?_
            refine s_icmpN B X640 (pc' := 171) at_168 (by decide) rfl ?_
            refine s_aload B X640 (pc' := 173) at_171 rfl rfl rfl ?_
            refine s_iloadN B X640 (pc' := 174) at_173 rfl rfl ?_
            refine c_static B X640 (y := mn2) (pc' := 177) (argsL := [(.int i2)]) (under := [(.ref o635)]) (W := 1) e640 (tw26 hw) (tw27 hw) (tw29 hw) (tw28 hw) (by decide) (rm_valueOf l Z a0 hw i2 w_D h640 FZ O640) (lenOf pd_4 rfl) rfl rfl (by decide) (by decide) (by decide) (by decide) rfl at_174 rfl (fun v725 T725 L725 X725 hQ => ?_)
            obtain ⟨qL725, rfl, Nq725, Kq725, EL725⟩ := hQ
            obtain ⟨h725, e725⟩ : ∃ z, T725.heap = z := ⟨_, rfl⟩
            rw [e725] at Kq725 EL725
            have N725 := Fr.app N640 Nq725
            have O725 := (O640).keep Kq725 all0
            have F725 := OwnF.ext O725.2 FZ
            show Go p e below _ (T725.setTop (mkF m 177 #[.val (.int i0), .val (.int i1), .val (.int i2), .val (.int i3), .val (.int i4), .val (.int i5), .val (.int (3 : Int32)), .val (.int (2 : Int32)), .val (.ref o1), .val (.ref o3), .val (.ref o6), .val (.ref o10), .val (.ref o635), .unset] [(.ref qL725), (.ref o635)]))
            have f726 := ((A635.keep Kq640).keep Kq725)
            have f727 := (u640_0.keep Kq725 nin0)
            have f728 := (u640_1.keep Kq725 nin0)
            have f729 := (u640_2.keep Kq725 nin0)
            refine c_virtual B X725 (y := mn15) (pc' := 180) (argsL := [(.ref qL725)]) (under := []) (W := 0) e725 (tw33 hw) (tw34 hw) (tw36 hw) (tw35 hw) (tw37 hw) (tw2 hw) (by decide) (mm6_10 l Z a0 hw o635 qL725 w_D h725 FZ O725 ge_o635 f726 f727 f728 f729 EL725 ) f726 (lenOf pd_9 rfl) rfl rfl (by decide) (by decide) (by decide) (by decide) rfl at_177 rfl (fun v730 T730 L730 X730 hQ730 => ?_)
            obtain ⟨o730_0, kq_o730_0, rfl, Nq730, Kq730, lq_o730_0, u730_0, ovu730_0, u730_1, u730_2, u730_3⟩ := hQ730
            have f731 := (((f636.ext E635).keep Kq640).keep Kq725)
            have ne_o1_o730_0 : o1 ≠ o730_0 := Nat.ne_of_lt (Nat.lt_of_lt_of_le f731.lt lq_o730_0)
            have f732 := (((f637.ext E635).keep Kq640).keep Kq725)
            have ne_o3_o730_0 : o3 ≠ o730_0 := Nat.ne_of_lt (Nat.lt_of_lt_of_le f732.lt lq_o730_0)
            have f733 := (((f638.ext E635).keep Kq640).keep Kq725)
            have ne_o6_o730_0 : o6 ≠ o730_0 := Nat.ne_of_lt (Nat.lt_of_lt_of_le f733.lt lq_o730_0)
            have f734 := (((f639.ext E635).keep Kq640).keep Kq725)
            have ne_o10_o730_0 : o10 ≠ o730_0 := Nat.ne_of_lt (Nat.lt_of_lt_of_le f734.lt lq_o730_0)
            have f735 := (((u634_3.ext E635).keep Kq640 (ninS ne_o623_0_o635 nin0)).keep Kq725 nin0)
            have ne_o623_0_o730_0 : o623_0 ≠ o730_0 := Nat.ne_of_lt (Nat.lt_of_lt_of_le f735.lt lq_o730_0)
            have ne_o635_o730_0 : o635 ≠ o730_0 := Nat.ne_of_lt (Nat.lt_of_lt_of_le f726.lt lq_o730_0)
            have ge_o730_0 : Z.heap.size ≤ o730_0 := Nat.le_trans (old_le O725) lq_o730_0
            obtain ⟨h730, e730⟩ : ∃ z, T730.heap = z := ⟨_, rfl⟩
            rw [e730] at Kq730 u730_0 u730_1 u730_2 u730_3
            have N730 := Fr.app N725 Nq730
            have O730 := (O725).keep Kq730 (allS ge_o635 all0)
            have F730 := OwnF.ext O730.2 FZ
            show Go p e below _ (T730.setTop (mkF m 180 #[.val (.int i0), .val (.int i1), .val (.int i2), .val (.int i3), .val (.int i4), .val (.int i5), .val (.int (3 : Int32)), .val (.int (2 : Int32)), .val (.ref o1), .val (.ref o3), .val (.ref o6), .val (.ref o10), .val (.ref o635), .unset] [(.int (1 : Int32))]))
            refine s_pop B X730 (pc' := 181) at_180 rfl rfl ?_
            refine s_iload B X730 (pc' := 183) at_181 rfl rfl ?_
            refine s_iconst B X730 (pc' := 184) (v := (2 : Int32)) at_183 rfl rfl ?_
            refine s_icmpN B X730 (pc' := 187) at_184 (by decide) rfl ?_
            refine s_aload B X730 (pc' := 189) at_187 rfl rfl rfl ?_
            refine s_iload B X730 (pc' := 191) at_189 rfl rfl ?_
            refine c_static B X730 (y := mn2) (pc' := 194) (argsL := [(.int i5)]) (under := [(.ref o635)]) (W := 1) e730 (tw26 hw) (tw27 hw) (tw29 hw) (tw28 hw) (by decide) (rm_valueOf l Z a0 hw i5 w_D h730 FZ O730) (lenOf pd_4 rfl) rfl rfl (by decide) (by decide) (by decide) (by decide) rfl at_191 rfl (fun v736 T736 L736 X736 hQ => ?_)
            obtain ⟨qL736, rfl, Nq736, Kq736, EL736⟩ := hQ
            obtain ⟨h736, e736⟩ : ∃ z, T736.heap = z := ⟨_, rfl⟩
            rw [e736] at Kq736 EL736
            have N736 := Fr.app N730 Nq736
            have O736 := (O730).keep Kq736 all0
            have F736 := OwnF.ext O736.2 FZ
            show Go p e below _ (T736.setTop (mkF m 194 #[.val (.int i0), .val (.int i1), .val (.int i2), .val (.int i3), .val (.int i4), .val (.int i5), .val (.int (3 : Int32)), .val (.int (2 : Int32)), .val (.ref o1), .val (.ref o3), .val (.ref o6), .val (.ref o10), .val (.ref o635), .unset] [(.ref qL736), (.ref o635)]))
            have f737 := ((f726.keep Kq730).keep Kq736)
            have f738 := (u730_1.keep Kq736 nin0)
            have f739 := (u730_2.keep Kq736 nin0)
            have f740 := (u730_3.keep Kq736 nin0)
            have f741 := (u730_0.keep Kq736 nin0)
            have f742 := ((EL725.keep Kq730).keep Kq736)
            refine c_virtual B X736 (y := mn15) (pc' := 197) (argsL := [(.ref qL736)]) (under := []) (W := 0) e736 (tw33 hw) (tw34 hw) (tw36 hw) (tw35 hw) (tw37 hw) (tw2 hw) (by decide) (mm6_17 l Z a0 hw o635 qL736 o730_0 qL725 kq_o730_0 w_D h736 FZ O736 ge_o635 f737 f738 f739 f740 EL736 ge_o730_0 f741 ovu730_0 f742 ne_o635_o730_0 ) f737 (lenOf pd_9 rfl) rfl rfl (by decide) (by decide) (by decide) (by decide) rfl at_194 rfl (fun v743 T743 L743 X743 hQ743 => ?_)
            obtain ⟨rfl, Nq743, Kq743, u743_0, u743_1, u743_2, u743_3⟩ := hQ743
            obtain ⟨h743, e743⟩ : ∃ z, T743.heap = z := ⟨_, rfl⟩
            rw [e743] at Kq743 u743_0 u743_1 u743_2 u743_3
            have N743 := Fr.app N736 Nq743
            have O743 := (O736).keep Kq743 (allS ge_o635 (allS ge_o730_0 all0))
            have F743 := OwnF.ext O743.2 FZ
            show Go p e below _ (T743.setTop (mkF m 197 #[.val (.int i0), .val (.int i1), .val (.int i2), .val (.int i3), .val (.int i4), .val (.int i5), .val (.int (3 : Int32)), .val (.int (2 : Int32)), .val (.ref o1), .val (.ref o3), .val (.ref o6), .val (.ref o10), .val (.ref o635), .unset] [(.int (1 : Int32))]))
            refine s_pop B X743 (pc' := 198) at_197 rfl rfl ?_
            refine s_iload B X743 (pc' := 200) at_198 rfl rfl ?_
            refine s_iconst B X743 (pc' := 201) (v := (3 : Int32)) at_200 rfl rfl ?_
            refine s_icmpY B X743 (pc' := 214) at_201 (by decide) (by decide) (by decide) ?_
            refine s_iload B X743 (pc' := 216) at_214 rfl rfl ?_
            refine s_ifY B X743 (pc' := 228) at_216 (by decide) (by decide) (by decide) ?_
            refine s_iconst B X743 (pc' := 229) (v := (0 : Int32)) at_228 rfl rfl ?_
            refine s_istore B X743 (pc' := 231) (Ls' := #[.val (.int i0), .val (.int i1), .val (.int i2), .val (.int i3), .val (.int i4), .val (.int i5), .val (.int (3 : Int32)), .val (.int (2 : Int32)), .val (.ref o1), .val (.ref o3), .val (.ref o6), .val (.ref o10), .val (.ref o635), .val (.int (0 : Int32))]) at_229 rfl rfl ?_
            refine s_new B X743 (pc' := 234) (n0 := 2) e743 (tw64 hw) (tw65 hw) (tw66 hw) (by decide) (by decide) at_231 rfl (fun T744 h744 o744 g744 X744 e744 E744 A744 D744 => ?_)
            have f745 := (((f731.keep Kq730).keep Kq736).keep Kq743)
            have ne_o1_o744 : o1 ≠ o744 := Nat.ne_of_lt (g744 ▸ f745.lt)
            have f746 := (((f732.keep Kq730).keep Kq736).keep Kq743)
            have ne_o3_o744 : o3 ≠ o744 := Nat.ne_of_lt (g744 ▸ f746.lt)
            have f747 := (((f733.keep Kq730).keep Kq736).keep Kq743)
            have ne_o6_o744 : o6 ≠ o744 := Nat.ne_of_lt (g744 ▸ f747.lt)
            have f748 := (((f734.keep Kq730).keep Kq736).keep Kq743)
            have ne_o10_o744 : o10 ≠ o744 := Nat.ne_of_lt (g744 ▸ f748.lt)
            have f749 := (((f735.keep Kq730 (ninS ne_o623_0_o635 nin0)).keep Kq736 nin0).keep Kq743 (ninS ne_o623_0_o635 (ninS ne_o623_0_o730_0 nin0)))
            have ne_o623_0_o744 : o623_0 ≠ o744 := Nat.ne_of_lt (g744 ▸ f749.lt)
            have f750 := (f737.keep Kq743)
            have ne_o635_o744 : o635 ≠ o744 := Nat.ne_of_lt (g744 ▸ f750.lt)
            have ne_o730_0_o744 : o730_0 ≠ o744 := Nat.ne_of_lt (g744 ▸ u743_3.lt)
            have ge_o744 : Z.heap.size ≤ o744 := g744 ▸ old_le O743
            have O744 := (O743).ext E744
            have F744 := OwnF.ext O744.2 FZ
            have D744_each : Fld Z h744 o744 "com/example/lichen/lichen/solver/TermSubsumption$Ways" "each" "Ljava/util/List;" .null := D744 (Or.inr (tw77 hw)) (ty := (.object "java/util/List")) (by decide)
            have D744_producers : Fld Z h744 o744 "com/example/lichen/lichen/solver/TermSubsumption$Ways" "producers" "Ljava/util/List;" .null := D744 (Or.inr (tw79 hw)) (ty := (.object "java/util/List")) (by decide)
            show Go p e below _ (T744.setTop (mkF m 234 #[.val (.int i0), .val (.int i1), .val (.int i2), .val (.int i3), .val (.int i4), .val (.int i5), .val (.int (3 : Int32)), .val (.int (2 : Int32)), .val (.ref o1), .val (.ref o3), .val (.ref o6), .val (.ref o10), .val (.ref o635), .val (.int (0 : Int32))] [(.ref o744)]))
            refine s_dup B X744 (pc' := 235) at_234 rfl rfl ?_
            refine s_aload B X744 (pc' := 237) at_235 rfl rfl rfl ?_
            refine s_aload B X744 (pc' := 239) at_237 rfl rfl rfl ?_
            have f751 := (f748.ext E744)
            have f752 := (((((((u634_0.ext E635).keep Kq640 (ninS ne_o10_o635 nin0)).keep Kq725 nin0).keep Kq730 (ninS ne_o10_o635 nin0)).keep Kq736 nin0).keep Kq743 (ninS ne_o10_o635 (ninS ne_o10_o730_0 nin0))).ext E744)
            have f753 := (((((((u634_1.ext E635).keep Kq640 (ninS ne_o10_o635 nin0)).keep Kq725 nin0).keep Kq730 (ninS ne_o10_o635 nin0)).keep Kq736 nin0).keep Kq743 (ninS ne_o10_o635 (ninS ne_o10_o730_0 nin0))).ext E744)
            have f754 := (((((((u634_2.ext E635).keep Kq640 (ninS ne_o10_o635 nin0)).keep Kq725 nin0).keep Kq730 (ninS ne_o10_o635 nin0)).keep Kq736 nin0).keep Kq743 (ninS ne_o10_o635 (ninS ne_o10_o730_0 nin0))).ext E744)
            have f755 := (f750.ext E744)
            have f756 := (u743_0.ext E744)
            have f757 := (u743_1.ext E744)
            have f758 := (u743_2.ext E744)
            have f759 := (f749.ext E744)
            have f760 := (u743_3.ext E744)
            have f761 := (f745.ext E744)
            have f762 := (f746.ext E744)
            have f763 := (f747.ext E744)
            have f764 := ((f742.keep Kq743).ext E744)
            have f765 := ((EL736.keep Kq743).ext E744)
            refine c_init B X744 (y := mn7) (pc' := 242) (argsL := [(.ref o10), (.ref o635)]) (under := [(.ref o744)]) (W := 1) e744 rfl (tw67 hw) (tw68 hw) (tw69 hw) (tw66 hw) (by decide) (mm11_56 l Z a0 hw o744 o10 o635 o623_0 o730_0 o1 o3 o6 qL725 qL736 kq_o623_0 kq_o730_0 w_D h744 FZ O744 ge_o744 A744 D744_each D744_producers ge_o10 f751 f752 f753 f754 ge_o635 f755 f756 f757 f758 ge_o623_0 f759 ovu623_0 ge_o730_0 f760 ovu730_0 ge_o1 f761 ge_o3 f762 ge_o6 f763 f764 f765 (Ne.symm ne_o10_o744) (Ne.symm ne_o635_o744) (Ne.symm ne_o623_0_o744) (Ne.symm ne_o730_0_o744) (Ne.symm ne_o1_o744) (Ne.symm ne_o3_o744) (Ne.symm ne_o6_o744) ne_o10_o635 ne_o10_o623_0 ne_o10_o730_0 (Ne.symm ne_o1_o10) (Ne.symm ne_o3_o10) (Ne.symm ne_o6_o10) (Ne.symm ne_o623_0_o635) ne_o635_o730_0 (Ne.symm ne_o1_o635) (Ne.symm ne_o3_o635) (Ne.symm ne_o6_o635) ne_o623_0_o730_0 (Ne.symm ne_o1_o623_0) (Ne.symm ne_o3_o623_0) (Ne.symm ne_o6_o623_0) (Ne.symm ne_o1_o730_0) (Ne.symm ne_o3_o730_0) (Ne.symm ne_o6_o730_0) ne_o1_o3 ne_o1_o6 ne_o3_o6 ) (lenOf pd_2 rfl) rfl rfl (by decide) (by decide) (by decide) (by decide) rfl at_239 rfl (fun v766 T766 L766 X766 hQ766 => ?_)
            obtain ⟨rfl, Nq766, Kq766, u766_0, u766_1⟩ := hQ766
            obtain ⟨h766, e766⟩ : ∃ z, T766.heap = z := ⟨_, rfl⟩
            rw [e766] at Kq766 u766_0 u766_1
            have N766 := Fr.app N743 Nq766
            have O766 := (O744).keep Kq766 (allS ge_o744 all0)
            have F766 := OwnF.ext O766.2 FZ
            show Go p e below _ (T766.setTop (mkF m 242 #[.val (.int i0), .val (.int i1), .val (.int i2), .val (.int i3), .val (.int i4), .val (.int i5), .val (.int (3 : Int32)), .val (.int (2 : Int32)), .val (.ref o1), .val (.ref o3), .val (.ref o6), .val (.ref o10), .val (.ref o635), .val (.int (0 : Int32))] [(.ref o744)]))
            have f767 := (A744.keep Kq766)
            have f768 := (f751.keep Kq766)
            have f769 := (f752.keep Kq766 (ninS ne_o10_o744 nin0))
            have f770 := (f753.keep Kq766 (ninS ne_o10_o744 nin0))
            have f771 := (f754.keep Kq766 (ninS ne_o10_o744 nin0))
            have f772 := (f755.keep Kq766)
            have f773 := (f756.keep Kq766 (ninS ne_o635_o744 nin0))
            have f774 := (f757.keep Kq766 (ninS ne_o635_o744 nin0))
            have f775 := (f758.keep Kq766 (ninS ne_o635_o744 nin0))
            have f776 := (f759.keep Kq766 (ninS ne_o623_0_o744 nin0))
            have f777 := (f760.keep Kq766 (ninS ne_o730_0_o744 nin0))
            have f778 := (f761.keep Kq766)
            have f779 := (f762.keep Kq766)
            have f780 := (f763.keep Kq766)
            have f781 := (f764.keep Kq766)
            have f782 := (f765.keep Kq766)
            refine p_virtual B X766 (y := mn10) (pc' := 245) (argsL := []) (under := []) (W := 0) e766 (tw80 hw) (tw81 hw) (tw83 hw) (tw82 hw) (tw84 hw) (tw66 hw) (by decide) (mm13_57 l Z a0 hw o744 o10 o635 o623_0 o730_0 o1 o3 o6 qL725 qL736 kq_o623_0 kq_o730_0 w_D h766 FZ O766 ge_o744 f767 u766_0 u766_1 ge_o10 f768 f769 f770 f771 ge_o635 f772 f773 f774 f775 ge_o623_0 f776 ovu623_0 ge_o730_0 f777 ovu730_0 ge_o1 f778 ge_o3 f779 ge_o6 f780 f781 f782 (Ne.symm ne_o10_o744) (Ne.symm ne_o635_o744) (Ne.symm ne_o623_0_o744) (Ne.symm ne_o730_0_o744) (Ne.symm ne_o1_o744) (Ne.symm ne_o3_o744) (Ne.symm ne_o6_o744) ne_o10_o635 ne_o10_o623_0 ne_o10_o730_0 (Ne.symm ne_o1_o10) (Ne.symm ne_o3_o10) (Ne.symm ne_o6_o10) (Ne.symm ne_o623_0_o635) ne_o635_o730_0 (Ne.symm ne_o1_o635) (Ne.symm ne_o3_o635) (Ne.symm ne_o6_o635) ne_o623_0_o730_0 (Ne.symm ne_o1_o623_0) (Ne.symm ne_o3_o623_0) (Ne.symm ne_o6_o623_0) (Ne.symm ne_o1_o730_0) (Ne.symm ne_o3_o730_0) (Ne.symm ne_o6_o730_0) ne_o1_o3 ne_o1_o6 ne_o3_o6 ) f767 (lenOf pd_3 rfl) rfl rfl (by decide) (by decide) rfl rfl (by decide) (by decide) rfl at_242 rfl (fun T783 X783 e783 => ?_)
            show Go p e below _ (T783.setTop (mkF m 245 #[.val (.int i0), .val (.int i1), .val (.int i2), .val (.int i3), .val (.int i4), .val (.int i5), .val (.int (3 : Int32)), .val (.int (2 : Int32)), .val (.ref o1), .val (.ref o3), .val (.ref o6), .val (.ref o10), .val (.ref o635), .val (.int (0 : Int32))] [(.int (0 : Int32))]))
            refine s_iload B X783 (pc' := 247) at_245 rfl rfl ?_
            refine s_icmpN B X783 (pc' := 250) at_247 (by decide) rfl ?_
            refine s_iconst B X783 (pc' := 251) (v := (1 : Int32)) at_250 rfl rfl ?_
            refine s_goto B X783 (pc' := 255) at_251 (by decide) (by decide) ?_
            exact r_nar B X783 (t := .boolean) (by simp) rfl at_255 ⟨rfl, N766⟩ (by decide) (by decide)
          · rw [hv641]
            show Go p e below _ (T640.setTop (mkF m 165 #[.val (.int i0), .val (.int i1), .val (.int i2), .val (.int i3), .val (.int i4), .val (.int i5), .val (.int (3 : Int32)), .val (.int (3 : Int32)), .val (.ref o1), .val (.ref o3), .val (.ref o6), .val (.ref o10), .val (.ref o635), .unset] []))
            refine s_iload B X640 (pc' := 167) at_165 rfl rfl ?_
            refine s_iconst B X640 (pc' := 168) (v := (1 : Int32)) at_167 rfl rfl ?_
            refine s_icmpN B X640 (pc' := 171) at_168 (by decide) rfl ?_
            refine s_aload B X640 (pc' := 173) at_171 rfl rfl rfl ?_
            refine s_iloadN B X640 (pc' := 174) at_173 rfl rfl ?_
            refine c_static B X640 (y := mn2) (pc' := 177) (argsL := [(.int i2)]) (under := [(.ref o635)]) (W := 1) e640 (tw26 hw) (tw27 hw) (tw29 hw) (tw28 hw) (by decide) (rm_valueOf l Z a0 hw i2 w_D h640 FZ O640) (lenOf pd_4 rfl) rfl rfl (by decide) (by decide) (by decide) (by decide) rfl at_174 rfl (fun v784 T784 L784 X784 hQ => ?_)
            obtain ⟨qL784, rfl, Nq784, Kq784, EL784⟩ := hQ
            obtain ⟨h784, e784⟩ : ∃ z, T784.heap = z := ⟨_, rfl⟩
            rw [e784] at Kq784 EL784
            have N784 := Fr.app N640 Nq784
            have O784 := (O640).keep Kq784 all0
            have F784 := OwnF.ext O784.2 FZ
            show Go p e below _ (T784.setTop (mkF m 177 #[.val (.int i0), .val (.int i1), .val (.int i2), .val (.int i3), .val (.int i4), .val (.int i5), .val (.int (3 : Int32)), .val (.int (3 : Int32)), .val (.ref o1), .val (.ref o3), .val (.ref o6), .val (.ref o10), .val (.ref o635), .unset] [(.ref qL784), (.ref o635)]))
            have f785 := ((A635.keep Kq640).keep Kq784)
            have f786 := (u640_0.keep Kq784 nin0)
            have f787 := (u640_1.keep Kq784 nin0)
            have f788 := (u640_2.keep Kq784 nin0)
            refine c_virtual B X784 (y := mn15) (pc' := 180) (argsL := [(.ref qL784)]) (under := []) (W := 0) e784 (tw33 hw) (tw34 hw) (tw36 hw) (tw35 hw) (tw37 hw) (tw2 hw) (by decide) (mm6_10 l Z a0 hw o635 qL784 w_D h784 FZ O784 ge_o635 f785 f786 f787 f788 EL784 ) f785 (lenOf pd_9 rfl) rfl rfl (by decide) (by decide) (by decide) (by decide) rfl at_177 rfl (fun v789 T789 L789 X789 hQ789 => ?_)
            obtain ⟨o789_0, kq_o789_0, rfl, Nq789, Kq789, lq_o789_0, u789_0, ovu789_0, u789_1, u789_2, u789_3⟩ := hQ789
            have f790 := (((f636.ext E635).keep Kq640).keep Kq784)
            have ne_o1_o789_0 : o1 ≠ o789_0 := Nat.ne_of_lt (Nat.lt_of_lt_of_le f790.lt lq_o789_0)
            have f791 := (((f637.ext E635).keep Kq640).keep Kq784)
            have ne_o3_o789_0 : o3 ≠ o789_0 := Nat.ne_of_lt (Nat.lt_of_lt_of_le f791.lt lq_o789_0)
            have f792 := (((f638.ext E635).keep Kq640).keep Kq784)
            have ne_o6_o789_0 : o6 ≠ o789_0 := Nat.ne_of_lt (Nat.lt_of_lt_of_le f792.lt lq_o789_0)
            have f793 := (((f639.ext E635).keep Kq640).keep Kq784)
            have ne_o10_o789_0 : o10 ≠ o789_0 := Nat.ne_of_lt (Nat.lt_of_lt_of_le f793.lt lq_o789_0)
            have f794 := (((u634_3.ext E635).keep Kq640 (ninS ne_o623_0_o635 nin0)).keep Kq784 nin0)
            have ne_o623_0_o789_0 : o623_0 ≠ o789_0 := Nat.ne_of_lt (Nat.lt_of_lt_of_le f794.lt lq_o789_0)
            have ne_o635_o789_0 : o635 ≠ o789_0 := Nat.ne_of_lt (Nat.lt_of_lt_of_le f785.lt lq_o789_0)
            have ge_o789_0 : Z.heap.size ≤ o789_0 := Nat.le_trans (old_le O784) lq_o789_0
            obtain ⟨h789, e789⟩ : ∃ z, T789.heap = z := ⟨_, rfl⟩
            rw [e789] at Kq789 u789_0 u789_1 u789_2 u789_3
            have N789 := Fr.app N784 Nq789
            have O789 := (O784).keep Kq789 (allS ge_o635 all0)
            have F789 := OwnF.ext O789.2 FZ
            show Go p e below _ (T789.setTop (mkF m 180 #[.val (.int i0), .val (.int i1), .val (.int i2), .val (.int i3), .val (.int i4), .val (.int i5), .val (.int (3 : Int32)), .val (.int (3 : Int32)), .val (.ref o1), .val (.ref o3), .val (.ref o6), .val (.ref o10), .val (.ref o635), .unset] [(.int (1 : Int32))]))
            refine s_pop B X789 (pc' := 181) at_180 rfl rfl ?_
            refine s_iload B X789 (pc' := 183) at_181 rfl rfl ?_
            refine s_iconst B X789 (pc' := 184) (v := (2 : Int32)) at_183 rfl rfl ?_
            refine s_icmpN B X789 (pc' := 187) at_184 (by decide) rfl ?_
            refine s_aload B X789 (pc' := 189) at_187 rfl rfl rfl ?_
            refine s_iload B X789 (pc' := 191) at_189 rfl rfl ?_
            refine c_static B X789 (y := mn2) (pc' := 194) (argsL := [(.int i5)]) (under := [(.ref o635)]) (W := 1) e789 (tw26 hw) (tw27 hw) (tw29 hw) (tw28 hw) (by decide) (rm_valueOf l Z a0 hw i5 w_D h789 FZ O789) (lenOf pd_4 rfl) rfl rfl (by decide) (by decide) (by decide) (by decide) rfl at_191 rfl (fun v795 T795 L795 X795 hQ => ?_)
            obtain ⟨qL795, rfl, Nq795, Kq795, EL795⟩ := hQ
            obtain ⟨h795, e795⟩ : ∃ z, T795.heap = z := ⟨_, rfl⟩
            rw [e795] at Kq795 EL795
            have N795 := Fr.app N789 Nq795
            have O795 := (O789).keep Kq795 all0
            have F795 := OwnF.ext O795.2 FZ
            show Go p e below _ (T795.setTop (mkF m 194 #[.val (.int i0), .val (.int i1), .val (.int i2), .val (.int i3), .val (.int i4), .val (.int i5), .val (.int (3 : Int32)), .val (.int (3 : Int32)), .val (.ref o1), .val (.ref o3), .val (.ref o6), .val (.ref o10), .val (.ref o635), .unset] [(.ref qL795), (.ref o635)]))
            have f796 := ((f785.keep Kq789).keep Kq795)
            have f797 := (u789_1.keep Kq795 nin0)
            have f798 := (u789_2.keep Kq795 nin0)
            have f799 := (u789_3.keep Kq795 nin0)
            have f800 := (u789_0.keep Kq795 nin0)
            have f801 := ((EL784.keep Kq789).keep Kq795)
            refine c_virtual B X795 (y := mn15) (pc' := 197) (argsL := [(.ref qL795)]) (under := []) (W := 0) e795 (tw33 hw) (tw34 hw) (tw36 hw) (tw35 hw) (tw37 hw) (tw2 hw) (by decide) (mm6_17 l Z a0 hw o635 qL795 o789_0 qL784 kq_o789_0 w_D h795 FZ O795 ge_o635 f796 f797 f798 f799 EL795 ge_o789_0 f800 ovu789_0 f801 ne_o635_o789_0 ) f796 (lenOf pd_9 rfl) rfl rfl (by decide) (by decide) (by decide) (by decide) rfl at_194 rfl (fun v802 T802 L802 X802 hQ802 => ?_)
            obtain ⟨rfl, Nq802, Kq802, u802_0, u802_1, u802_2, u802_3⟩ := hQ802
            obtain ⟨h802, e802⟩ : ∃ z, T802.heap = z := ⟨_, rfl⟩
            rw [e802] at Kq802 u802_0 u802_1 u802_2 u802_3
            have N802 := Fr.app N795 Nq802
            have O802 := (O795).keep Kq802 (allS ge_o635 (allS ge_o789_0 all0))
            have F802 := OwnF.ext O802.2 FZ
            show Go p e below _ (T802.setTop (mkF m 197 #[.val (.int i0), .val (.int i1), .val (.int i2), .val (.int i3), .val (.int i4), .val (.int i5), .val (.int (3 : Int32)), .val (.int (3 : Int32)), .val (.ref o1), .val (.ref o3), .val (.ref o6), .val (.ref o10), .val (.ref o635), .unset] [(.int (1 : Int32))]))
            refine s_pop B X802 (pc' := 198) at_197 rfl rfl ?_
            refine s_iload B X802 (pc' := 200) at_198 rfl rfl ?_
            refine s_iconst B X802 (pc' := 201) (v := (3 : Int32)) at_200 rfl rfl ?_
            refine s_icmpN B X802 (pc' := 204) at_201 (by decide) rfl ?_
            refine s_aload B X802 (pc' := 206) at_204 rfl rfl rfl ?_
            refine s_iloadN B X802 (pc' := 207) at_206 rfl rfl ?_
            refine c_static B X802 (y := mn2) (pc' := 210) (argsL := [(.int i3)]) (under := [(.ref o635)]) (W := 1) e802 (tw26 hw) (tw27 hw) (tw29 hw) (tw28 hw) (by decide) (rm_valueOf l Z a0 hw i3 w_D h802 FZ O802) (lenOf pd_4 rfl) rfl rfl (by decide) (by decide) (by decide) (by decide) rfl at_207 rfl (fun v803 T803 L803 X803 hQ => ?_)
            obtain ⟨qL803, rfl, Nq803, Kq803, EL803⟩ := hQ
            obtain ⟨h803, e803⟩ : ∃ z, T803.heap = z := ⟨_, rfl⟩
            rw [e803] at Kq803 EL803
            have N803 := Fr.app N802 Nq803
            have O803 := (O802).keep Kq803 all0
            have F803 := OwnF.ext O803.2 FZ
            show Go p e below _ (T803.setTop (mkF m 210 #[.val (.int i0), .val (.int i1), .val (.int i2), .val (.int i3), .val (.int i4), .val (.int i5), .val (.int (3 : Int32)), .val (.int (3 : Int32)), .val (.ref o1), .val (.ref o3), .val (.ref o6), .val (.ref o10), .val (.ref o635), .unset] [(.ref qL803), (.ref o635)]))
            have f804 := ((f796.keep Kq802).keep Kq803)
            have f805 := (u802_0.keep Kq803 nin0)
            have f806 := (u802_1.keep Kq803 nin0)
            have f807 := (u802_2.keep Kq803 nin0)
            have f808 := (u802_3.keep Kq803 nin0)
            have f809 := ((f801.keep Kq802).keep Kq803)
            have f810 := ((EL795.keep Kq802).keep Kq803)
            refine c_virtual B X803 (y := mn15) (pc' := 213) (argsL := [(.ref qL803)]) (under := []) (W := 0) e803 (tw33 hw) (tw34 hw) (tw36 hw) (tw35 hw) (tw37 hw) (tw2 hw) (by decide) (mm6_22 l Z a0 hw o635 qL803 o789_0 qL784 qL795 kq_o789_0 w_D h803 FZ O803 ge_o635 f804 f805 f806 f807 EL803 ge_o789_0 f808 ovu789_0 f809 f810 ne_o635_o789_0 ) f804 (lenOf pd_9 rfl) rfl rfl (by decide) (by decide) (by decide) (by decide) rfl at_210 rfl (fun v811 T811 L811 X811 hQ811 => ?_)
            obtain ⟨rfl, Nq811, Kq811, u811_0, u811_1, u811_2, u811_3⟩ := hQ811
            obtain ⟨h811, e811⟩ : ∃ z, T811.heap = z := ⟨_, rfl⟩
            rw [e811] at Kq811 u811_0 u811_1 u811_2 u811_3
            have N811 := Fr.app N803 Nq811
            have O811 := (O803).keep Kq811 (allS ge_o635 (allS ge_o789_0 all0))
            have F811 := OwnF.ext O811.2 FZ
            show Go p e below _ (T811.setTop (mkF m 213 #[.val (.int i0), .val (.int i1), .val (.int i2), .val (.int i3), .val (.int i4), .val (.int i5), .val (.int (3 : Int32)), .val (.int (3 : Int32)), .val (.ref o1), .val (.ref o3), .val (.ref o6), .val (.ref o10), .val (.ref o635), .unset] [(.int (1 : Int32))]))
            refine s_pop B X811 (pc' := 214) at_213 rfl rfl ?_
            refine s_iload B X811 (pc' := 216) at_214 rfl rfl ?_
            refine s_ifY B X811 (pc' := 228) at_216 (by decide) (by decide) (by decide) ?_
            refine s_iconst B X811 (pc' := 229) (v := (0 : Int32)) at_228 rfl rfl ?_
            refine s_istore B X811 (pc' := 231) (Ls' := #[.val (.int i0), .val (.int i1), .val (.int i2), .val (.int i3), .val (.int i4), .val (.int i5), .val (.int (3 : Int32)), .val (.int (3 : Int32)), .val (.ref o1), .val (.ref o3), .val (.ref o6), .val (.ref o10), .val (.ref o635), .val (.int (0 : Int32))]) at_229 rfl rfl ?_
            refine s_new B X811 (pc' := 234) (n0 := 2) e811 (tw64 hw) (tw65 hw) (tw66 hw) (by decide) (by decide) at_231 rfl (fun T812 h812 o812 g812 X812 e812 E812 A812 D812 => ?_)
            have f813 := (((((f790.keep Kq789).keep Kq795).keep Kq802).keep Kq803).keep Kq811)
            have ne_o1_o812 : o1 ≠ o812 := Nat.ne_of_lt (g812 ▸ f813.lt)
            have f814 := (((((f791.keep Kq789).keep Kq795).keep Kq802).keep Kq803).keep Kq811)
            have ne_o3_o812 : o3 ≠ o812 := Nat.ne_of_lt (g812 ▸ f814.lt)
            have f815 := (((((f792.keep Kq789).keep Kq795).keep Kq802).keep Kq803).keep Kq811)
            have ne_o6_o812 : o6 ≠ o812 := Nat.ne_of_lt (g812 ▸ f815.lt)
            have f816 := (((((f793.keep Kq789).keep Kq795).keep Kq802).keep Kq803).keep Kq811)
            have ne_o10_o812 : o10 ≠ o812 := Nat.ne_of_lt (g812 ▸ f816.lt)
            have f817 := (((((f794.keep Kq789 (ninS ne_o623_0_o635 nin0)).keep Kq795 nin0).keep Kq802 (ninS ne_o623_0_o635 (ninS ne_o623_0_o789_0 nin0))).keep Kq803 nin0).keep Kq811 (ninS ne_o623_0_o635 (ninS ne_o623_0_o789_0 nin0)))
            have ne_o623_0_o812 : o623_0 ≠ o812 := Nat.ne_of_lt (g812 ▸ f817.lt)
            have f818 := (f804.keep Kq811)
            have ne_o635_o812 : o635 ≠ o812 := Nat.ne_of_lt (g812 ▸ f818.lt)
            have ne_o789_0_o812 : o789_0 ≠ o812 := Nat.ne_of_lt (g812 ▸ u811_3.lt)
            have ge_o812 : Z.heap.size ≤ o812 := g812 ▸ old_le O811
            have O812 := (O811).ext E812
            have F812 := OwnF.ext O812.2 FZ
            have D812_each : Fld Z h812 o812 "com/example/lichen/lichen/solver/TermSubsumption$Ways" "each" "Ljava/util/List;" .null := D812 (Or.inr (tw77 hw)) (ty := (.object "java/util/List")) (by decide)
            have D812_producers : Fld Z h812 o812 "com/example/lichen/lichen/solver/TermSubsumption$Ways" "producers" "Ljava/util/List;" .null := D812 (Or.inr (tw79 hw)) (ty := (.object "java/util/List")) (by decide)
            show Go p e below _ (T812.setTop (mkF m 234 #[.val (.int i0), .val (.int i1), .val (.int i2), .val (.int i3), .val (.int i4), .val (.int i5), .val (.int (3 : Int32)), .val (.int (3 : Int32)), .val (.ref o1), .val (.ref o3), .val (.ref o6), .val (.ref o10), .val (.ref o635), .val (.int (0 : Int32))] [(.ref o812)]))
            refine s_dup B X812 (pc' := 235) at_234 rfl rfl ?_
            refine s_aload B X812 (pc' := 237) at_235 rfl rfl rfl ?_
            refine s_aload B X812 (pc' := 239) at_237 rfl rfl rfl ?_
            have f819 := (f816.ext E812)
            have f820 := (((((((((u634_0.ext E635).keep Kq640 (ninS ne_o10_o635 nin0)).keep Kq784 nin0).keep Kq789 (ninS ne_o10_o635 nin0)).keep Kq795 nin0).keep Kq802 (ninS ne_o10_o635 (ninS ne_o10_o789_0 nin0))).keep Kq803 nin0).keep Kq811 (ninS ne_o10_o635 (ninS ne_o10_o789_0 nin0))).ext E812)
            have f821 := (((((((((u634_1.ext E635).keep Kq640 (ninS ne_o10_o635 nin0)).keep Kq784 nin0).keep Kq789 (ninS ne_o10_o635 nin0)).keep Kq795 nin0).keep Kq802 (ninS ne_o10_o635 (ninS ne_o10_o789_0 nin0))).keep Kq803 nin0).keep Kq811 (ninS ne_o10_o635 (ninS ne_o10_o789_0 nin0))).ext E812)
            have f822 := (((((((((u634_2.ext E635).keep Kq640 (ninS ne_o10_o635 nin0)).keep Kq784 nin0).keep Kq789 (ninS ne_o10_o635 nin0)).keep Kq795 nin0).keep Kq802 (ninS ne_o10_o635 (ninS ne_o10_o789_0 nin0))).keep Kq803 nin0).keep Kq811 (ninS ne_o10_o635 (ninS ne_o10_o789_0 nin0))).ext E812)
            have f823 := (f818.ext E812)
            have f824 := (u811_0.ext E812)
            have f825 := (u811_1.ext E812)
            have f826 := (u811_2.ext E812)
            have f827 := (f817.ext E812)
            have f828 := (u811_3.ext E812)
            have f829 := (f813.ext E812)
            have f830 := (f814.ext E812)
            have f831 := (f815.ext E812)
            have f832 := ((f809.keep Kq811).ext E812)
            have f833 := ((f810.keep Kq811).ext E812)
            have f834 := ((EL803.keep Kq811).ext E812)
            refine c_init B X812 (y := mn7) (pc' := 242) (argsL := [(.ref o10), (.ref o635)]) (under := [(.ref o812)]) (W := 1) e812 rfl (tw67 hw) (tw68 hw) (tw69 hw) (tw66 hw) (by decide) (mm11_58 l Z a0 hw o812 o10 o635 o623_0 o789_0 o1 o3 o6 qL784 qL795 qL803 kq_o623_0 kq_o789_0 w_D h812 FZ O812 ge_o812 A812 D812_each D812_producers ge_o10 f819 f820 f821 f822 ge_o635 f823 f824 f825 f826 ge_o623_0 f827 ovu623_0 ge_o789_0 f828 ovu789_0 ge_o1 f829 ge_o3 f830 ge_o6 f831 f832 f833 f834 (Ne.symm ne_o10_o812) (Ne.symm ne_o635_o812) (Ne.symm ne_o623_0_o812) (Ne.symm ne_o789_0_o812) (Ne.symm ne_o1_o812) (Ne.symm ne_o3_o812) (Ne.symm ne_o6_o812) ne_o10_o635 ne_o10_o623_0 ne_o10_o789_0 (Ne.symm ne_o1_o10) (Ne.symm ne_o3_o10) (Ne.symm ne_o6_o10) (Ne.symm ne_o623_0_o635) ne_o635_o789_0 (Ne.symm ne_o1_o635) (Ne.symm ne_o3_o635) (Ne.symm ne_o6_o635) ne_o623_0_o789_0 (Ne.symm ne_o1_o623_0) (Ne.symm ne_o3_o623_0) (Ne.symm ne_o6_o623_0) (Ne.symm ne_o1_o789_0) (Ne.symm ne_o3_o789_0) (Ne.symm ne_o6_o789_0) ne_o1_o3 ne_o1_o6 ne_o3_o6 ) (lenOf pd_2 rfl) rfl rfl (by decide) (by decide) (by decide) (by decide) rfl at_239 rfl (fun v835 T835 L835 X835 hQ835 => ?_)
            obtain ⟨rfl, Nq835, Kq835, u835_0, u835_1⟩ := hQ835
            obtain ⟨h835, e835⟩ : ∃ z, T835.heap = z := ⟨_, rfl⟩
            rw [e835] at Kq835 u835_0 u835_1
            have N835 := Fr.app N811 Nq835
            have O835 := (O812).keep Kq835 (allS ge_o812 all0)
            have F835 := OwnF.ext O835.2 FZ
            show Go p e below _ (T835.setTop (mkF m 242 #[.val (.int i0), .val (.int i1), .val (.int i2), .val (.int i3), .val (.int i4), .val (.int i5), .val (.int (3 : Int32)), .val (.int (3 : Int32)), .val (.ref o1), .val (.ref o3), .val (.ref o6), .val (.ref o10), .val (.ref o635), .val (.int (0 : Int32))] [(.ref o812)]))
            have f836 := (A812.keep Kq835)
            have f837 := (f819.keep Kq835)
            have f838 := (f820.keep Kq835 (ninS ne_o10_o812 nin0))
            have f839 := (f821.keep Kq835 (ninS ne_o10_o812 nin0))
            have f840 := (f822.keep Kq835 (ninS ne_o10_o812 nin0))
            have f841 := (f823.keep Kq835)
            have f842 := (f824.keep Kq835 (ninS ne_o635_o812 nin0))
            have f843 := (f825.keep Kq835 (ninS ne_o635_o812 nin0))
            have f844 := (f826.keep Kq835 (ninS ne_o635_o812 nin0))
            have f845 := (f827.keep Kq835 (ninS ne_o623_0_o812 nin0))
            have f846 := (f828.keep Kq835 (ninS ne_o789_0_o812 nin0))
            have f847 := (f829.keep Kq835)
            have f848 := (f830.keep Kq835)
            have f849 := (f831.keep Kq835)
            have f850 := (f832.keep Kq835)
            have f851 := (f833.keep Kq835)
            have f852 := (f834.keep Kq835)
            refine p_virtual B X835 (y := mn10) (pc' := 245) (argsL := []) (under := []) (W := 0) e835 (tw80 hw) (tw81 hw) (tw83 hw) (tw82 hw) (tw84 hw) (tw66 hw) (by decide) (mm13_59 l Z a0 hw o812 o10 o635 o623_0 o789_0 o1 o3 o6 qL784 qL795 qL803 kq_o623_0 kq_o789_0 w_D h835 FZ O835 ge_o812 f836 u835_0 u835_1 ge_o10 f837 f838 f839 f840 ge_o635 f841 f842 f843 f844 ge_o623_0 f845 ovu623_0 ge_o789_0 f846 ovu789_0 ge_o1 f847 ge_o3 f848 ge_o6 f849 f850 f851 f852 (Ne.symm ne_o10_o812) (Ne.symm ne_o635_o812) (Ne.symm ne_o623_0_o812) (Ne.symm ne_o789_0_o812) (Ne.symm ne_o1_o812) (Ne.symm ne_o3_o812) (Ne.symm ne_o6_o812) ne_o10_o635 ne_o10_o623_0 ne_o10_o789_0 (Ne.symm ne_o1_o10) (Ne.symm ne_o3_o10) (Ne.symm ne_o6_o10) (Ne.symm ne_o623_0_o635) ne_o635_o789_0 (Ne.symm ne_o1_o635) (Ne.symm ne_o3_o635) (Ne.symm ne_o6_o635) ne_o623_0_o789_0 (Ne.symm ne_o1_o623_0) (Ne.symm ne_o3_o623_0) (Ne.symm ne_o6_o623_0) (Ne.symm ne_o1_o789_0) (Ne.symm ne_o3_o789_0) (Ne.symm ne_o6_o789_0) ne_o1_o3 ne_o1_o6 ne_o3_o6 ) f836 (lenOf pd_3 rfl) rfl rfl (by decide) (by decide) rfl rfl (by decide) (by decide) rfl at_242 rfl (fun T853 X853 e853 => ?_)
            show Go p e below _ (T853.setTop (mkF m 245 #[.val (.int i0), .val (.int i1), .val (.int i2), .val (.int i3), .val (.int i4), .val (.int i5), .val (.int (3 : Int32)), .val (.int (3 : Int32)), .val (.ref o1), .val (.ref o3), .val (.ref o6), .val (.ref o10), .val (.ref o635), .val (.int (0 : Int32))] [(.int (0 : Int32))]))
            refine s_iload B X853 (pc' := 247) at_245 rfl rfl ?_
            refine s_icmpN B X853 (pc' := 250) at_247 (by decide) rfl ?_
            refine s_iconst B X853 (pc' := 251) (v := (1 : Int32)) at_250 rfl rfl ?_
            refine s_goto B X853 (pc' := 255) at_251 (by decide) (by decide) ?_
            exact r_nar B X853 (t := .boolean) (by simp) rfl at_255 ⟨rfl, N835⟩ (by decide) (by decide)
      refine s_iload B Xj82 (pc' := 84) at_82 rfl rfl ?_
      refine s_iconst B Xj82 (pc' := 85) (v := (4 : Int32)) at_84 rfl rfl ?_
      refine s_iand B Xj82 (pc' := 86) (v := (i4 &&& (4 : Int32))) at_85 rfl rfl ?_
      refine b_if_eq B Xj82 (py := 105) (pn := 89) at_86 (by decide) (by decide) rfl (fun hc86_854 => ?_) (fun hc86_854 => ?_)
      · exact jn105 Tj82 _ (Xj82.mono (by decide) (by decide)) Nj82 Oj82 Ej82_o1 Ej82_o3 Ej82_o6
      · refine s_aload B Xj82 (pc' := 91) at_89 rfl rfl rfl ?_
        refine s_new B Xj82 (pc' := 94) (n0 := 2) rfl (tw94 hw) (tw95 hw) (tw96 hw) (by decide) (by decide) at_91 rfl (fun T855 h855 o855 g855 X855 e855 E855 A855 D855 => ?_)
        have ne_o1_o855 : o1 ≠ o855 := Nat.ne_of_lt (g855 ▸ Ej82_o1.lt)
        have ne_o3_o855 : o3 ≠ o855 := Nat.ne_of_lt (g855 ▸ Ej82_o3.lt)
        have ne_o6_o855 : o6 ≠ o855 := Nat.ne_of_lt (g855 ▸ Ej82_o6.lt)
        have ge_o855 : Z.heap.size ≤ o855 := g855 ▸ old_le Oj82
        have O855 := (Oj82).ext E855
        have F855 := OwnF.ext O855.2 FZ
        have D855_sub : Fld Z h855 o855 "com/example/lichen/lichen/solver/TermSubsumption$Pair" "sub" "I" (.int (0 : Int32)) := D855 (Or.inr (tw102 hw)) (ty := .int) (by decide)
        have D855_sup : Fld Z h855 o855 "com/example/lichen/lichen/solver/TermSubsumption$Pair" "sup" "I" (.int (0 : Int32)) := D855 (Or.inr (tw104 hw)) (ty := .int) (by decide)
        show Go p e below _ (T855.setTop (mkF m 94 #[.val (.int i0), .val (.int i1), .val (.int i2), .val (.int i3), .val (.int i4), .val (.int i5), .val (.int (i0 &&& (3 : Int32))), .val (.int (i1 &&& (3 : Int32))), .val (.ref o1), .val (.ref o3), .val (.ref o6), .unset, .unset, .unset] [(.ref o855), (.ref o6)]))
        refine s_dup B X855 (pc' := 95) at_94 rfl rfl ?_
        refine s_iload B X855 (pc' := 97) at_95 rfl rfl ?_
        refine s_iloadN B X855 (pc' := 98) at_97 rfl rfl ?_
        refine c_init B X855 (y := mn16) (pc' := 101) (argsL := [(.int i5), (.int i2)]) (under := [(.ref o855), (.ref o6)]) (W := 2) e855 rfl (tw97 hw) (tw98 hw) (tw99 hw) (tw96 hw) (by decide) (mm15_60 l Z a0 hw o855 i5 i2 w_D h855 FZ O855 ge_o855 A855 D855_sub D855_sup ) (lenOf pd_10 rfl) rfl rfl (by decide) (by decide) (by decide) (by decide) rfl at_98 rfl (fun v856 T856 L856 X856 hQ856 => ?_)
        obtain ⟨rfl, Nq856, Kq856, u856_0, u856_1⟩ := hQ856
        obtain ⟨h856, e856⟩ : ∃ z, T856.heap = z := ⟨_, rfl⟩
        rw [e856] at Kq856 u856_0 u856_1
        have N856 := Fr.app Nj82 Nq856
        have O856 := (O855).keep Kq856 (allS ge_o855 all0)
        have F856 := OwnF.ext O856.2 FZ
        show Go p e below _ (T856.setTop (mkF m 101 #[.val (.int i0), .val (.int i1), .val (.int i2), .val (.int i3), .val (.int i4), .val (.int i5), .val (.int (i0 &&& (3 : Int32))), .val (.int (i1 &&& (3 : Int32))), .val (.ref o1), .val (.ref o3), .val (.ref o6), .unset, .unset, .unset] [(.ref o855), (.ref o6)]))
        have f857 := ((Ej82_o6.ext E855).keep Kq856)
        have f858 := ((Dj82_o6_elementData.ext E855).keep Kq856 (ninS ne_o6_o855 nin0))
        have f859 := ((Dj82_o6_modCount.ext E855).keep Kq856 (ninS ne_o6_o855 nin0))
        have f860 := ((Dj82_o6_size.ext E855).keep Kq856 (ninS ne_o6_o855 nin0))
        have f861 := (A855.keep Kq856)
        refine c_virtual B X856 (y := mn15) (pc' := 104) (argsL := [(.ref o855)]) (under := []) (W := 0) e856 (tw33 hw) (tw34 hw) (tw36 hw) (tw35 hw) (tw37 hw) (tw2 hw) (by decide) (mm6_62 l Z a0 hw o6 o855 i5 i2 w_D h856 FZ O856 ge_o6 f857 f858 f859 f860 ge_o855 f861 u856_0 u856_1 ne_o6_o855 ) f857 (lenOf pd_9 rfl) rfl rfl (by decide) (by decide) (by decide) (by decide) rfl at_101 rfl (fun v862 T862 L862 X862 hQ862 => ?_)
        obtain ⟨o862_0, kq_o862_0, rfl, Nq862, Kq862, lq_o862_0, u862_0, ovu862_0, u862_1, u862_2, u862_3⟩ := hQ862
        have f863 := ((Ej82_o1.ext E855).keep Kq856)
        have ne_o1_o862_0 : o1 ≠ o862_0 := Nat.ne_of_lt (Nat.lt_of_lt_of_le f863.lt lq_o862_0)
        have f864 := ((Ej82_o3.ext E855).keep Kq856)
        have ne_o3_o862_0 : o3 ≠ o862_0 := Nat.ne_of_lt (Nat.lt_of_lt_of_le f864.lt lq_o862_0)
        have ne_o6_o862_0 : o6 ≠ o862_0 := Nat.ne_of_lt (Nat.lt_of_lt_of_le f857.lt lq_o862_0)
        have ne_o855_o862_0 : o855 ≠ o862_0 := Nat.ne_of_lt (Nat.lt_of_lt_of_le f861.lt lq_o862_0)
        have ge_o862_0 : Z.heap.size ≤ o862_0 := Nat.le_trans (old_le O856) lq_o862_0
        obtain ⟨h862, e862⟩ : ∃ z, T862.heap = z := ⟨_, rfl⟩
        rw [e862] at Kq862 u862_0 u862_1 u862_2 u862_3
        have N862 := Fr.app N856 Nq862
        have O862 := (O856).keep Kq862 (allS ge_o6 all0)
        have F862 := OwnF.ext O862.2 FZ
        show Go p e below _ (T862.setTop (mkF m 104 #[.val (.int i0), .val (.int i1), .val (.int i2), .val (.int i3), .val (.int i4), .val (.int i5), .val (.int (i0 &&& (3 : Int32))), .val (.int (i1 &&& (3 : Int32))), .val (.ref o1), .val (.ref o3), .val (.ref o6), .unset, .unset, .unset] [(.int (1 : Int32))]))
        refine s_pop B X862 (pc' := 105) at_104 rfl rfl ?_
        have f865 := (f863.keep Kq862)
        have f866 := (f864.keep Kq862)
        have f867 := (f857.keep Kq862)
        exact jn105 T862 _ (X862.mono (by decide) (by decide)) N862 (by rw [e862]; exact O862) (by rw [e862]; exact f865) (by rw [e862]; exact f866) (by rw [e862]; exact f867)
    refine s_iload B Xj59 (pc' := 61) at_59 rfl rfl ?_
    refine s_iconst B Xj59 (pc' := 62) (v := (2 : Int32)) at_61 rfl rfl ?_
    refine s_iand B Xj59 (pc' := 63) (v := (i4 &&& (2 : Int32))) at_62 rfl rfl ?_
    refine b_if_eq B Xj59 (py := 82) (pn := 66) at_63 (by decide) (by decide) rfl (fun hc63_868 => ?_) (fun hc63_868 => ?_)
    · exact jn82 Tj59 _ (Xj59.mono (by decide) (by decide)) Nj59 Oj59 Ej59_o1 Ej59_o3 Ej59_o6 Dj59_o6_modCount Dj59_o6_size Dj59_o6_elementData
    · refine s_aload B Xj59 (pc' := 68) at_66 rfl rfl rfl ?_
      refine s_new B Xj59 (pc' := 71) (n0 := 2) rfl (tw94 hw) (tw95 hw) (tw96 hw) (by decide) (by decide) at_68 rfl (fun T869 h869 o869 g869 X869 e869 E869 A869 D869 => ?_)
      have ne_o1_o869 : o1 ≠ o869 := Nat.ne_of_lt (g869 ▸ Ej59_o1.lt)
      have ne_o3_o869 : o3 ≠ o869 := Nat.ne_of_lt (g869 ▸ Ej59_o3.lt)
      have ne_o6_o869 : o6 ≠ o869 := Nat.ne_of_lt (g869 ▸ Ej59_o6.lt)
      have ge_o869 : Z.heap.size ≤ o869 := g869 ▸ old_le Oj59
      have O869 := (Oj59).ext E869
      have F869 := OwnF.ext O869.2 FZ
      have D869_sub : Fld Z h869 o869 "com/example/lichen/lichen/solver/TermSubsumption$Pair" "sub" "I" (.int (0 : Int32)) := D869 (Or.inr (tw102 hw)) (ty := .int) (by decide)
      have D869_sup : Fld Z h869 o869 "com/example/lichen/lichen/solver/TermSubsumption$Pair" "sup" "I" (.int (0 : Int32)) := D869 (Or.inr (tw104 hw)) (ty := .int) (by decide)
      show Go p e below _ (T869.setTop (mkF m 71 #[.val (.int i0), .val (.int i1), .val (.int i2), .val (.int i3), .val (.int i4), .val (.int i5), .val (.int (i0 &&& (3 : Int32))), .val (.int (i1 &&& (3 : Int32))), .val (.ref o1), .val (.ref o3), .val (.ref o6), .unset, .unset, .unset] [(.ref o869), (.ref o3)]))
      refine s_dup B X869 (pc' := 72) at_71 rfl rfl ?_
      refine s_iloadN B X869 (pc' := 73) at_72 rfl rfl ?_
      refine s_iload B X869 (pc' := 75) at_73 rfl rfl ?_
      refine c_init B X869 (y := mn16) (pc' := 78) (argsL := [(.int i3), (.int i5)]) (under := [(.ref o869), (.ref o3)]) (W := 2) e869 rfl (tw97 hw) (tw98 hw) (tw99 hw) (tw96 hw) (by decide) (mm15_60 l Z a0 hw o869 i3 i5 w_D h869 FZ O869 ge_o869 A869 D869_sub D869_sup ) (lenOf pd_10 rfl) rfl rfl (by decide) (by decide) (by decide) (by decide) rfl at_75 rfl (fun v870 T870 L870 X870 hQ870 => ?_)
      obtain ⟨rfl, Nq870, Kq870, u870_0, u870_1⟩ := hQ870
      obtain ⟨h870, e870⟩ : ∃ z, T870.heap = z := ⟨_, rfl⟩
      rw [e870] at Kq870 u870_0 u870_1
      have N870 := Fr.app Nj59 Nq870
      have O870 := (O869).keep Kq870 (allS ge_o869 all0)
      have F870 := OwnF.ext O870.2 FZ
      show Go p e below _ (T870.setTop (mkF m 78 #[.val (.int i0), .val (.int i1), .val (.int i2), .val (.int i3), .val (.int i4), .val (.int i5), .val (.int (i0 &&& (3 : Int32))), .val (.int (i1 &&& (3 : Int32))), .val (.ref o1), .val (.ref o3), .val (.ref o6), .unset, .unset, .unset] [(.ref o869), (.ref o3)]))
      have f871 := ((Ej59_o3.ext E869).keep Kq870)
      have f872 := ((Dj59_o3_elementData.ext E869).keep Kq870 (ninS ne_o3_o869 nin0))
      have f873 := ((Dj59_o3_modCount.ext E869).keep Kq870 (ninS ne_o3_o869 nin0))
      have f874 := ((Dj59_o3_size.ext E869).keep Kq870 (ninS ne_o3_o869 nin0))
      have f875 := (A869.keep Kq870)
      refine c_virtual B X870 (y := mn15) (pc' := 81) (argsL := [(.ref o869)]) (under := []) (W := 0) e870 (tw33 hw) (tw34 hw) (tw36 hw) (tw35 hw) (tw37 hw) (tw2 hw) (by decide) (mm6_62 l Z a0 hw o3 o869 i3 i5 w_D h870 FZ O870 ge_o3 f871 f872 f873 f874 ge_o869 f875 u870_0 u870_1 ne_o3_o869 ) f871 (lenOf pd_9 rfl) rfl rfl (by decide) (by decide) (by decide) (by decide) rfl at_78 rfl (fun v876 T876 L876 X876 hQ876 => ?_)
      obtain ⟨o876_0, kq_o876_0, rfl, Nq876, Kq876, lq_o876_0, u876_0, ovu876_0, u876_1, u876_2, u876_3⟩ := hQ876
      have f877 := ((Ej59_o1.ext E869).keep Kq870)
      have ne_o1_o876_0 : o1 ≠ o876_0 := Nat.ne_of_lt (Nat.lt_of_lt_of_le f877.lt lq_o876_0)
      have ne_o3_o876_0 : o3 ≠ o876_0 := Nat.ne_of_lt (Nat.lt_of_lt_of_le f871.lt lq_o876_0)
      have f878 := ((Ej59_o6.ext E869).keep Kq870)
      have ne_o6_o876_0 : o6 ≠ o876_0 := Nat.ne_of_lt (Nat.lt_of_lt_of_le f878.lt lq_o876_0)
      have ne_o869_o876_0 : o869 ≠ o876_0 := Nat.ne_of_lt (Nat.lt_of_lt_of_le f875.lt lq_o876_0)
      have ge_o876_0 : Z.heap.size ≤ o876_0 := Nat.le_trans (old_le O870) lq_o876_0
      obtain ⟨h876, e876⟩ : ∃ z, T876.heap = z := ⟨_, rfl⟩
      rw [e876] at Kq876 u876_0 u876_1 u876_2 u876_3
      have N876 := Fr.app N870 Nq876
      have O876 := (O870).keep Kq876 (allS ge_o3 all0)
      have F876 := OwnF.ext O876.2 FZ
      show Go p e below _ (T876.setTop (mkF m 81 #[.val (.int i0), .val (.int i1), .val (.int i2), .val (.int i3), .val (.int i4), .val (.int i5), .val (.int (i0 &&& (3 : Int32))), .val (.int (i1 &&& (3 : Int32))), .val (.ref o1), .val (.ref o3), .val (.ref o6), .unset, .unset, .unset] [(.int (1 : Int32))]))
      refine s_pop B X876 (pc' := 82) at_81 rfl rfl ?_
      have f879 := (f877.keep Kq876)
      have f880 := (f871.keep Kq876)
      have f881 := (f878.keep Kq876)
      have f882 := (((Dj59_o6_modCount.ext E869).keep Kq870 (ninS ne_o6_o869 nin0)).keep Kq876 (ninS (Ne.symm ne_o3_o6) nin0))
      have f883 := (((Dj59_o6_size.ext E869).keep Kq870 (ninS ne_o6_o869 nin0)).keep Kq876 (ninS (Ne.symm ne_o3_o6) nin0))
      have f884 := (((Dj59_o6_elementData.ext E869).keep Kq870 (ninS ne_o6_o869 nin0)).keep Kq876 (ninS (Ne.symm ne_o3_o6) nin0))
      exact jn82 T876 _ (X876.mono (by decide) (by decide)) N876 (by rw [e876]; exact O876) (by rw [e876]; exact f879) (by rw [e876]; exact f880) (by rw [e876]; exact f881) (by rw [e876]; exact f882) (by rw [e876]; exact f883) (by rw [e876]; exact f884)
  refine s_iload B X9 (pc' := 39) at_37 rfl rfl ?_
  refine s_iconst B X9 (pc' := 40) (v := (1 : Int32)) at_39 rfl rfl ?_
  refine s_iand B X9 (pc' := 41) (v := (i4 &&& (1 : Int32))) at_40 rfl rfl ?_
  refine b_if_eq B X9 (py := 59) (pn := 44) at_41 (by decide) (by decide) rfl (fun hc41_885 => ?_) (fun hc41_885 => ?_)
  · have f886 := ((f7.ext E6).keep Kq9)
    have f887 := ((f8.ext E6).keep Kq9)
    have f888 := (A6.keep Kq9)
    have f889 := ((u5_1.ext E6).keep Kq9 (ninS ne_o3_o6 nin0))
    have f890 := ((u5_2.ext E6).keep Kq9 (ninS ne_o3_o6 nin0))
    have f891 := ((u5_0.ext E6).keep Kq9 (ninS ne_o3_o6 nin0))
    exact jn59 T9 _ (X9.mono (by decide) (by decide)) N9 (by rw [e9]; exact O9) (by rw [e9]; exact f886) (by rw [e9]; exact f887) (by rw [e9]; exact f888) (by rw [e9]; exact f889) (by rw [e9]; exact f890) (by rw [e9]; exact f891) (by rw [e9]; exact u9_1) (by rw [e9]; exact u9_2) (by rw [e9]; exact u9_0)
  · refine s_aload B X9 (pc' := 46) at_44 rfl rfl rfl ?_
    refine s_new B X9 (pc' := 49) (n0 := 2) e9 (tw94 hw) (tw95 hw) (tw96 hw) (by decide) (by decide) at_46 rfl (fun T892 h892 o892 g892 X892 e892 E892 A892 D892 => ?_)
    have f893 := ((f7.ext E6).keep Kq9)
    have ne_o1_o892 : o1 ≠ o892 := Nat.ne_of_lt (g892 ▸ f893.lt)
    have f894 := ((f8.ext E6).keep Kq9)
    have ne_o3_o892 : o3 ≠ o892 := Nat.ne_of_lt (g892 ▸ f894.lt)
    have f895 := (A6.keep Kq9)
    have ne_o6_o892 : o6 ≠ o892 := Nat.ne_of_lt (g892 ▸ f895.lt)
    have ge_o892 : Z.heap.size ≤ o892 := g892 ▸ old_le O9
    have O892 := (O9).ext E892
    have F892 := OwnF.ext O892.2 FZ
    have D892_sub : Fld Z h892 o892 "com/example/lichen/lichen/solver/TermSubsumption$Pair" "sub" "I" (.int (0 : Int32)) := D892 (Or.inr (tw102 hw)) (ty := .int) (by decide)
    have D892_sup : Fld Z h892 o892 "com/example/lichen/lichen/solver/TermSubsumption$Pair" "sup" "I" (.int (0 : Int32)) := D892 (Or.inr (tw104 hw)) (ty := .int) (by decide)
    show Go p e below _ (T892.setTop (mkF m 49 #[.val (.int i0), .val (.int i1), .val (.int i2), .val (.int i3), .val (.int i4), .val (.int i5), .val (.int (i0 &&& (3 : Int32))), .val (.int (i1 &&& (3 : Int32))), .val (.ref o1), .val (.ref o3), .val (.ref o6), .unset, .unset, .unset] [(.ref o892), (.ref o1)]))
    refine s_dup B X892 (pc' := 50) at_49 rfl rfl ?_
    refine s_iloadN B X892 (pc' := 51) at_50 rfl rfl ?_
    refine s_iloadN B X892 (pc' := 52) at_51 rfl rfl ?_
    refine c_init B X892 (y := mn16) (pc' := 55) (argsL := [(.int i2), (.int i3)]) (under := [(.ref o892), (.ref o1)]) (W := 2) e892 rfl (tw97 hw) (tw98 hw) (tw99 hw) (tw96 hw) (by decide) (mm15_60 l Z a0 hw o892 i2 i3 w_D h892 FZ O892 ge_o892 A892 D892_sub D892_sup ) (lenOf pd_10 rfl) rfl rfl (by decide) (by decide) (by decide) (by decide) rfl at_52 rfl (fun v896 T896 L896 X896 hQ896 => ?_)
    obtain ⟨rfl, Nq896, Kq896, u896_0, u896_1⟩ := hQ896
    obtain ⟨h896, e896⟩ : ∃ z, T896.heap = z := ⟨_, rfl⟩
    rw [e896] at Kq896 u896_0 u896_1
    have N896 := Fr.app N9 Nq896
    have O896 := (O892).keep Kq896 (allS ge_o892 all0)
    have F896 := OwnF.ext O896.2 FZ
    show Go p e below _ (T896.setTop (mkF m 55 #[.val (.int i0), .val (.int i1), .val (.int i2), .val (.int i3), .val (.int i4), .val (.int i5), .val (.int (i0 &&& (3 : Int32))), .val (.int (i1 &&& (3 : Int32))), .val (.ref o1), .val (.ref o3), .val (.ref o6), .unset, .unset, .unset] [(.ref o892), (.ref o1)]))
    have f897 := ((f893.ext E892).keep Kq896)
    have f898 := ((((((u2_0.ext E3).keep Kq5 (ninS ne_o1_o3 nin0)).ext E6).keep Kq9 (ninS ne_o1_o6 nin0)).ext E892).keep Kq896 (ninS ne_o1_o892 nin0))
    have f899 := ((((((u2_1.ext E3).keep Kq5 (ninS ne_o1_o3 nin0)).ext E6).keep Kq9 (ninS ne_o1_o6 nin0)).ext E892).keep Kq896 (ninS ne_o1_o892 nin0))
    have f900 := ((((((u2_2.ext E3).keep Kq5 (ninS ne_o1_o3 nin0)).ext E6).keep Kq9 (ninS ne_o1_o6 nin0)).ext E892).keep Kq896 (ninS ne_o1_o892 nin0))
    have f901 := (A892.keep Kq896)
    refine c_virtual B X896 (y := mn15) (pc' := 58) (argsL := [(.ref o892)]) (under := []) (W := 0) e896 (tw33 hw) (tw34 hw) (tw36 hw) (tw35 hw) (tw37 hw) (tw2 hw) (by decide) (mm6_62 l Z a0 hw o1 o892 i2 i3 w_D h896 FZ O896 ge_o1 f897 f898 f899 f900 ge_o892 f901 u896_0 u896_1 ne_o1_o892 ) f897 (lenOf pd_9 rfl) rfl rfl (by decide) (by decide) (by decide) (by decide) rfl at_55 rfl (fun v902 T902 L902 X902 hQ902 => ?_)
    obtain ⟨o902_0, kq_o902_0, rfl, Nq902, Kq902, lq_o902_0, u902_0, ovu902_0, u902_1, u902_2, u902_3⟩ := hQ902
    have ne_o1_o902_0 : o1 ≠ o902_0 := Nat.ne_of_lt (Nat.lt_of_lt_of_le f897.lt lq_o902_0)
    have f903 := ((f894.ext E892).keep Kq896)
    have ne_o3_o902_0 : o3 ≠ o902_0 := Nat.ne_of_lt (Nat.lt_of_lt_of_le f903.lt lq_o902_0)
    have f904 := ((f895.ext E892).keep Kq896)
    have ne_o6_o902_0 : o6 ≠ o902_0 := Nat.ne_of_lt (Nat.lt_of_lt_of_le f904.lt lq_o902_0)
    have ne_o892_o902_0 : o892 ≠ o902_0 := Nat.ne_of_lt (Nat.lt_of_lt_of_le f901.lt lq_o902_0)
    have ge_o902_0 : Z.heap.size ≤ o902_0 := Nat.le_trans (old_le O896) lq_o902_0
    obtain ⟨h902, e902⟩ : ∃ z, T902.heap = z := ⟨_, rfl⟩
    rw [e902] at Kq902 u902_0 u902_1 u902_2 u902_3
    have N902 := Fr.app N896 Nq902
    have O902 := (O896).keep Kq902 (allS ge_o1 all0)
    have F902 := OwnF.ext O902.2 FZ
    show Go p e below _ (T902.setTop (mkF m 58 #[.val (.int i0), .val (.int i1), .val (.int i2), .val (.int i3), .val (.int i4), .val (.int i5), .val (.int (i0 &&& (3 : Int32))), .val (.int (i1 &&& (3 : Int32))), .val (.ref o1), .val (.ref o3), .val (.ref o6), .unset, .unset, .unset] [(.int (1 : Int32))]))
    refine s_pop B X902 (pc' := 59) at_58 rfl rfl ?_
    have f905 := (f897.keep Kq902)
    have f906 := (f903.keep Kq902)
    have f907 := (f904.keep Kq902)
    have f908 := (((((u5_1.ext E6).keep Kq9 (ninS ne_o3_o6 nin0)).ext E892).keep Kq896 (ninS ne_o3_o892 nin0)).keep Kq902 (ninS (Ne.symm ne_o1_o3) nin0))
    have f909 := (((((u5_2.ext E6).keep Kq9 (ninS ne_o3_o6 nin0)).ext E892).keep Kq896 (ninS ne_o3_o892 nin0)).keep Kq902 (ninS (Ne.symm ne_o1_o3) nin0))
    have f910 := (((((u5_0.ext E6).keep Kq9 (ninS ne_o3_o6 nin0)).ext E892).keep Kq896 (ninS ne_o3_o892 nin0)).keep Kq902 (ninS (Ne.symm ne_o1_o3) nin0))
    have f911 := (((u9_1.ext E892).keep Kq896 (ninS ne_o6_o892 nin0)).keep Kq902 (ninS (Ne.symm ne_o1_o6) nin0))
    have f912 := (((u9_2.ext E892).keep Kq896 (ninS ne_o6_o892 nin0)).keep Kq902 (ninS (Ne.symm ne_o1_o6) nin0))
    have f913 := (((u9_0.ext E892).keep Kq896 (ninS ne_o6_o892 nin0)).keep Kq902 (ninS (Ne.symm ne_o1_o6) nin0))
    exact jn59 T902 _ (X902.mono (by decide) (by decide)) N902 (by rw [e902]; exact O902) (by rw [e902]; exact f905) (by rw [e902]; exact f906) (by rw [e902]; exact f907) (by rw [e902]; exact f908) (by rw [e902]; exact f909) (by rw [e902]; exact f910) (by rw [e902]; exact f911) (by rw [e902]; exact f912) (by rw [e902]; exact f913)
set_option maxRecDepth 65536 in
set_option maxHeartbeats 40000000 in
theorem comes_1 {Post : Tables → Env → Array Value → State → Outcome → State → Prop} (hpost : ∀ tb e args s v u, (limb_1_1.after args s (.returned v) u = true ∧ limb_1_2.after args s (.returned v) u = true ∧ True) → FrameEnd s (.returned v) u (Jvm.fieldLocs frame_1_writes args s ++ Jvm.arrayLocs frame_1_arrays args s ++ Jvm.staticLocs frame_1_statics s) 48 256 → Post tb e args s (.returned v) u) :
    ArmFor flags0 classFile x code maxLocals ret World_1 tables_1 room_1 Calls_1 rest_1 Pre_1 Post := by
  intro l hfl _ _ p e ha hc hk s m args below hf hA hF happ hP
  obtain ⟨hcalls, hrest, hpre⟩ := hP
  obtain ⟨-, -, -, hnamed, -, -, -, hat⟩ := (Spec.applies_iff hf).mp happ
  obtain ⟨hg, hn⟩ := and_e (Cond.before_iff.mp (show (Jvm.Cond.and given_1 narrow_1).before args s = true from hpre))
  obtain ⟨h1, hg⟩ := and_e hg
  obtain ⟨w0, w1, w2, w3, w4, w5, rfl⟩ : ∃ w0 w1 w2 w3 w4 w5 : Value, args = #[w0, w1, w2, w3, w4, w5] := by
    have hs : args.size = 6 := by simpa [Cond.value, given_1] using h1
    obtain ⟨L⟩ := args
    match L, hs with
    | [w0, w1, w2, w3, w4, w5], _ => exact ⟨w0, w1, w2, w3, w4, w5, rfl⟩
  have hw := fun d (hd : d ∈ tables_1) => atoms_spec (ws := Jvm.Cond.code x code maxLocals ret :: tables_1) hat d (List.mem_cons_of_mem _ hd)
  have hfit : Fit s := fun {y c} hc i hi => by
    obtain ⟨ha, rfl⟩ := Array.getElem?_eq_some_iff.mp hc
    have q := List.all_eq_true.mp ((Array.all_eq_true_iff_forall_mem.mp hF) _ (Array.getElem_mem ha)) i (List.mem_range.mpr hi)
    simpa [Array.getElem?_eq_getElem hi] using q
  obtain ⟨hsets, hown0⟩ := atoms_of _ (rest_1_c_eq ▸ (show rest_1_c.before _ s = true from hrest))
  obtain ⟨hg0, hg⟩ := and_e hg
  obtain ⟨hg1, hg⟩ := and_e hg
  obtain ⟨hg2, hg⟩ := and_e hg
  obtain ⟨hg3, hg⟩ := and_e hg
  obtain ⟨hg4, hg⟩ := and_e hg
  have hg5 := hg
  obtain ⟨i0, ei0⟩ := is_v hg0
  obtain rfl : w0 = (.int i0) := Option.some.inj ei0
  obtain ⟨i1, ei1⟩ := is_v hg1
  obtain rfl : w1 = (.int i1) := Option.some.inj ei1
  obtain ⟨i2, ei2⟩ := is_v hg2
  obtain rfl : w2 = (.int i2) := Option.some.inj ei2
  obtain ⟨i3, ei3⟩ := is_v hg3
  obtain rfl : w3 = (.int i3) := Option.some.inj ei3
  obtain ⟨i4, ei4⟩ := is_v hg4
  obtain rfl : w4 = (.int i4) := Option.some.inj ei4
  obtain ⟨i5, ei5⟩ := is_v hg5
  obtain rfl : w5 = (.int i5) := Option.some.inj ei5
  obtain ⟨w_D, vD⟩ := arr_v (Cond.before_iff.mp (hsets _ (List.mem_of_getElem? (i := 6) rfl)))
  obtain ⟨cD, AD⟩ := Arr.start vD (Cond.before_iff.mp (hsets _ (List.mem_of_getElem? (i := 6) rfl)))
  obtain ⟨zD, -⟩ := tab_len (n := 0) vD AD (Cond.before_iff.mp (hsets _ (List.mem_of_getElem? (i := 8) rfl))) (by decide)
  obtain ⟨wC, vC⟩ := arr_v (Cond.before_iff.mp (hsets _ (List.mem_of_getElem? (i := 13) rfl)))
  obtain ⟨cC, AC⟩ := Arr.start vC (Cond.before_iff.mp (hsets _ (List.mem_of_getElem? (i := 13) rfl)))
  obtain ⟨zC, lC⟩ := tab_len (n := 256) vC AC (Cond.before_iff.mp (hsets _ (List.mem_of_getElem? (i := 15) rfl))) (by decide)
  have key : ∀ i, i < 256 → ∃ b, cC.slots[i]? = some (.ref b) ∧ Exa s s.heap b "java/lang/Integer" := by
    intro i hi
    obtain ⟨u1, u2⟩ := and_e (tab_all vC AC (Cond.before_iff.mp (hsets _ (List.mem_of_getElem? (i := 16) rfl))) (i := i) (by omega))
    obtain ⟨b, eb⟩ := exa_v u1
    exact ⟨b, tab_el (j := .int 0) vC AC (by omega) eb, exa_at eb u1⟩
  have T_cache : ∃ w_cache, Sta s s.heap "java/lang/Integer$IntegerCache" "cache" "[Ljava/lang/Integer;" (.ref w_cache) ∧ ∃ (k : ClassId) (W : Nat → Addr), Ary s s.heap w_cache k (.object "java/lang/Integer") 256 (fun i => .ref (W i)) ∧ ∀ i, i < 256 → Exa s s.heap (W i) "java/lang/Integer" := by
    refine ⟨wC, Sta.start vC (Or.inr ⟨(tw31 hw), (hsets _ (List.mem_of_getElem? (i := 11) rfl))⟩), cC.cls, fun i => match cC.slots[i]? with | some (.ref b) => b | _ => 0, ⟨cC, AC, rfl, zC, lC, fun i hi => ?_⟩, fun i hi => ?_⟩
    · obtain ⟨b, q1, q2⟩ := key i hi
      simp only [q1]
    · obtain ⟨b, q1, q2⟩ := key i hi
      simp only [q1]; exact q2
  have FF : OwnF s s.heap w_D := ⟨Sta.start vD (Or.inr ⟨(tw2 hw), (hsets _ (List.mem_of_getElem? (i := 2) rfl))⟩), ⟨cD.cls, cD, AD, rfl, zD, by decide, fun i hi => absurd hi (Nat.not_lt_zero i)⟩, Sta.start (eqI_v (Cond.before_iff.mp (hsets _ (List.mem_of_getElem? (i := 12) rfl)))) (Or.inl (hsets _ (List.mem_of_getElem? (i := 10) rfl))), T_cache⟩
  obtain ⟨n, o, h1, h2, h3, _, L, rfl, ⟨rfl, N⟩, hq⟩ := rm_law l s _ hw i0 i1 i2 i3 i4 i5 w_D FF p e ha hc hk s m _ below hf ((Spec.applies_iff_loose hf).mp happ).1 ⟨rfl, State.Warmed39.refl s, rfl⟩ trivial
  refine ⟨n, _, h1, h2, h3, hpost _ _ _ _ _ _ ⟨Cond.after_iff.mpr rfl, Cond.after_iff.mpr (eq_i res_at (Term.int_eval (1)) rfl), trivial⟩ ⟨hq.1, hq.2.1, (hq.2.2.sift fun y hy => Or.inr (N y hy)).mono (by decide) (by decide)⟩⟩
theorem main_1_1 : Claimed_1_1 := comes_1 fun _ _ _ _ _ _ h hF => ⟨h.1, hF⟩
theorem main_1_2 : Claimed_1_2 := comes_1 fun _ _ _ _ _ _ h hF => ⟨h.2.1, hF⟩
end Jvm.Pilot.@@N@@
namespace Jvm.Pilot.@@N@@
open Jvm Jvm.ClassFile Sem Op Lib Jvm.Free Jvm.Stand Jvm.Pilot.@@N@@.Jvm.D
/-! MADE BY PROGRAM (witnessworld.py) out of the Statement's table words and the real class files: 28 classes; the members and pool entries that the words name. The judged class is class 1, her method 1. -/
namespace start1
open Jvm.ClassFile
def u (s : String) : CpInfo := .utf8 (stringToUtf16 s)
/-- a pool by its gaps: so many unusable entries, then the entry; so many at the end -/
def gap : Nat → List CpInfo → List CpInfo
  | 0, r => r
  | n + 1, r => .unusable :: gap n r
def poolList (es : List (Nat × CpInfo)) (last : Nat) : List CpInfo := es.foldr (fun e r => gap e.1 (e.2 :: r)) (gap last [])
def pool (es : List (Nat × CpInfo)) (last : Nat) : Array CpInfo := ⟨poolList es last⟩
def fileOf (pool : Array CpInfo) (this : Nat) (attrs : Array Attribute := #[]) (ms : Array MethodInfo := #[]) (fl : Nat := 33) (sup : Nat := 0) (ifs : Array Nat := #[]) (fds : Array FieldInfo := #[]) : ClassFile where
  minorVersion := 0
  majorVersion := 65
  constantPool := pool
  accessFlags := fl
  thisClass := this
  superClass := sup
  interfaces := ifs
  fields := fds
  methods := ms
  attributes := attrs
def plain (name : String) (sup : Option ClassId) : Class where
  name := name
  kind := .ordinary
  loader := none
  accessFlags := 33
  super := sup
  interfaces := #[]
  cf := none
  fields := #[]
  methods := #[]
  instanceTypes := #[]
  staticTypes := #[]
  resolved := #[]
  callSites := []
  init := .initialized
  statics := none
  mirror := none

def pool0 : Array CpInfo := pool [(5, u "<init>"), (0, u "()V"), (1, .class_ 10), (1, u "java/lang/Object")] 113

def k0c0 : Code := { maxStack := 0, maxLocals := 1, code := object_method_1_code, exceptionTable := #[], attributes := #[] }
def k0m0 : Method := { name := "<init>", desc := "()V", sig := { parameters := [], returnType := none }, accessFlags := 1, code := some k0c0 }
/-- java/lang/Object -/
def k0 : Class := { plain "java/lang/Object" none with
  accessFlags := 33
  interfaces := #[]
  cf := some (fileOf pool0 8 #[] #[{ accessFlags := 1, nameIndex := 5, descriptorIndex := 6, attributes := #[] }] 33 0 #[] #[])
  fields := #[]
  methods := #[k0m0]
  instanceTypes := #[]
  staticTypes := #[]
  resolved := Array.replicate 124 none
  statics := none }

def pool1 : Array CpInfo := pool [(2, .class_ 4), (0, .nameAndType 5 6), (0, u "java/lang/Object"), (0, u "<init>"), (0, u "()V"), (0, .class_ 8), (0, u "java/util/ArrayList"), (0, .methodref 7 3), (0, .class_ 11), (0, u "com/example/lichen/lichen/solver/TermSubsumption$Pair"), (0, .methodref 10 13), (0, .nameAndType 5 14), (0, u "(II)V"), (0, .methodref 7 16), (0, .nameAndType 17 18), (0, u "add"), (0, u "(Ljava/lang/Object;)Z"), (0, .methodref 20 21), (0, .class_ 22), (0, .nameAndType 23 24), (0, u "java/lang/Integer"), (0, u "valueOf"), (0, u "(I)Ljava/lang/Integer;"), (0, .class_ 26), (0, u "com/example/lichen/lichen/solver/TermSubsumption$Ways"), (0, .methodref 25 28), (0, .nameAndType 5 29), (0, u "(Ljava/util/List;Ljava/util/List;)V"), (0, .methodref 25 31), (0, .nameAndType 32 33), (0, u "never"), (0, u "()Z"), (0, .class_ 35), (0, u "com/example/lichen/lichen/solver/WaysNeverPinLaw"), (2, u "law"), (0, u "(IIIIII)Z")] 8

def k1m0 : Method := { name := "<init>", desc := "()V", sig := { parameters := [], returnType := none }, accessFlags := 1, code := none }
def k1c1 : Code := { maxStack := 5, maxLocals := 14, code := code, exceptionTable := #[], attributes := #[] }
def k1m1 : Method := { name := "law", desc := "(IIIIII)Z", sig := { parameters := [.int, .int, .int, .int, .int, .int], returnType := some .boolean }, accessFlags := 9, code := some k1c1 }
/-- com/example/lichen/lichen/solver/WaysNeverPinLaw -/
def k1 : Class := { plain "com/example/lichen/lichen/solver/WaysNeverPinLaw" (some 0) with
  accessFlags := 49
  interfaces := #[]
  cf := some (fileOf pool1 34 #[] #[{ accessFlags := 1, nameIndex := 5, descriptorIndex := 6, attributes := #[] }, { accessFlags := 9, nameIndex := 38, descriptorIndex := 39, attributes := #[] }] 49 2 #[] #[])
  fields := #[]
  methods := #[k1m0, k1m1]
  instanceTypes := #[]
  staticTypes := #[]
  resolved := Array.replicate 48 none
  statics := none }

def pool2 : Array CpInfo := pool [(8, .class_ 10), (1, u "java/lang/Iterable"), (24, .class_ 36), (0, u "java/lang/Object")] 25

/-- java/lang/Iterable -/
def k2 : Class := { plain "java/lang/Iterable" (some 0) with
  accessFlags := 1537
  interfaces := #[]
  cf := some (fileOf pool2 8 #[] #[] 1537 35 #[] #[])
  fields := #[]
  methods := #[]
  instanceTypes := #[]
  staticTypes := #[]
  resolved := Array.replicate 62 none
  statics := none }

def pool3 : Array CpInfo := pool [(10, .class_ 12), (1, u "java/util/Collection"), (47, .class_ 61), (0, u "java/lang/Object"), (0, .class_ 63), (0, u "java/lang/Iterable")] 51

/-- java/util/Collection -/
def k3 : Class := { plain "java/util/Collection" (some 0) with
  accessFlags := 1537
  interfaces := #[2]
  cf := some (fileOf pool3 10 #[] #[] 1537 60 #[62] #[])
  fields := #[]
  methods := #[]
  instanceTypes := #[]
  staticTypes := #[]
  resolved := Array.replicate 115 none
  statics := none }

def pool4 : Array CpInfo := pool [(1, .methodref 2 3), (0, .class_ 4), (0, .nameAndType 5 6), (0, u "java/lang/Object"), (0, u "<init>"), (0, u "()V"), (1, .class_ 10), (1, u "java/util/AbstractCollection"), (66, .class_ 78), (0, u "java/util/Collection")] 81

def k4c0 : Code := { maxStack := 1, maxLocals := 1, code := jdk_22_method_1_code, exceptionTable := #[], attributes := #[] }
def k4m0 : Method := { name := "<init>", desc := "()V", sig := { parameters := [], returnType := none }, accessFlags := 4, code := some k4c0 }
/-- java/util/AbstractCollection -/
def k4 : Class := { plain "java/util/AbstractCollection" (some 0) with
  accessFlags := 1057
  interfaces := #[3]
  cf := some (fileOf pool4 8 #[] #[{ accessFlags := 4, nameIndex := 5, descriptorIndex := 6, attributes := #[] }] 1057 2 #[77] #[])
  fields := #[]
  methods := #[k4m0]
  instanceTypes := #[]
  staticTypes := #[]
  resolved := Array.replicate 160 none
  statics := none }

def pool5 : Array CpInfo := pool [(8, .class_ 10), (1, u "java/util/SequencedCollection"), (15, .class_ 27), (0, u "java/lang/Object"), (0, .class_ 29), (0, u "java/util/Collection")] 27

/-- java/util/SequencedCollection -/
def k5 : Class := { plain "java/util/SequencedCollection" (some 0) with
  accessFlags := 1537
  interfaces := #[3]
  cf := some (fileOf pool5 8 #[] #[] 1537 26 #[28] #[])
  fields := #[]
  methods := #[]
  instanceTypes := #[]
  staticTypes := #[]
  resolved := Array.replicate 57 none
  statics := none }

def pool6 : Array CpInfo := pool [(8, .class_ 10), (1, u "java/util/List"), (7, u "()Z"), (48, u "isEmpty"), (35, .class_ 104), (0, u "java/lang/Object"), (15, .class_ 121), (0, u "java/util/SequencedCollection")] 129

def k6m0 : Method := { name := "isEmpty", desc := "()Z", sig := { parameters := [], returnType := some .boolean }, accessFlags := 1025, code := none }
/-- java/util/List -/
def k6 : Class := { plain "java/util/List" (some 0) with
  accessFlags := 1537
  interfaces := #[5]
  cf := some (fileOf pool6 8 #[] #[{ accessFlags := 1025, nameIndex := 67, descriptorIndex := 18, attributes := #[] }] 1537 103 #[120] #[])
  fields := #[]
  methods := #[k6m0]
  instanceTypes := #[]
  staticTypes := #[]
  resolved := Array.replicate 251 none
  statics := none }

def pool7 : Array CpInfo := pool [(1, .methodref 2 3), (0, .class_ 4), (0, .nameAndType 5 6), (0, u "java/util/AbstractCollection"), (0, u "<init>"), (0, u "()V"), (0, .fieldref 8 9), (0, .class_ 10), (0, .nameAndType 11 12), (0, u "java/util/AbstractList"), (0, u "modCount"), (0, u "I"), (64, .class_ 78), (0, u "java/util/AbstractList$Itr"), (3, .class_ 83), (0, u "java/util/AbstractList$ListItr"), (9, .class_ 94), (0, u "java/util/AbstractList$RandomAccessSubList"), (3, .class_ 99), (0, u "java/util/AbstractList$SubList"), (33, .class_ 134), (0, u "java/util/List"), (73, .class_ 209), (0, u "java/util/AbstractList$SubList$1"), (0, .class_ 211), (0, u "java/util/AbstractList$RandomAccessSpliterator")] 6

def k7c0 : Code := { maxStack := 2, maxLocals := 1, code := jdk_39_method_1_code, exceptionTable := #[], attributes := #[] }
def k7m0 : Method := { name := "<init>", desc := "()V", sig := { parameters := [], returnType := none }, accessFlags := 4, code := some k7c0 }
/-- java/util/AbstractList -/
def k7 : Class := { plain "java/util/AbstractList" (some 4) with
  accessFlags := 1057
  interfaces := #[6]
  cf := some (fileOf pool7 8 #[.nestMembers #[93, 98, 208, 210, 82, 77]] #[{ accessFlags := 4, nameIndex := 5, descriptorIndex := 6, attributes := #[] }] 1057 2 #[133] #[{ accessFlags := 132, nameIndex := 11, descriptorIndex := 12, attributes := #[] }])
  fields := #[{ name := "modCount", type := .int, accessFlags := 132, slot := 0, constantValue := 0 }]
  methods := #[k7m0]
  instanceTypes := #[.int]
  staticTypes := #[]
  resolved := Array.replicate 218 none
  statics := none }

def pool8 : Array CpInfo := pool [(1, .class_ 2), (0, u "java/util/RandomAccess"), (0, .class_ 4), (0, u "java/lang/Object")] 2

/-- java/util/RandomAccess -/
def k8 : Class := { plain "java/util/RandomAccess" (some 0) with
  accessFlags := 1537
  interfaces := #[]
  cf := some (fileOf pool8 1 #[] #[] 1537 3 #[] #[])
  fields := #[]
  methods := #[]
  instanceTypes := #[]
  staticTypes := #[]
  resolved := Array.replicate 7 none
  statics := none }

def pool9 : Array CpInfo := pool [(1, .class_ 2), (0, u "java/lang/Cloneable"), (0, .class_ 4), (0, u "java/lang/Object")] 2

/-- java/lang/Cloneable -/
def k9 : Class := { plain "java/lang/Cloneable" (some 0) with
  accessFlags := 1537
  interfaces := #[]
  cf := some (fileOf pool9 1 #[] #[] 1537 3 #[] #[])
  fields := #[]
  methods := #[]
  instanceTypes := #[]
  staticTypes := #[]
  resolved := Array.replicate 7 none
  statics := none }

def pool10 : Array CpInfo := pool [(1, .class_ 2), (0, u "java/io/Serializable"), (0, .class_ 4), (0, u "java/lang/Object")] 2

/-- java/io/Serializable -/
def k10 : Class := { plain "java/io/Serializable" (some 0) with
  accessFlags := 1537
  interfaces := #[]
  cf := some (fileOf pool10 1 #[] #[] 1537 3 #[] #[])
  fields := #[]
  methods := #[]
  instanceTypes := #[]
  staticTypes := #[]
  resolved := Array.replicate 7 none
  statics := none }

def pool11 : Array CpInfo := pool [(1, .methodref 2 3), (0, .class_ 4), (0, .nameAndType 5 6), (0, u "java/util/AbstractList"), (0, u "<init>"), (0, u "()V"), (0, .class_ 8), (0, u "java/lang/Object"), (0, .fieldref 10 11), (0, .class_ 12), (0, .nameAndType 13 14), (0, u "java/util/ArrayList"), (0, u "elementData"), (0, u "[Ljava/lang/Object;"), (2, u "EMPTY_ELEMENTDATA"), (21, .fieldref 10 40), (0, .nameAndType 41 14), (0, u "DEFAULTCAPACITY_EMPTY_ELEMENTDATA"), (5, u "()[Ljava/lang/Object;"), (0, .fieldref 10 49), (0, .nameAndType 50 51), (0, u "size"), (0, u "I"), (11, .fieldref 10 64), (0, .nameAndType 65 51), (0, u "modCount"), (3, .methodref 10 70), (0, .nameAndType 71 72), (0, u "grow"), (0, u "(I)[Ljava/lang/Object;"), (6, .methodref 80 81), (0, .class_ 82), (0, .nameAndType 83 84), (0, u "java/lang/Math"), (0, u "max"), (0, u "(II)I"), (11, u "(Ljava/lang/Object;)Z"), (32, .methodref 10 130), (0, .nameAndType 71 47), (0, .methodref 10 132), (0, .nameAndType 133 134), (0, u "add"), (0, u "(Ljava/lang/Object;[Ljava/lang/Object;I)V"), (13, .class_ 149), (0, u "java/util/List"), (23, u "()Z"), (88, .class_ 263), (0, u "java/util/ArrayList$ListItr"), (3, .class_ 268), (0, u "java/util/ArrayList$Itr"), (7, .class_ 277), (0, u "java/util/ArrayList$SubList"), (12, .class_ 291), (0, u "java/util/ArrayList$ArrayListSpliterator"), (37, .class_ 330), (0, u "java/util/RandomAccess"), (0, .class_ 332), (0, u "java/lang/Cloneable"), (0, .class_ 334), (0, u "java/io/Serializable"), (0, u "serialVersionUID"), (0, u "J"), (3, u "DEFAULT_CAPACITY"), (22, u "isEmpty"), (136, .class_ 501), (0, u "java/util/ArrayList$SubList$2"), (0, .class_ 503), (0, u "java/util/ArrayList$SubList$1")] 5

def k11c0 : Code := { maxStack := 2, maxLocals := 1, code := jdk_38_method_2_code, exceptionTable := #[], attributes := #[] }
def k11m0 : Method := { name := "<init>", desc := "()V", sig := { parameters := [], returnType := none }, accessFlags := 1, code := some k11c0 }
def k11c1 : Code := { maxStack := 4, maxLocals := 4, code := jdk_38_method_6_code, exceptionTable := #[], attributes := #[] }
def k11m1 : Method := { name := "grow", desc := "(I)[Ljava/lang/Object;", sig := { parameters := [.int], returnType := some (.array (.object "java/lang/Object")) }, accessFlags := 2, code := some k11c1 }
def k11c2 : Code := { maxStack := 3, maxLocals := 1, code := jdk_38_method_7_code, exceptionTable := #[], attributes := #[] }
def k11m2 : Method := { name := "grow", desc := "()[Ljava/lang/Object;", sig := { parameters := [], returnType := some (.array (.object "java/lang/Object")) }, accessFlags := 2, code := some k11c2 }
def k11c3 : Code := { maxStack := 1, maxLocals := 1, code := jdk_38_method_9_code, exceptionTable := #[], attributes := #[] }
def k11m3 : Method := { name := "isEmpty", desc := "()Z", sig := { parameters := [], returnType := some .boolean }, accessFlags := 1, code := some k11c3 }
def k11c4 : Code := { maxStack := 3, maxLocals := 4, code := jdk_38_method_24_code, exceptionTable := #[], attributes := #[] }
def k11m4 : Method := { name := "add", desc := "(Ljava/lang/Object;[Ljava/lang/Object;I)V", sig := { parameters := [(.object "java/lang/Object"), (.array (.object "java/lang/Object")), .int], returnType := none }, accessFlags := 2, code := some k11c4 }
def k11c5 : Code := { maxStack := 4, maxLocals := 2, code := jdk_38_method_25_code, exceptionTable := #[], attributes := #[] }
def k11m5 : Method := { name := "add", desc := "(Ljava/lang/Object;)Z", sig := { parameters := [(.object "java/lang/Object")], returnType := some .boolean }, accessFlags := 1, code := some k11c5 }
/-- java/util/ArrayList -/
def k11 : Class := { plain "java/util/ArrayList" (some 7) with
  accessFlags := 33
  interfaces := #[6, 8, 9, 10]
  cf := some (fileOf pool11 10 #[.nestMembers #[290, 276, 500, 502, 262, 267]] #[{ accessFlags := 1, nameIndex := 5, descriptorIndex := 6, attributes := #[] }, { accessFlags := 2, nameIndex := 71, descriptorIndex := 72, attributes := #[] }, { accessFlags := 2, nameIndex := 71, descriptorIndex := 47, attributes := #[] }, { accessFlags := 1, nameIndex := 363, descriptorIndex := 173, attributes := #[] }, { accessFlags := 2, nameIndex := 133, descriptorIndex := 134, attributes := #[] }, { accessFlags := 1, nameIndex := 133, descriptorIndex := 96, attributes := #[] }] 33 2 #[148, 329, 331, 333] #[{ accessFlags := 26, nameIndex := 335, descriptorIndex := 336, attributes := #[] }, { accessFlags := 26, nameIndex := 340, descriptorIndex := 51, attributes := #[] }, { accessFlags := 26, nameIndex := 17, descriptorIndex := 14, attributes := #[] }, { accessFlags := 26, nameIndex := 41, descriptorIndex := 14, attributes := #[] }, { accessFlags := 128, nameIndex := 13, descriptorIndex := 14, attributes := #[] }, { accessFlags := 2, nameIndex := 50, descriptorIndex := 51, attributes := #[] }])
  fields := #[{ name := "serialVersionUID", type := .long, accessFlags := 26, slot := 0, constantValue := 0 }, { name := "DEFAULT_CAPACITY", type := .int, accessFlags := 26, slot := 1, constantValue := 0 }, { name := "EMPTY_ELEMENTDATA", type := (.array (.object "java/lang/Object")), accessFlags := 26, slot := 2, constantValue := 0 }, { name := "DEFAULTCAPACITY_EMPTY_ELEMENTDATA", type := (.array (.object "java/lang/Object")), accessFlags := 26, slot := 3, constantValue := 0 }, { name := "elementData", type := (.array (.object "java/lang/Object")), accessFlags := 128, slot := 1, constantValue := 0 }, { name := "size", type := .int, accessFlags := 2, slot := 2, constantValue := 0 }]
  methods := #[k11m0, k11m1, k11m2, k11m3, k11m4, k11m5]
  instanceTypes := #[.int, (.array (.object "java/lang/Object")), .int]
  staticTypes := #[.long, .int, (.array (.object "java/lang/Object")), (.array (.object "java/lang/Object"))]
  resolved := Array.replicate 509 none
  statics := some 0 }

def pool12 : Array CpInfo := pool [(1, .methodref 2 3), (0, .class_ 4), (0, .nameAndType 5 6), (0, u "java/lang/Object"), (0, u "<init>"), (0, u "()V"), (1, .class_ 10), (1, u "java/lang/Number"), (2, .class_ 14), (0, u "java/io/Serializable"), (0, u "serialVersionUID"), (0, u "J")] 20

def k12c0 : Code := { maxStack := 1, maxLocals := 1, code := jdk_18_method_1_code, exceptionTable := #[], attributes := #[] }
def k12m0 : Method := { name := "<init>", desc := "()V", sig := { parameters := [], returnType := none }, accessFlags := 1, code := some k12c0 }
/-- java/lang/Number -/
def k12 : Class := { plain "java/lang/Number" (some 0) with
  accessFlags := 1057
  interfaces := #[10]
  cf := some (fileOf pool12 8 #[] #[{ accessFlags := 1, nameIndex := 5, descriptorIndex := 6, attributes := #[] }] 1057 2 #[13] #[{ accessFlags := 26, nameIndex := 15, descriptorIndex := 16, attributes := #[] }])
  fields := #[{ name := "serialVersionUID", type := .long, accessFlags := 26, slot := 0, constantValue := 0 }]
  methods := #[k12m0]
  instanceTypes := #[]
  staticTypes := #[.long]
  resolved := Array.replicate 37 none
  statics := none }

def pool13 : Array CpInfo := pool [(1, .class_ 2), (0, u "java/lang/Comparable"), (0, .class_ 4), (0, u "java/lang/Object")] 7

/-- java/lang/Comparable -/
def k13 : Class := { plain "java/lang/Comparable" (some 0) with
  accessFlags := 1537
  interfaces := #[]
  cf := some (fileOf pool13 1 #[] #[] 1537 3 #[] #[])
  fields := #[]
  methods := #[]
  instanceTypes := #[]
  staticTypes := #[]
  resolved := Array.replicate 12 none
  statics := none }

def pool14 : Array CpInfo := pool [(1, .class_ 2), (0, u "java/lang/constant/Constable"), (0, .class_ 4), (0, u "java/lang/Object")] 6

/-- java/lang/constant/Constable -/
def k14 : Class := { plain "java/lang/constant/Constable" (some 0) with
  accessFlags := 1537
  interfaces := #[]
  cf := some (fileOf pool14 1 #[] #[] 1537 3 #[] #[])
  fields := #[]
  methods := #[]
  instanceTypes := #[]
  staticTypes := #[]
  resolved := Array.replicate 11 none
  statics := none }

def pool15 : Array CpInfo := pool [(1, .class_ 2), (0, u "java/lang/constant/ConstantDesc"), (0, .class_ 4), (0, u "java/lang/Object")] 32

/-- java/lang/constant/ConstantDesc -/
def k15 : Class := { plain "java/lang/constant/ConstantDesc" (some 0) with
  accessFlags := 1537
  interfaces := #[]
  cf := some (fileOf pool15 1 #[] #[] 1537 3 #[] #[])
  fields := #[]
  methods := #[]
  instanceTypes := #[]
  staticTypes := #[]
  resolved := Array.replicate 37 none
  statics := none }

def pool16 : Array CpInfo := pool [(1, .class_ 2), (0, u "java/lang/Integer"), (16, u "digits"), (0, u "[C"), (46, u "<init>"), (17, u "DigitOnes"), (0, u "[B"), (2, u "DigitTens"), (10, .nameAndType 67 101), (0, u "()V"), (85, u "valueOf"), (0, u "(I)Ljava/lang/Integer;"), (0, .class_ 190), (0, u "java/lang/Integer$IntegerCache"), (0, .fieldref 189 192), (0, .nameAndType 193 194), (0, u "high"), (0, u "I"), (0, .fieldref 189 196), (0, .nameAndType 197 198), (0, u "cache"), (0, u "[Ljava/lang/Integer;"), (0, .methodref 1 200), (0, .nameAndType 67 201), (0, u "(I)V"), (0, .methodref 203 100), (0, .class_ 204), (0, u "java/lang/Number"), (0, .fieldref 1 206), (0, .nameAndType 207 194), (0, u "value"), (94, u "TYPE"), (0, u "Ljava/lang/Class;"), (0, .class_ 305), (0, u "java/lang/Comparable"), (0, .class_ 307), (0, u "java/lang/constant/Constable"), (0, .class_ 309), (0, u "java/lang/constant/ConstantDesc"), (0, u "MIN_VALUE"), (1, u "MAX_VALUE"), (3, u "SIZE"), (1, u "BYTES"), (1, u "serialVersionUID"), (0, u "J")] 131

def k16c0 : Code := { maxStack := 3, maxLocals := 1, code := jdk_33_method_22_code, exceptionTable := #[], attributes := #[] }
def k16m0 : Method := { name := "valueOf", desc := "(I)Ljava/lang/Integer;", sig := { parameters := [.int], returnType := some (.object "java/lang/Integer") }, accessFlags := 9, code := some k16c0 }
def k16c1 : Code := { maxStack := 2, maxLocals := 2, code := jdk_33_method_23_code, exceptionTable := #[], attributes := #[] }
def k16m1 : Method := { name := "<init>", desc := "(I)V", sig := { parameters := [.int], returnType := none }, accessFlags := 1, code := some k16c1 }
/-- java/lang/Integer -/
def k16 : Class := { plain "java/lang/Integer" (some 12) with
  accessFlags := 49
  interfaces := #[13, 14, 15]
  cf := some (fileOf pool16 1 #[.nestMembers #[189]] #[{ accessFlags := 9, nameIndex := 187, descriptorIndex := 188, attributes := #[] }, { accessFlags := 1, nameIndex := 67, descriptorIndex := 201, attributes := #[] }] 49 203 #[304, 306, 308] #[{ accessFlags := 25, nameIndex := 310, descriptorIndex := 194, attributes := #[] }, { accessFlags := 25, nameIndex := 312, descriptorIndex := 194, attributes := #[] }, { accessFlags := 25, nameIndex := 302, descriptorIndex := 303, attributes := #[] }, { accessFlags := 24, nameIndex := 19, descriptorIndex := 20, attributes := #[] }, { accessFlags := 24, nameIndex := 89, descriptorIndex := 86, attributes := #[] }, { accessFlags := 24, nameIndex := 85, descriptorIndex := 86, attributes := #[] }, { accessFlags := 18, nameIndex := 207, descriptorIndex := 194, attributes := #[] }, { accessFlags := 25, nameIndex := 316, descriptorIndex := 194, attributes := #[] }, { accessFlags := 25, nameIndex := 318, descriptorIndex := 194, attributes := #[] }, { accessFlags := 26, nameIndex := 320, descriptorIndex := 321, attributes := #[] }])
  fields := #[{ name := "MIN_VALUE", type := .int, accessFlags := 25, slot := 0, constantValue := 0 }, { name := "MAX_VALUE", type := .int, accessFlags := 25, slot := 1, constantValue := 0 }, { name := "TYPE", type := (.object "java/lang/Class"), accessFlags := 25, slot := 2, constantValue := 0 }, { name := "digits", type := (.array .char), accessFlags := 24, slot := 3, constantValue := 0 }, { name := "DigitTens", type := (.array .byte), accessFlags := 24, slot := 4, constantValue := 0 }, { name := "DigitOnes", type := (.array .byte), accessFlags := 24, slot := 5, constantValue := 0 }, { name := "value", type := .int, accessFlags := 18, slot := 0, constantValue := 0 }, { name := "SIZE", type := .int, accessFlags := 25, slot := 6, constantValue := 0 }, { name := "BYTES", type := .int, accessFlags := 25, slot := 7, constantValue := 0 }, { name := "serialVersionUID", type := .long, accessFlags := 26, slot := 8, constantValue := 0 }]
  methods := #[k16m0, k16m1]
  instanceTypes := #[.int]
  staticTypes := #[.int, .int, (.object "java/lang/Class"), (.array .char), (.array .byte), (.array .byte), .int, .int, .long]
  resolved := Array.replicate 453 none
  statics := none }

def pool17 : Array CpInfo := pool [(2, .class_ 4), (1, u "java/lang/Object"), (0, u "<init>"), (0, u "()V"), (0, .class_ 8), (0, u "java/lang/Integer"), (7, .class_ 18), (1, u "java/lang/Integer$IntegerCache"), (0, u "$assertionsDisabled"), (0, u "Z"), (26, u "high"), (0, u "I"), (8, u "archivedCache"), (0, u "[Ljava/lang/Integer;"), (12, u "cache"), (0, u "low")] 27

def k17m0 : Method := { name := "<init>", desc := "()V", sig := { parameters := [], returnType := none }, accessFlags := 2, code := none }
/-- java/lang/Integer$IntegerCache -/
def k17 : Class := { plain "java/lang/Integer$IntegerCache" (some 0) with
  accessFlags := 48
  interfaces := #[]
  cf := some (fileOf pool17 16 #[.nestHost 7] #[{ accessFlags := 2, nameIndex := 5, descriptorIndex := 6, attributes := #[] }] 48 2 #[] #[{ accessFlags := 24, nameIndex := 72, descriptorIndex := 48, attributes := #[] }, { accessFlags := 24, nameIndex := 47, descriptorIndex := 48, attributes := #[] }, { accessFlags := 24, nameIndex := 71, descriptorIndex := 58, attributes := #[] }, { accessFlags := 8, nameIndex := 57, descriptorIndex := 58, attributes := #[] }, { accessFlags := 4120, nameIndex := 19, descriptorIndex := 20, attributes := #[] }])
  fields := #[{ name := "low", type := .int, accessFlags := 24, slot := 0, constantValue := 0 }, { name := "high", type := .int, accessFlags := 24, slot := 1, constantValue := 0 }, { name := "cache", type := (.array (.object "java/lang/Integer")), accessFlags := 24, slot := 2, constantValue := 0 }, { name := "archivedCache", type := (.array (.object "java/lang/Integer")), accessFlags := 8, slot := 3, constantValue := 0 }, { name := "$assertionsDisabled", type := .boolean, accessFlags := 4120, slot := 4, constantValue := 0 }]
  methods := #[k17m0]
  instanceTypes := #[]
  staticTypes := #[.int, .int, (.array (.object "java/lang/Integer")), (.array (.object "java/lang/Integer")), .boolean]
  resolved := Array.replicate 100 none
  statics := some 1 }

def pool18 : Array CpInfo := pool [(1, .class_ 2), (0, u "java/lang/Math"), (1, .class_ 6), (1, u "java/lang/Object"), (0, u "<init>"), (0, u "()V"), (89, .class_ 100), (1, u "java/lang/Math$RandomNumberGeneratorHolder"), (71, u "negativeZeroFloatBits"), (0, u "J"), (2, u "negativeZeroDoubleBits"), (21, u "max"), (46, u "$assertionsDisabled"), (0, u "Z"), (88, u "(II)I"), (2, u "twoToTheDoubleScaleDown"), (0, u "D"), (4, u "twoToTheDoubleScaleUp"), (9, u "E"), (3, u "PI"), (2, u "TAU"), (2, u "DEGREES_TO_RADIANS"), (0, u "RADIANS_TO_DEGREES")] 94

def k18m0 : Method := { name := "<init>", desc := "()V", sig := { parameters := [], returnType := none }, accessFlags := 2, code := none }
def k18c1 : Code := { maxStack := 2, maxLocals := 2, code := jdk_29_method_65_code, exceptionTable := #[], attributes := #[] }
def k18m1 : Method := { name := "max", desc := "(II)I", sig := { parameters := [.int, .int], returnType := some .int }, accessFlags := 9, code := some k18c1 }
/-- java/lang/Math -/
def k18 : Class := { plain "java/lang/Math" (some 0) with
  accessFlags := 49
  interfaces := #[]
  cf := some (fileOf pool18 1 #[.nestMembers #[98]] #[{ accessFlags := 2, nameIndex := 7, descriptorIndex := 8, attributes := #[] }, { accessFlags := 9, nameIndex := 198, descriptorIndex := 335, attributes := #[] }] 49 4 #[] #[{ accessFlags := 25, nameIndex := 354, descriptorIndex := 339, attributes := #[] }, { accessFlags := 25, nameIndex := 358, descriptorIndex := 339, attributes := #[] }, { accessFlags := 25, nameIndex := 361, descriptorIndex := 339, attributes := #[] }, { accessFlags := 26, nameIndex := 364, descriptorIndex := 339, attributes := #[] }, { accessFlags := 26, nameIndex := 365, descriptorIndex := 339, attributes := #[] }, { accessFlags := 26, nameIndex := 172, descriptorIndex := 173, attributes := #[] }, { accessFlags := 26, nameIndex := 176, descriptorIndex := 173, attributes := #[] }, { accessFlags := 8, nameIndex := 344, descriptorIndex := 339, attributes := #[] }, { accessFlags := 8, nameIndex := 338, descriptorIndex := 339, attributes := #[] }, { accessFlags := 4120, nameIndex := 245, descriptorIndex := 246, attributes := #[] }])
  fields := #[{ name := "E", type := .double, accessFlags := 25, slot := 0, constantValue := 0 }, { name := "PI", type := .double, accessFlags := 25, slot := 1, constantValue := 0 }, { name := "TAU", type := .double, accessFlags := 25, slot := 2, constantValue := 0 }, { name := "DEGREES_TO_RADIANS", type := .double, accessFlags := 26, slot := 3, constantValue := 0 }, { name := "RADIANS_TO_DEGREES", type := .double, accessFlags := 26, slot := 4, constantValue := 0 }, { name := "negativeZeroFloatBits", type := .long, accessFlags := 26, slot := 5, constantValue := 0 }, { name := "negativeZeroDoubleBits", type := .long, accessFlags := 26, slot := 6, constantValue := 0 }, { name := "twoToTheDoubleScaleUp", type := .double, accessFlags := 8, slot := 7, constantValue := 0 }, { name := "twoToTheDoubleScaleDown", type := .double, accessFlags := 8, slot := 8, constantValue := 0 }, { name := "$assertionsDisabled", type := .boolean, accessFlags := 4120, slot := 9, constantValue := 0 }]
  methods := #[k18m0, k18m1]
  instanceTypes := #[]
  staticTypes := #[.double, .double, .double, .double, .double, .long, .long, .double, .double, .boolean]
  resolved := Array.replicate 460 none
  statics := none }

def pool19 : Array CpInfo := pool [(1, .methodref 2 3), (0, .class_ 4), (0, .nameAndType 5 6), (0, u "java/lang/Object"), (0, u "<init>"), (0, u "()V"), (0, .class_ 8), (0, u "java/lang/Record")] 13

def k19c0 : Code := { maxStack := 1, maxLocals := 1, code := jdk_30_method_1_code, exceptionTable := #[], attributes := #[] }
def k19m0 : Method := { name := "<init>", desc := "()V", sig := { parameters := [], returnType := none }, accessFlags := 4, code := some k19c0 }
/-- java/lang/Record -/
def k19 : Class := { plain "java/lang/Record" (some 0) with
  accessFlags := 1057
  interfaces := #[]
  cf := some (fileOf pool19 7 #[] #[{ accessFlags := 4, nameIndex := 5, descriptorIndex := 6, attributes := #[] }] 1057 2 #[] #[])
  fields := #[]
  methods := #[k19m0]
  instanceTypes := #[]
  staticTypes := #[]
  resolved := Array.replicate 22 none
  statics := none }

def pool20 : Array CpInfo := pool [(1, .methodref 2 3), (0, .class_ 4), (0, .nameAndType 5 6), (0, u "java/lang/Record"), (0, u "<init>"), (0, u "()V"), (0, .fieldref 8 9), (0, .class_ 10), (0, .nameAndType 11 12), (0, u "com/example/lichen/lichen/solver/TermSubsumption$Ways"), (0, u "each"), (0, u "Ljava/util/List;"), (0, .fieldref 8 14), (0, .nameAndType 15 12), (0, u "producers"), (1, .class_ 19), (1, u "java/util/List"), (6, .interfaceMethodref 17 27), (0, .nameAndType 28 29), (0, u "isEmpty"), (0, u "()Z"), (34, u "(Ljava/util/List;Ljava/util/List;)V"), (5, u "never"), (9, .class_ 81), (0, u "com/example/lichen/lichen/solver/TermSubsumption")] 21

def k20c0 : Code := { maxStack := 2, maxLocals := 3, code := prog_103_method_1_code, exceptionTable := #[], attributes := #[] }
def k20m0 : Method := { name := "<init>", desc := "(Ljava/util/List;Ljava/util/List;)V", sig := { parameters := [(.object "java/util/List"), (.object "java/util/List")], returnType := none }, accessFlags := 0, code := some k20c0 }
def k20c1 : Code := { maxStack := 1, maxLocals := 1, code := prog_103_method_3_code, exceptionTable := #[], attributes := #[] }
def k20m1 : Method := { name := "never", desc := "()Z", sig := { parameters := [], returnType := some .boolean }, accessFlags := 0, code := some k20c1 }
/-- com/example/lichen/lichen/solver/TermSubsumption$Ways -/
def k20 : Class := { plain "com/example/lichen/lichen/solver/TermSubsumption$Ways" (some 19) with
  accessFlags := 48
  interfaces := #[]
  cf := some (fileOf pool20 8 #[.nestHost 80] #[{ accessFlags := 0, nameIndex := 5, descriptorIndex := 64, attributes := #[] }, { accessFlags := 0, nameIndex := 70, descriptorIndex := 29, attributes := #[] }] 48 2 #[] #[{ accessFlags := 18, nameIndex := 11, descriptorIndex := 12, attributes := #[] }, { accessFlags := 18, nameIndex := 15, descriptorIndex := 12, attributes := #[] }])
  fields := #[{ name := "each", type := (.object "java/util/List"), accessFlags := 18, slot := 0, constantValue := 0 }, { name := "producers", type := (.object "java/util/List"), accessFlags := 18, slot := 1, constantValue := 0 }]
  methods := #[k20m0, k20m1]
  instanceTypes := #[(.object "java/util/List"), (.object "java/util/List")]
  staticTypes := #[]
  resolved := Array.replicate 103 none
  statics := none }

def pool21 : Array CpInfo := pool [(1, .methodref 2 3), (0, .class_ 4), (0, .nameAndType 5 6), (0, u "java/lang/Record"), (0, u "<init>"), (0, u "()V"), (0, .fieldref 8 9), (0, .class_ 10), (0, .nameAndType 11 12), (0, u "com/example/lichen/lichen/solver/TermSubsumption$Pair"), (0, u "sub"), (0, u "I"), (0, .fieldref 8 14), (0, .nameAndType 15 12), (0, u "sup"), (12, u "(II)V"), (9, .class_ 39), (0, u "com/example/lichen/lichen/solver/TermSubsumption")] 20

def k21c0 : Code := { maxStack := 2, maxLocals := 3, code := prog_102_method_1_code, exceptionTable := #[], attributes := #[] }
def k21m0 : Method := { name := "<init>", desc := "(II)V", sig := { parameters := [.int, .int], returnType := none }, accessFlags := 0, code := some k21c0 }
/-- com/example/lichen/lichen/solver/TermSubsumption$Pair -/
def k21 : Class := { plain "com/example/lichen/lichen/solver/TermSubsumption$Pair" (some 19) with
  accessFlags := 48
  interfaces := #[]
  cf := some (fileOf pool21 8 #[.nestHost 38] #[{ accessFlags := 0, nameIndex := 5, descriptorIndex := 28, attributes := #[] }] 48 2 #[] #[{ accessFlags := 18, nameIndex := 11, descriptorIndex := 12, attributes := #[] }, { accessFlags := 18, nameIndex := 15, descriptorIndex := 12, attributes := #[] }])
  fields := #[{ name := "sub", type := .int, accessFlags := 18, slot := 0, constantValue := 0 }, { name := "sup", type := .int, accessFlags := 18, slot := 1, constantValue := 0 }]
  methods := #[k21m0]
  instanceTypes := #[.int, .int]
  staticTypes := #[]
  resolved := Array.replicate 60 none
  statics := none }

/-- the primitive byte -/
def k22 : Class := { plain "byte" none with kind := .primitive 'B', accessFlags := 0x411 }
/-- [B -/
def k23 : Class := { plain "[B" (some 0) with kind := .array 22 .byte, interfaces := #[9, 10], accessFlags := 1041 }

/-- the primitive int -/
def k24 : Class := { plain "int" none with kind := .primitive 'I', accessFlags := 0x411 }
/-- [I -/
def k25 : Class := { plain "[I" (some 0) with kind := .array 24 .int, interfaces := #[9, 10], accessFlags := 1041 }

/-- [Ljava/lang/Integer; -/
def k26 : Class := { plain "[Ljava/lang/Integer;" (some 0) with kind := .array 16 (.object "java/lang/Integer"), interfaces := #[9, 10], accessFlags := 1041 }

/-- [Ljava/lang/Object; -/
def k27 : Class := { plain "[Ljava/lang/Object;" (some 0) with kind := .array 0 (.object "java/lang/Object"), interfaces := #[9, 10], accessFlags := 1041 }

def heap : Heap := #[{ cls := 11, slots := #[.long 0, .int 0, .ref 259, .ref 260], vm := .statics 11 },
  { cls := 17, slots := #[.int 0, .int 127, .ref 2, .null, .int 0], vm := .statics 17 },
  { cls := 26, slots := #[.ref 3, .ref 4, .ref 5, .ref 6, .ref 7, .ref 8, .ref 9, .ref 10, .ref 11, .ref 12, .ref 13, .ref 14, .ref 15, .ref 16, .ref 17, .ref 18, .ref 19, .ref 20, .ref 21, .ref 22, .ref 23, .ref 24, .ref 25, .ref 26, .ref 27, .ref 28, .ref 29, .ref 30, .ref 31, .ref 32, .ref 33, .ref 34, .ref 35, .ref 36, .ref 37, .ref 38, .ref 39, .ref 40, .ref 41, .ref 42, .ref 43, .ref 44, .ref 45, .ref 46, .ref 47, .ref 48, .ref 49, .ref 50, .ref 51, .ref 52, .ref 53, .ref 54, .ref 55, .ref 56, .ref 57, .ref 58, .ref 59, .ref 60, .ref 61, .ref 62, .ref 63, .ref 64, .ref 65, .ref 66, .ref 67, .ref 68, .ref 69, .ref 70, .ref 71, .ref 72, .ref 73, .ref 74, .ref 75, .ref 76, .ref 77, .ref 78, .ref 79, .ref 80, .ref 81, .ref 82, .ref 83, .ref 84, .ref 85, .ref 86, .ref 87, .ref 88, .ref 89, .ref 90, .ref 91, .ref 92, .ref 93, .ref 94, .ref 95, .ref 96, .ref 97, .ref 98, .ref 99, .ref 100, .ref 101, .ref 102, .ref 103, .ref 104, .ref 105, .ref 106, .ref 107, .ref 108, .ref 109, .ref 110, .ref 111, .ref 112, .ref 113, .ref 114, .ref 115, .ref 116, .ref 117, .ref 118, .ref 119, .ref 120, .ref 121, .ref 122, .ref 123, .ref 124, .ref 125, .ref 126, .ref 127, .ref 128, .ref 129, .ref 130, .ref 131, .ref 132, .ref 133, .ref 134, .ref 135, .ref 136, .ref 137, .ref 138, .ref 139, .ref 140, .ref 141, .ref 142, .ref 143, .ref 144, .ref 145, .ref 146, .ref 147, .ref 148, .ref 149, .ref 150, .ref 151, .ref 152, .ref 153, .ref 154, .ref 155, .ref 156, .ref 157, .ref 158, .ref 159, .ref 160, .ref 161, .ref 162, .ref 163, .ref 164, .ref 165, .ref 166, .ref 167, .ref 168, .ref 169, .ref 170, .ref 171, .ref 172, .ref 173, .ref 174, .ref 175, .ref 176, .ref 177, .ref 178, .ref 179, .ref 180, .ref 181, .ref 182, .ref 183, .ref 184, .ref 185, .ref 186, .ref 187, .ref 188, .ref 189, .ref 190, .ref 191, .ref 192, .ref 193, .ref 194, .ref 195, .ref 196, .ref 197, .ref 198, .ref 199, .ref 200, .ref 201, .ref 202, .ref 203, .ref 204, .ref 205, .ref 206, .ref 207, .ref 208, .ref 209, .ref 210, .ref 211, .ref 212, .ref 213, .ref 214, .ref 215, .ref 216, .ref 217, .ref 218, .ref 219, .ref 220, .ref 221, .ref 222, .ref 223, .ref 224, .ref 225, .ref 226, .ref 227, .ref 228, .ref 229, .ref 230, .ref 231, .ref 232, .ref 233, .ref 234, .ref 235, .ref 236, .ref 237, .ref 238, .ref 239, .ref 240, .ref 241, .ref 242, .ref 243, .ref 244, .ref 245, .ref 246, .ref 247, .ref 248, .ref 249, .ref 250, .ref 251, .ref 252, .ref 253, .ref 254, .ref 255, .ref 256, .ref 257, .ref 258], vm := .none },
  { cls := 16, slots := #[.int (-128)], vm := .none },
  { cls := 16, slots := #[.int (-127)], vm := .none },
  { cls := 16, slots := #[.int (-126)], vm := .none },
  { cls := 16, slots := #[.int (-125)], vm := .none },
  { cls := 16, slots := #[.int (-124)], vm := .none },
  { cls := 16, slots := #[.int (-123)], vm := .none },
  { cls := 16, slots := #[.int (-122)], vm := .none },
  { cls := 16, slots := #[.int (-121)], vm := .none },
  { cls := 16, slots := #[.int (-120)], vm := .none },
  { cls := 16, slots := #[.int (-119)], vm := .none },
  { cls := 16, slots := #[.int (-118)], vm := .none },
  { cls := 16, slots := #[.int (-117)], vm := .none },
  { cls := 16, slots := #[.int (-116)], vm := .none },
  { cls := 16, slots := #[.int (-115)], vm := .none },
  { cls := 16, slots := #[.int (-114)], vm := .none },
  { cls := 16, slots := #[.int (-113)], vm := .none },
  { cls := 16, slots := #[.int (-112)], vm := .none },
  { cls := 16, slots := #[.int (-111)], vm := .none },
  { cls := 16, slots := #[.int (-110)], vm := .none },
  { cls := 16, slots := #[.int (-109)], vm := .none },
  { cls := 16, slots := #[.int (-108)], vm := .none },
  { cls := 16, slots := #[.int (-107)], vm := .none },
  { cls := 16, slots := #[.int (-106)], vm := .none },
  { cls := 16, slots := #[.int (-105)], vm := .none },
  { cls := 16, slots := #[.int (-104)], vm := .none },
  { cls := 16, slots := #[.int (-103)], vm := .none },
  { cls := 16, slots := #[.int (-102)], vm := .none },
  { cls := 16, slots := #[.int (-101)], vm := .none },
  { cls := 16, slots := #[.int (-100)], vm := .none },
  { cls := 16, slots := #[.int (-99)], vm := .none },
  { cls := 16, slots := #[.int (-98)], vm := .none },
  { cls := 16, slots := #[.int (-97)], vm := .none },
  { cls := 16, slots := #[.int (-96)], vm := .none },
  { cls := 16, slots := #[.int (-95)], vm := .none },
  { cls := 16, slots := #[.int (-94)], vm := .none },
  { cls := 16, slots := #[.int (-93)], vm := .none },
  { cls := 16, slots := #[.int (-92)], vm := .none },
  { cls := 16, slots := #[.int (-91)], vm := .none },
  { cls := 16, slots := #[.int (-90)], vm := .none },
  { cls := 16, slots := #[.int (-89)], vm := .none },
  { cls := 16, slots := #[.int (-88)], vm := .none },
  { cls := 16, slots := #[.int (-87)], vm := .none },
  { cls := 16, slots := #[.int (-86)], vm := .none },
  { cls := 16, slots := #[.int (-85)], vm := .none },
  { cls := 16, slots := #[.int (-84)], vm := .none },
  { cls := 16, slots := #[.int (-83)], vm := .none },
  { cls := 16, slots := #[.int (-82)], vm := .none },
  { cls := 16, slots := #[.int (-81)], vm := .none },
  { cls := 16, slots := #[.int (-80)], vm := .none },
  { cls := 16, slots := #[.int (-79)], vm := .none },
  { cls := 16, slots := #[.int (-78)], vm := .none },
  { cls := 16, slots := #[.int (-77)], vm := .none },
  { cls := 16, slots := #[.int (-76)], vm := .none },
  { cls := 16, slots := #[.int (-75)], vm := .none },
  { cls := 16, slots := #[.int (-74)], vm := .none },
  { cls := 16, slots := #[.int (-73)], vm := .none },
  { cls := 16, slots := #[.int (-72)], vm := .none },
  { cls := 16, slots := #[.int (-71)], vm := .none },
  { cls := 16, slots := #[.int (-70)], vm := .none },
  { cls := 16, slots := #[.int (-69)], vm := .none },
  { cls := 16, slots := #[.int (-68)], vm := .none },
  { cls := 16, slots := #[.int (-67)], vm := .none },
  { cls := 16, slots := #[.int (-66)], vm := .none },
  { cls := 16, slots := #[.int (-65)], vm := .none },
  { cls := 16, slots := #[.int (-64)], vm := .none },
  { cls := 16, slots := #[.int (-63)], vm := .none },
  { cls := 16, slots := #[.int (-62)], vm := .none },
  { cls := 16, slots := #[.int (-61)], vm := .none },
  { cls := 16, slots := #[.int (-60)], vm := .none },
  { cls := 16, slots := #[.int (-59)], vm := .none },
  { cls := 16, slots := #[.int (-58)], vm := .none },
  { cls := 16, slots := #[.int (-57)], vm := .none },
  { cls := 16, slots := #[.int (-56)], vm := .none },
  { cls := 16, slots := #[.int (-55)], vm := .none },
  { cls := 16, slots := #[.int (-54)], vm := .none },
  { cls := 16, slots := #[.int (-53)], vm := .none },
  { cls := 16, slots := #[.int (-52)], vm := .none },
  { cls := 16, slots := #[.int (-51)], vm := .none },
  { cls := 16, slots := #[.int (-50)], vm := .none },
  { cls := 16, slots := #[.int (-49)], vm := .none },
  { cls := 16, slots := #[.int (-48)], vm := .none },
  { cls := 16, slots := #[.int (-47)], vm := .none },
  { cls := 16, slots := #[.int (-46)], vm := .none },
  { cls := 16, slots := #[.int (-45)], vm := .none },
  { cls := 16, slots := #[.int (-44)], vm := .none },
  { cls := 16, slots := #[.int (-43)], vm := .none },
  { cls := 16, slots := #[.int (-42)], vm := .none },
  { cls := 16, slots := #[.int (-41)], vm := .none },
  { cls := 16, slots := #[.int (-40)], vm := .none },
  { cls := 16, slots := #[.int (-39)], vm := .none },
  { cls := 16, slots := #[.int (-38)], vm := .none },
  { cls := 16, slots := #[.int (-37)], vm := .none },
  { cls := 16, slots := #[.int (-36)], vm := .none },
  { cls := 16, slots := #[.int (-35)], vm := .none },
  { cls := 16, slots := #[.int (-34)], vm := .none },
  { cls := 16, slots := #[.int (-33)], vm := .none },
  { cls := 16, slots := #[.int (-32)], vm := .none },
  { cls := 16, slots := #[.int (-31)], vm := .none },
  { cls := 16, slots := #[.int (-30)], vm := .none },
  { cls := 16, slots := #[.int (-29)], vm := .none },
  { cls := 16, slots := #[.int (-28)], vm := .none },
  { cls := 16, slots := #[.int (-27)], vm := .none },
  { cls := 16, slots := #[.int (-26)], vm := .none },
  { cls := 16, slots := #[.int (-25)], vm := .none },
  { cls := 16, slots := #[.int (-24)], vm := .none },
  { cls := 16, slots := #[.int (-23)], vm := .none },
  { cls := 16, slots := #[.int (-22)], vm := .none },
  { cls := 16, slots := #[.int (-21)], vm := .none },
  { cls := 16, slots := #[.int (-20)], vm := .none },
  { cls := 16, slots := #[.int (-19)], vm := .none },
  { cls := 16, slots := #[.int (-18)], vm := .none },
  { cls := 16, slots := #[.int (-17)], vm := .none },
  { cls := 16, slots := #[.int (-16)], vm := .none },
  { cls := 16, slots := #[.int (-15)], vm := .none },
  { cls := 16, slots := #[.int (-14)], vm := .none },
  { cls := 16, slots := #[.int (-13)], vm := .none },
  { cls := 16, slots := #[.int (-12)], vm := .none },
  { cls := 16, slots := #[.int (-11)], vm := .none },
  { cls := 16, slots := #[.int (-10)], vm := .none },
  { cls := 16, slots := #[.int (-9)], vm := .none },
  { cls := 16, slots := #[.int (-8)], vm := .none },
  { cls := 16, slots := #[.int (-7)], vm := .none },
  { cls := 16, slots := #[.int (-6)], vm := .none },
  { cls := 16, slots := #[.int (-5)], vm := .none },
  { cls := 16, slots := #[.int (-4)], vm := .none },
  { cls := 16, slots := #[.int (-3)], vm := .none },
  { cls := 16, slots := #[.int (-2)], vm := .none },
  { cls := 16, slots := #[.int (-1)], vm := .none },
  { cls := 16, slots := #[.int 0], vm := .none },
  { cls := 16, slots := #[.int 1], vm := .none },
  { cls := 16, slots := #[.int 2], vm := .none },
  { cls := 16, slots := #[.int 3], vm := .none },
  { cls := 16, slots := #[.int 4], vm := .none },
  { cls := 16, slots := #[.int 5], vm := .none },
  { cls := 16, slots := #[.int 6], vm := .none },
  { cls := 16, slots := #[.int 7], vm := .none },
  { cls := 16, slots := #[.int 8], vm := .none },
  { cls := 16, slots := #[.int 9], vm := .none },
  { cls := 16, slots := #[.int 10], vm := .none },
  { cls := 16, slots := #[.int 11], vm := .none },
  { cls := 16, slots := #[.int 12], vm := .none },
  { cls := 16, slots := #[.int 13], vm := .none },
  { cls := 16, slots := #[.int 14], vm := .none },
  { cls := 16, slots := #[.int 15], vm := .none },
  { cls := 16, slots := #[.int 16], vm := .none },
  { cls := 16, slots := #[.int 17], vm := .none },
  { cls := 16, slots := #[.int 18], vm := .none },
  { cls := 16, slots := #[.int 19], vm := .none },
  { cls := 16, slots := #[.int 20], vm := .none },
  { cls := 16, slots := #[.int 21], vm := .none },
  { cls := 16, slots := #[.int 22], vm := .none },
  { cls := 16, slots := #[.int 23], vm := .none },
  { cls := 16, slots := #[.int 24], vm := .none },
  { cls := 16, slots := #[.int 25], vm := .none },
  { cls := 16, slots := #[.int 26], vm := .none },
  { cls := 16, slots := #[.int 27], vm := .none },
  { cls := 16, slots := #[.int 28], vm := .none },
  { cls := 16, slots := #[.int 29], vm := .none },
  { cls := 16, slots := #[.int 30], vm := .none },
  { cls := 16, slots := #[.int 31], vm := .none },
  { cls := 16, slots := #[.int 32], vm := .none },
  { cls := 16, slots := #[.int 33], vm := .none },
  { cls := 16, slots := #[.int 34], vm := .none },
  { cls := 16, slots := #[.int 35], vm := .none },
  { cls := 16, slots := #[.int 36], vm := .none },
  { cls := 16, slots := #[.int 37], vm := .none },
  { cls := 16, slots := #[.int 38], vm := .none },
  { cls := 16, slots := #[.int 39], vm := .none },
  { cls := 16, slots := #[.int 40], vm := .none },
  { cls := 16, slots := #[.int 41], vm := .none },
  { cls := 16, slots := #[.int 42], vm := .none },
  { cls := 16, slots := #[.int 43], vm := .none },
  { cls := 16, slots := #[.int 44], vm := .none },
  { cls := 16, slots := #[.int 45], vm := .none },
  { cls := 16, slots := #[.int 46], vm := .none },
  { cls := 16, slots := #[.int 47], vm := .none },
  { cls := 16, slots := #[.int 48], vm := .none },
  { cls := 16, slots := #[.int 49], vm := .none },
  { cls := 16, slots := #[.int 50], vm := .none },
  { cls := 16, slots := #[.int 51], vm := .none },
  { cls := 16, slots := #[.int 52], vm := .none },
  { cls := 16, slots := #[.int 53], vm := .none },
  { cls := 16, slots := #[.int 54], vm := .none },
  { cls := 16, slots := #[.int 55], vm := .none },
  { cls := 16, slots := #[.int 56], vm := .none },
  { cls := 16, slots := #[.int 57], vm := .none },
  { cls := 16, slots := #[.int 58], vm := .none },
  { cls := 16, slots := #[.int 59], vm := .none },
  { cls := 16, slots := #[.int 60], vm := .none },
  { cls := 16, slots := #[.int 61], vm := .none },
  { cls := 16, slots := #[.int 62], vm := .none },
  { cls := 16, slots := #[.int 63], vm := .none },
  { cls := 16, slots := #[.int 64], vm := .none },
  { cls := 16, slots := #[.int 65], vm := .none },
  { cls := 16, slots := #[.int 66], vm := .none },
  { cls := 16, slots := #[.int 67], vm := .none },
  { cls := 16, slots := #[.int 68], vm := .none },
  { cls := 16, slots := #[.int 69], vm := .none },
  { cls := 16, slots := #[.int 70], vm := .none },
  { cls := 16, slots := #[.int 71], vm := .none },
  { cls := 16, slots := #[.int 72], vm := .none },
  { cls := 16, slots := #[.int 73], vm := .none },
  { cls := 16, slots := #[.int 74], vm := .none },
  { cls := 16, slots := #[.int 75], vm := .none },
  { cls := 16, slots := #[.int 76], vm := .none },
  { cls := 16, slots := #[.int 77], vm := .none },
  { cls := 16, slots := #[.int 78], vm := .none },
  { cls := 16, slots := #[.int 79], vm := .none },
  { cls := 16, slots := #[.int 80], vm := .none },
  { cls := 16, slots := #[.int 81], vm := .none },
  { cls := 16, slots := #[.int 82], vm := .none },
  { cls := 16, slots := #[.int 83], vm := .none },
  { cls := 16, slots := #[.int 84], vm := .none },
  { cls := 16, slots := #[.int 85], vm := .none },
  { cls := 16, slots := #[.int 86], vm := .none },
  { cls := 16, slots := #[.int 87], vm := .none },
  { cls := 16, slots := #[.int 88], vm := .none },
  { cls := 16, slots := #[.int 89], vm := .none },
  { cls := 16, slots := #[.int 90], vm := .none },
  { cls := 16, slots := #[.int 91], vm := .none },
  { cls := 16, slots := #[.int 92], vm := .none },
  { cls := 16, slots := #[.int 93], vm := .none },
  { cls := 16, slots := #[.int 94], vm := .none },
  { cls := 16, slots := #[.int 95], vm := .none },
  { cls := 16, slots := #[.int 96], vm := .none },
  { cls := 16, slots := #[.int 97], vm := .none },
  { cls := 16, slots := #[.int 98], vm := .none },
  { cls := 16, slots := #[.int 99], vm := .none },
  { cls := 16, slots := #[.int 100], vm := .none },
  { cls := 16, slots := #[.int 101], vm := .none },
  { cls := 16, slots := #[.int 102], vm := .none },
  { cls := 16, slots := #[.int 103], vm := .none },
  { cls := 16, slots := #[.int 104], vm := .none },
  { cls := 16, slots := #[.int 105], vm := .none },
  { cls := 16, slots := #[.int 106], vm := .none },
  { cls := 16, slots := #[.int 107], vm := .none },
  { cls := 16, slots := #[.int 108], vm := .none },
  { cls := 16, slots := #[.int 109], vm := .none },
  { cls := 16, slots := #[.int 110], vm := .none },
  { cls := 16, slots := #[.int 111], vm := .none },
  { cls := 16, slots := #[.int 112], vm := .none },
  { cls := 16, slots := #[.int 113], vm := .none },
  { cls := 16, slots := #[.int 114], vm := .none },
  { cls := 16, slots := #[.int 115], vm := .none },
  { cls := 16, slots := #[.int 116], vm := .none },
  { cls := 16, slots := #[.int 117], vm := .none },
  { cls := 16, slots := #[.int 118], vm := .none },
  { cls := 16, slots := #[.int 119], vm := .none },
  { cls := 16, slots := #[.int 120], vm := .none },
  { cls := 16, slots := #[.int 121], vm := .none },
  { cls := 16, slots := #[.int 122], vm := .none },
  { cls := 16, slots := #[.int 123], vm := .none },
  { cls := 16, slots := #[.int 124], vm := .none },
  { cls := 16, slots := #[.int 125], vm := .none },
  { cls := 16, slots := #[.int 126], vm := .none },
  { cls := 16, slots := #[.int 127], vm := .none },
  { cls := 27, slots := #[], vm := .none },
  { cls := 27, slots := #[], vm := .none }]
def classes : Array Class := #[k0, k1, k2, k3, k4, k5, k6, k7, k8, k9, k10, k11, k12, k13, k14, k15, k16, k17, k18, k19, k20, k21, k22, k23, k24, k25, k26, k27]
def interned : List (Array UInt16 × Addr) := []
def slotsUsed : Nat := 521
def theMethod : MethodId := ⟨1, 1⟩
def args0 : Array Value := #[.int 5, .int 6, .int 7, .int 8, .int 9, .int 10]
def aboutOver (below : List Frame) : State where
  vm := { classes := classes, interned := interned.toArray }
  heap := heap
  slotsUsed := slotsUsed
  threads := #[{ frames := .invoking theMethod args0 :: below }]
def below0 : List Frame := [.native { method := ⟨0, 0⟩, args := #[] }]
def about1 : State := aboutOver below0
def p0 : Program := .bare "" "" ""
def e0 : Env := launch0.env 0 0 0
theorem w_frames : about1.frames = Frame.invoking theMethod args0 :: below0 := rfl
set_option maxRecDepth 65536 in
theorem w_args : argsFit about1.vm theMethod args0 = true := by decide +kernel
set_option maxRecDepth 65536 in
theorem w_heap : heapFits about1 = true := by decide +kernel
set_option maxRecDepth 65536 in
theorem w_runnable : about1.curStatus? = some .runnable := by decide +kernel
set_option maxRecDepth 65536 in
theorem w_alone : about1.alone = true := by decide +kernel
set_option maxRecDepth 65536 in
theorem w_named : about1.methodNamed? x = some theMethod := by decide +kernel
set_option maxRecDepth 65536 in
theorem w_hears : about1.hears theMethod below0 = true := by decide +kernel
set_option maxRecDepth 65536 in
theorem w_ripe : about1.ripe theMethod args0 below0 = true := by decide +kernel
theorem w_running : about1.status = .running := rfl
set_option maxRecDepth 65536 in
theorem w_room : about1.hasRoom e0.platform room_1 = true :=
  launch0.hasRoom_least _ room_1 (by decide +kernel) (by decide +kernel) (by decide +kernel) (by decide +kernel) (by decide +kernel) (by decide +kernel)
theorem allAtoms_all (ts : List Jvm.Cond) (a : Array Jvm.Value) (st : Jvm.State) : (allAtoms ts).before a st = ts.all (fun c => c.before a st) := by
  induction ts with
  | nil => rfl
  | cons c t ih =>
    show (Jvm.Cond.and c (allAtoms t)).before a st = _
    rw [Jvm.Cond.before_and, ih, List.all_cons]
def words1 : List Jvm.Cond := Jvm.Cond.code x code maxLocals ret :: tables_1
/-- a 'code' word, met by the world's own term for the bytes: nothing is compared byte by byte -/
theorem code_word {y : MethodName} {bytes : ByteArray} {mx : Nat} {rt : Option FieldType} {a : Array Value} {s : State} {m : MethodId} {meth : Method} {c : Code} (h1 : s.methodNamed? y = some m) (h2 : s.vm.method? m = some meth) (h3 : meth.code = some c) (h4 : c.code = bytes)
    (h5 : (c.maxLocals == mx && c.exceptionTable.isEmpty && decide (c.maxStack ≤ mostOperands) && decide (meth.sig.returnType = rt) && !meth.locks && decide (parseMethodDescriptor y.desc = some meth.sig)) = true) : (Jvm.Cond.code y bytes mx rt).before a s = true := by
  simp only [Bool.and_eq_true, beq_iff_eq, Bool.not_eq_true', decide_eq_true_eq] at h5
  obtain ⟨⟨⟨⟨⟨g1, g2⟩, g3⟩, g4⟩, g5⟩, g6⟩ := h5
  simp [Cond.before, Cond.holds, Cond.value, h1, h2, h3, h4, g1, g2, g3, g4, g5, g6]
def isCode : Jvm.Cond → Bool
  | .code _ _ _ _ => true
  | _ => false
theorem all_split {L : List Jvm.Cond} {P : Jvm.Cond → Bool} (h1 : L.all (fun c => isCode c || P c) = true) (h2 : ∀ c ∈ L.filter isCode, P c = true) : L.all P = true := by
  refine List.all_eq_true.mpr fun c hc => ?_
  have h := List.all_eq_true.mp h1 c hc
  rcases Bool.eq_false_or_eq_true (isCode c) with hi | hi
  · exact h2 c (List.mem_filter.mpr ⟨hc, hi⟩)
  · simpa [hi] using h
set_option maxRecDepth 65536 in
theorem w_c0 : (Jvm.Cond.code x code maxLocals ret).before args0 about1 = true := code_word (m := ⟨1, 1⟩) (meth := k1m1) (c := k1c1) (by decide +kernel) rfl rfl rfl (by decide +kernel)
set_option maxRecDepth 65536 in
theorem w_c1 : (Jvm.Cond.code ({ cls := "java/util/ArrayList", name := "<init>", desc := "()V" } : Jvm.MethodName) jdk_38_method_2_code (1 : Nat) (Option.none : Option Jvm.ClassFile.FieldType)).before args0 about1 = true := code_word (m := ⟨11, 0⟩) (meth := k11m0) (c := k11c0) (by decide +kernel) rfl rfl rfl (by decide +kernel)
set_option maxRecDepth 65536 in
theorem w_c2 : (Jvm.Cond.code ({ cls := "java/util/AbstractList", name := "<init>", desc := "()V" } : Jvm.MethodName) jdk_39_method_1_code (1 : Nat) (Option.none : Option Jvm.ClassFile.FieldType)).before args0 about1 = true := code_word (m := ⟨7, 0⟩) (meth := k7m0) (c := k7c0) (by decide +kernel) rfl rfl rfl (by decide +kernel)
set_option maxRecDepth 65536 in
theorem w_c3 : (Jvm.Cond.code ({ cls := "java/util/AbstractCollection", name := "<init>", desc := "()V" } : Jvm.MethodName) jdk_22_method_1_code (1 : Nat) (Option.none : Option Jvm.ClassFile.FieldType)).before args0 about1 = true := code_word (m := ⟨4, 0⟩) (meth := k4m0) (c := k4c0) (by decide +kernel) rfl rfl rfl (by decide +kernel)
set_option maxRecDepth 65536 in
theorem w_c4 : (Jvm.Cond.code ({ cls := "java/lang/Object", name := "<init>", desc := "()V" } : Jvm.MethodName) object_method_1_code (1 : Nat) (Option.none : Option Jvm.ClassFile.FieldType)).before args0 about1 = true := code_word (m := ⟨0, 0⟩) (meth := k0m0) (c := k0c0) (by decide +kernel) rfl rfl rfl (by decide +kernel)
set_option maxRecDepth 65536 in
theorem w_c5 : (Jvm.Cond.code ({ cls := "java/lang/Integer", name := "valueOf", desc := "(I)Ljava/lang/Integer;" } : Jvm.MethodName) jdk_33_method_22_code (1 : Nat) (Option.some (Jvm.ClassFile.FieldType.object "java/lang/Integer"))).before args0 about1 = true := code_word (m := ⟨16, 0⟩) (meth := k16m0) (c := k16c0) (by decide +kernel) rfl rfl rfl (by decide +kernel)
set_option maxRecDepth 65536 in
theorem w_c6 : (Jvm.Cond.code ({ cls := "java/util/ArrayList", name := "add", desc := "(Ljava/lang/Object;)Z" } : Jvm.MethodName) jdk_38_method_25_code (2 : Nat) (Option.some Jvm.ClassFile.FieldType.boolean)).before args0 about1 = true := code_word (m := ⟨11, 5⟩) (meth := k11m5) (c := k11c5) (by decide +kernel) rfl rfl rfl (by decide +kernel)
set_option maxRecDepth 65536 in
theorem w_c7 : (Jvm.Cond.code ({ cls := "java/util/ArrayList", name := "add", desc := "(Ljava/lang/Object;[Ljava/lang/Object;I)V" } : Jvm.MethodName) jdk_38_method_24_code (4 : Nat) (Option.none : Option Jvm.ClassFile.FieldType)).before args0 about1 = true := code_word (m := ⟨11, 4⟩) (meth := k11m4) (c := k11c4) (by decide +kernel) rfl rfl rfl (by decide +kernel)
set_option maxRecDepth 65536 in
theorem w_c8 : (Jvm.Cond.code ({ cls := "java/util/ArrayList", name := "grow", desc := "()[Ljava/lang/Object;" } : Jvm.MethodName) jdk_38_method_7_code (1 : Nat) (Option.some (Jvm.ClassFile.FieldType.array (Jvm.ClassFile.FieldType.object "java/lang/Object")))).before args0 about1 = true := code_word (m := ⟨11, 2⟩) (meth := k11m2) (c := k11c2) (by decide +kernel) rfl rfl rfl (by decide +kernel)
set_option maxRecDepth 65536 in
theorem w_c9 : (Jvm.Cond.code ({ cls := "java/util/ArrayList", name := "grow", desc := "(I)[Ljava/lang/Object;" } : Jvm.MethodName) jdk_38_method_6_code (4 : Nat) (Option.some (Jvm.ClassFile.FieldType.array (Jvm.ClassFile.FieldType.object "java/lang/Object")))).before args0 about1 = true := code_word (m := ⟨11, 1⟩) (meth := k11m1) (c := k11c1) (by decide +kernel) rfl rfl rfl (by decide +kernel)
set_option maxRecDepth 65536 in
theorem w_c10 : (Jvm.Cond.code ({ cls := "java/lang/Math", name := "max", desc := "(II)I" } : Jvm.MethodName) jdk_29_method_65_code (2 : Nat) (Option.some Jvm.ClassFile.FieldType.int)).before args0 about1 = true := code_word (m := ⟨18, 1⟩) (meth := k18m1) (c := k18c1) (by decide +kernel) rfl rfl rfl (by decide +kernel)
set_option maxRecDepth 65536 in
theorem w_c11 : (Jvm.Cond.code ({ cls := "com/example/lichen/lichen/solver/TermSubsumption$Ways", name := "<init>", desc := "(Ljava/util/List;Ljava/util/List;)V" } : Jvm.MethodName) prog_103_method_1_code (3 : Nat) (Option.none : Option Jvm.ClassFile.FieldType)).before args0 about1 = true := code_word (m := ⟨20, 0⟩) (meth := k20m0) (c := k20c0) (by decide +kernel) rfl rfl rfl (by decide +kernel)
set_option maxRecDepth 65536 in
theorem w_c12 : (Jvm.Cond.code ({ cls := "java/lang/Record", name := "<init>", desc := "()V" } : Jvm.MethodName) jdk_30_method_1_code (1 : Nat) (Option.none : Option Jvm.ClassFile.FieldType)).before args0 about1 = true := code_word (m := ⟨19, 0⟩) (meth := k19m0) (c := k19c0) (by decide +kernel) rfl rfl rfl (by decide +kernel)
set_option maxRecDepth 65536 in
theorem w_c13 : (Jvm.Cond.code ({ cls := "com/example/lichen/lichen/solver/TermSubsumption$Ways", name := "never", desc := "()Z" } : Jvm.MethodName) prog_103_method_3_code (1 : Nat) (Option.some Jvm.ClassFile.FieldType.boolean)).before args0 about1 = true := code_word (m := ⟨20, 1⟩) (meth := k20m1) (c := k20c1) (by decide +kernel) rfl rfl rfl (by decide +kernel)
set_option maxRecDepth 65536 in
theorem w_c14 : (Jvm.Cond.code ({ cls := "java/util/ArrayList", name := "isEmpty", desc := "()Z" } : Jvm.MethodName) jdk_38_method_9_code (1 : Nat) (Option.some Jvm.ClassFile.FieldType.boolean)).before args0 about1 = true := code_word (m := ⟨11, 3⟩) (meth := k11m3) (c := k11c3) (by decide +kernel) rfl rfl rfl (by decide +kernel)
set_option maxRecDepth 65536 in
theorem w_c15 : (Jvm.Cond.code ({ cls := "com/example/lichen/lichen/solver/TermSubsumption$Pair", name := "<init>", desc := "(II)V" } : Jvm.MethodName) prog_102_method_1_code (3 : Nat) (Option.none : Option Jvm.ClassFile.FieldType)).before args0 about1 = true := code_word (m := ⟨21, 0⟩) (meth := k21m0) (c := k21c0) (by decide +kernel) rfl rfl rfl (by decide +kernel)
set_option maxRecDepth 65536 in
theorem w_c16 : (Jvm.Cond.code ({ cls := "java/lang/Integer", name := "<init>", desc := "(I)V" } : Jvm.MethodName) jdk_33_method_23_code (2 : Nat) (Option.none : Option Jvm.ClassFile.FieldType)).before args0 about1 = true := code_word (m := ⟨16, 1⟩) (meth := k16m1) (c := k16c1) (by decide +kernel) rfl rfl rfl (by decide +kernel)
set_option maxRecDepth 65536 in
theorem w_c17 : (Jvm.Cond.code ({ cls := "java/lang/Number", name := "<init>", desc := "()V" } : Jvm.MethodName) jdk_18_method_1_code (1 : Nat) (Option.none : Option Jvm.ClassFile.FieldType)).before args0 about1 = true := code_word (m := ⟨12, 0⟩) (meth := k12m0) (c := k12c0) (by decide +kernel) rfl rfl rfl (by decide +kernel)
def codes1 : List Jvm.Cond := [Jvm.Cond.code x code maxLocals ret, Jvm.Cond.code ({ cls := "java/util/ArrayList", name := "<init>", desc := "()V" } : Jvm.MethodName) jdk_38_method_2_code (1 : Nat) (Option.none : Option Jvm.ClassFile.FieldType), Jvm.Cond.code ({ cls := "java/util/AbstractList", name := "<init>", desc := "()V" } : Jvm.MethodName) jdk_39_method_1_code (1 : Nat) (Option.none : Option Jvm.ClassFile.FieldType), Jvm.Cond.code ({ cls := "java/util/AbstractCollection", name := "<init>", desc := "()V" } : Jvm.MethodName) jdk_22_method_1_code (1 : Nat) (Option.none : Option Jvm.ClassFile.FieldType), Jvm.Cond.code ({ cls := "java/lang/Object", name := "<init>", desc := "()V" } : Jvm.MethodName) object_method_1_code (1 : Nat) (Option.none : Option Jvm.ClassFile.FieldType), Jvm.Cond.code ({ cls := "java/lang/Integer", name := "valueOf", desc := "(I)Ljava/lang/Integer;" } : Jvm.MethodName) jdk_33_method_22_code (1 : Nat) (Option.some (Jvm.ClassFile.FieldType.object "java/lang/Integer")), Jvm.Cond.code ({ cls := "java/util/ArrayList", name := "add", desc := "(Ljava/lang/Object;)Z" } : Jvm.MethodName) jdk_38_method_25_code (2 : Nat) (Option.some Jvm.ClassFile.FieldType.boolean), Jvm.Cond.code ({ cls := "java/util/ArrayList", name := "add", desc := "(Ljava/lang/Object;[Ljava/lang/Object;I)V" } : Jvm.MethodName) jdk_38_method_24_code (4 : Nat) (Option.none : Option Jvm.ClassFile.FieldType), Jvm.Cond.code ({ cls := "java/util/ArrayList", name := "grow", desc := "()[Ljava/lang/Object;" } : Jvm.MethodName) jdk_38_method_7_code (1 : Nat) (Option.some (Jvm.ClassFile.FieldType.array (Jvm.ClassFile.FieldType.object "java/lang/Object"))), Jvm.Cond.code ({ cls := "java/util/ArrayList", name := "grow", desc := "(I)[Ljava/lang/Object;" } : Jvm.MethodName) jdk_38_method_6_code (4 : Nat) (Option.some (Jvm.ClassFile.FieldType.array (Jvm.ClassFile.FieldType.object "java/lang/Object"))), Jvm.Cond.code ({ cls := "java/lang/Math", name := "max", desc := "(II)I" } : Jvm.MethodName) jdk_29_method_65_code (2 : Nat) (Option.some Jvm.ClassFile.FieldType.int), Jvm.Cond.code ({ cls := "com/example/lichen/lichen/solver/TermSubsumption$Ways", name := "<init>", desc := "(Ljava/util/List;Ljava/util/List;)V" } : Jvm.MethodName) prog_103_method_1_code (3 : Nat) (Option.none : Option Jvm.ClassFile.FieldType), Jvm.Cond.code ({ cls := "java/lang/Record", name := "<init>", desc := "()V" } : Jvm.MethodName) jdk_30_method_1_code (1 : Nat) (Option.none : Option Jvm.ClassFile.FieldType), Jvm.Cond.code ({ cls := "com/example/lichen/lichen/solver/TermSubsumption$Ways", name := "never", desc := "()Z" } : Jvm.MethodName) prog_103_method_3_code (1 : Nat) (Option.some Jvm.ClassFile.FieldType.boolean), Jvm.Cond.code ({ cls := "java/util/ArrayList", name := "isEmpty", desc := "()Z" } : Jvm.MethodName) jdk_38_method_9_code (1 : Nat) (Option.some Jvm.ClassFile.FieldType.boolean), Jvm.Cond.code ({ cls := "com/example/lichen/lichen/solver/TermSubsumption$Pair", name := "<init>", desc := "(II)V" } : Jvm.MethodName) prog_102_method_1_code (3 : Nat) (Option.none : Option Jvm.ClassFile.FieldType), Jvm.Cond.code ({ cls := "java/lang/Integer", name := "<init>", desc := "(I)V" } : Jvm.MethodName) jdk_33_method_23_code (2 : Nat) (Option.none : Option Jvm.ClassFile.FieldType), Jvm.Cond.code ({ cls := "java/lang/Number", name := "<init>", desc := "()V" } : Jvm.MethodName) jdk_18_method_1_code (1 : Nat) (Option.none : Option Jvm.ClassFile.FieldType)]
set_option maxRecDepth 65536 in
theorem codes_eq : words1.filter isCode = codes1 := rfl
theorem w_codes : ∀ c ∈ words1.filter isCode, c.before args0 about1 = true := by
  rw [codes_eq]
  intro c hc
  simp only [codes1, List.mem_cons, List.not_mem_nil, or_false] at hc
  rcases hc with rfl | rfl | rfl | rfl | rfl | rfl | rfl | rfl | rfl | rfl | rfl | rfl | rfl | rfl | rfl | rfl | rfl | rfl
  · exact w_c0
  · exact w_c1
  · exact w_c2
  · exact w_c3
  · exact w_c4
  · exact w_c5
  · exact w_c6
  · exact w_c7
  · exact w_c8
  · exact w_c9
  · exact w_c10
  · exact w_c11
  · exact w_c12
  · exact w_c13
  · exact w_c14
  · exact w_c15
  · exact w_c16
  · exact w_c17
set_option maxRecDepth 65536 in
theorem w_t1 : (words1.take 24).all (fun c => isCode c || c.before args0 about1) = true := by decide +kernel
set_option maxRecDepth 65536 in
theorem w_t2 : ((words1.drop 24).take 24).all (fun c => isCode c || c.before args0 about1) = true := by decide +kernel
set_option maxRecDepth 65536 in
theorem w_t3 : (((words1.drop 24).drop 24).take 24).all (fun c => isCode c || c.before args0 about1) = true := by decide +kernel
set_option maxRecDepth 65536 in
theorem w_t4 : ((((words1.drop 24).drop 24).drop 24).take 24).all (fun c => isCode c || c.before args0 about1) = true := by decide +kernel
set_option maxRecDepth 65536 in
theorem w_t5 : (((((words1.drop 24).drop 24).drop 24).drop 24).take 24).all (fun c => isCode c || c.before args0 about1) = true := by decide +kernel
set_option maxRecDepth 65536 in
theorem w_t6 : (((((words1.drop 24).drop 24).drop 24).drop 24).drop 24).all (fun c => isCode c || c.before args0 about1) = true := by decide +kernel
theorem w_tables : (allAtoms (Jvm.Cond.code x code maxLocals ret :: tables_1)).before args0 about1 = true := by
  rw [allAtoms_all]
  show words1.all (fun c => c.before args0 about1) = true
  refine all_split ?_ w_codes
  rw [← List.take_append_drop 24 words1, List.all_append, w_t1, ← List.take_append_drop 24 (words1.drop 24), List.all_append, w_t2, ← List.take_append_drop 24 ((words1.drop 24).drop 24), List.all_append, w_t3, ← List.take_append_drop 24 (((words1.drop 24).drop 24).drop 24), List.all_append, w_t4, ← List.take_append_drop 24 ((((words1.drop 24).drop 24).drop 24).drop 24), List.all_append, w_t5, w_t6]
  rfl
set_option maxRecDepth 65536 in
theorem w_rest : rest_1_c.before args0 about1 = true := by decide +kernel
set_option maxRecDepth 65536 in
theorem w_case : (Jvm.Cond.and given_1 narrow_1).before args0 about1 = true := by decide +kernel
theorem w_applies : (headSpec (Jvm.Cond.code x code maxLocals ret :: tables_1) room_1).applies x e0.platform about1 = true :=
  (Spec.applies_iff w_frames).mpr ⟨w_running, w_runnable, w_alone, w_named, w_hears, w_ripe, w_room, w_tables⟩
theorem atStart : AtStart classFile x code maxLocals ret World_1 tables_1 room_1 Calls_1 rest_1 Pre_1 launch0 p0 e0 about1 theMethod args0 below0 :=
  ⟨lists_1, trivial, launch0.admits_env _ _ _, launch0.least_env, fairChoices_fair.cas, fairChoices_fair.clock, w_frames, w_args, w_heap, w_applies, trivial, w_rest, w_case⟩
end start1
theorem witness_1 : WitnessClaimed_1 := ⟨start1.p0, start1.e0, start1.about1, start1.theMethod, start1.args0, start1.below0, start1.atStart⟩
end Jvm.Pilot.@@N@@
