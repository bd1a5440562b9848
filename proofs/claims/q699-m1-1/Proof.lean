import JvmDerived
import JvmDerived.Pilot.@@N@@Statement
import JvmDerived.Pilot.@@N@@Code
set_option linter.unusedVariables false
set_option linter.unusedSimpArgs false

namespace Jvm.OwnKit
open Sem ClassFile Op Lib Jvm.Stand Jvm.Free Jvm.LawKit Jvm.RoadKit
section Kit
variable {p : Program} {l : Launch} {e : Env} {R : Room} {s : State} {m : MethodId} {args : Array Value} {below : List Frame} {meth : Method} {c : Code} {T : State} {locs : List Loc} {cells slots : Nat} {Z : State} {a0 : Array Value} {h : Heap} {own nm : String} {bytes : ByteArray} {maxL : Nat} {ret : Option FieldType} {P : Outcome → State → Prop} {pc pc' : Nat} {Ls Ls' : Array Slot} {rest : List Value}
/-- from here the run ends, and P holds of its end -/
def Go (p : Program) (e : Env) (below : List Frame) (P : Outcome → State → Prop) (T0 : State) : Prop := ∃ t o, Steps p.tables e below T0 t ∧ t.status = .running ∧ Ended t below o ∧ P o t
theorem Go.on {T1 T2 : State} (st : ∀ t, Steps p.tables e below T2 t → Steps p.tables e below T1 t) (k : Go p e below P T2) : Go p e below P T1 := by
  obtain ⟨t, o, h1, h2⟩ := k; exact ⟨t, o, st t h1, h2⟩
/-- what a walk knows of the method that it walks -/
def Ctx (p : Program) (s : State) (m : MethodId) (meth : Method) (c : Code) (Z : State) (own nm : String) (bytes : ByteArray) (maxL : Nat) (ret : Option FieldType) : Prop :=
  p.tables.exec = Jvm.exec ∧ c.code = bytes ∧ c.maxLocals = maxL ∧ s.vm.findClass own = some m.cls ∧ meth.name = nm ∧ meth.sig.returnType = ret ∧ meth.locks = false ∧ Z.Warmed39 s.vm
/-- what a body's end says -/
def OEnds (s : State) (Q : Option Value → Heap → List Loc → Prop) (k n : Nat) (o : Outcome) (t : State) : Prop := ∃ v L, o = .returned v ∧ Q v t.heap L ∧ FrameEnd s o t L k n
/-- a contract: called with the arguments 'as' at the heap h0 it returns as Q says -/
abbrev OMeets (l : Launch) (Z : State) (y : MethodName) (bytes : ByteArray) (maxL : Nat) (ret : Option FieldType) (ws : List Jvm.Cond) (rm : Room) (as : Array Value) (h0 : Heap) (Q : Option Value → Heap → List Loc → Prop) : Prop :=
  MetFree l y (head1 (Jvm.Cond.code y bytes maxL ret :: ws) rm) (fun a U => a = as ∧ Z.Warmed39 U.vm ∧ U.heap = h0) (fun _ _ _ _ _ => True) (fun _ U o U' => ∃ v L, o = .returned v ∧ Q v U'.heap L ∧ FrameEnd U o U' L rm.cells rm.slots)
/-- it returns r, writes nothing and makes nothing -/
def PureQ (r : Option Value) (h0 : Heap) (v : Option Value) (h : Heap) (L : List Loc) : Prop := v = r ∧ L = [] ∧ h = h0
theorem OMeets.of {y : MethodName} {ws : List Jvm.Cond} {rm : Room} {as : Array Value} {h0 : Heap} {Q : Option Value → Heap → List Loc → Prop} (hpn : plainFor y = true) (ls : Array Slot) (hent : ∀ m, entryFrame m as maxL = mkF m 0 ls [])
    (body : ∀ p e s m below meth c s₁, Ctx p s m meth c Z y.cls y.name bytes maxL ret → Stand p l e rm s m as below meth c s₁ [] 0 0 → s₁.heap = h0 → Go p e below (OEnds s Q rm.cells rm.slots) (s₁.setTop (mkF m 0 ls []))) : OMeets l Z y bytes maxL ret ws rm as h0 Q := by
  refine MetFree.of_bodySF hpn hisR ?_
  intro p e s m args below meth c s₁ Bd hml0 hP hK
  obtain ⟨rfl, hZ, hh⟩ := hP
  have e0 : s₁.heap = h0 := by rw [← hh, Bd.state]; rfl
  have X0 := Stand.of_body Bd
  have B : Ctx p s m meth c Z y.cls y.name bytes maxL ret := ⟨Bd.exec, Bd.bytes, hml0, findClass_of_methodNamed Bd.named, (name_of_methodNamed Bd.named Bd.method).1, Bd.returns, Bd.notSynchronized, hZ⟩
  obtain ⟨t, o, h1, h2, h3, h4⟩ := body p e s m below meth c s₁ B X0 e0
  exact ⟨t, o, castTop (hent m) h1, h2, h3, h4⟩
/-! the single steps -/

theorem s_iloadN (B : Ctx p s m meth c Z own nm bytes maxL ret) (X : Stand p l e R s m args below meth c T locs cells slots) {k0 : Fin 4} {v : Int32} (hd : decode bytes pc = .ok (.iload_n k0, 1)) (hl : Ls[k0.val]? = some (.val (.int v))) (hp : pc + 1 = pc') (k : Go p e below P (T.setTop (mkF m pc' Ls (.int v :: rest)))) : Go p e below P (T.setTop (mkF m pc Ls (rest))) := by
  subst hp; exact Go.on (fun t => XS.iloadN X.here B.1 rfl (hb B.2.1 hd) hl) k
theorem s_iload (B : Ctx p s m meth c Z own nm bytes maxL ret) (X : Stand p l e R s m args below meth c T locs cells slots) {k0 : Nat} {v : Int32} (hd : decode bytes pc = .ok (.iload k0, 2)) (hl : Ls[k0]? = some (.val (.int v))) (hp : pc + 2 = pc') (k : Go p e below P (T.setTop (mkF m pc' Ls (.int v :: rest)))) : Go p e below P (T.setTop (mkF m pc Ls (rest))) := by
  subst hp; exact Go.on (fun t => XS.iload X.here B.1 rfl (hb B.2.1 hd) hl) k
theorem s_istoreN (B : Ctx p s m meth c Z own nm bytes maxL ret) (X : Stand p l e R s m args below meth c T locs cells slots) {k0 : Fin 4} {v : Int32} (hd : decode bytes pc = .ok (.istore_n k0, 1)) (hl : storeLocals Ls k0.val (.int v) = some Ls') (hp : pc + 1 = pc') (k : Go p e below P (T.setTop (mkF m pc' Ls' (rest)))) : Go p e below P (T.setTop (mkF m pc Ls (.int v :: rest))) := by
  subst hp; exact Go.on (fun t => XS.istoreN X.here B.1 rfl (hb B.2.1 hd) rfl hl) k
theorem s_istore (B : Ctx p s m meth c Z own nm bytes maxL ret) (X : Stand p l e R s m args below meth c T locs cells slots) {k0 : Nat} {v : Int32} (hd : decode bytes pc = .ok (.istore k0, 2)) (hl : storeLocals Ls k0 (.int v) = some Ls') (hp : pc + 2 = pc') (k : Go p e below P (T.setTop (mkF m pc' Ls' (rest)))) : Go p e below P (T.setTop (mkF m pc Ls (.int v :: rest))) := by
  subst hp; exact Go.on (fun t => XS.istore X.here B.1 rfl (hb B.2.1 hd) rfl hl) k
theorem s_lloadN (B : Ctx p s m meth c Z own nm bytes maxL ret) (X : Stand p l e R s m args below meth c T locs cells slots) {k0 : Fin 4} {v : Int64} (hd : decode bytes pc = .ok (.lload_n k0, 1)) (hl : Ls[k0.val]? = some (.val (.long v))) (hp : pc + 1 = pc') (k : Go p e below P (T.setTop (mkF m pc' Ls (.long v :: rest)))) : Go p e below P (T.setTop (mkF m pc Ls (rest))) := by
  subst hp; exact Go.on (fun t => XS.lloadN X.here B.1 rfl (hb B.2.1 hd) hl) k
theorem s_lload (B : Ctx p s m meth c Z own nm bytes maxL ret) (X : Stand p l e R s m args below meth c T locs cells slots) {k0 : Nat} {v : Int64} (hd : decode bytes pc = .ok (.lload k0, 2)) (hl : Ls[k0]? = some (.val (.long v))) (hp : pc + 2 = pc') (k : Go p e below P (T.setTop (mkF m pc' Ls (.long v :: rest)))) : Go p e below P (T.setTop (mkF m pc Ls (rest))) := by
  subst hp; exact Go.on (fun t => XS.lload X.here B.1 rfl (hb B.2.1 hd) hl) k
theorem s_lstoreN (B : Ctx p s m meth c Z own nm bytes maxL ret) (X : Stand p l e R s m args below meth c T locs cells slots) {k0 : Fin 4} {v : Int64} (hd : decode bytes pc = .ok (.lstore_n k0, 1)) (hl : storeLocals Ls k0.val (.long v) = some Ls') (hp : pc + 1 = pc') (k : Go p e below P (T.setTop (mkF m pc' Ls' (rest)))) : Go p e below P (T.setTop (mkF m pc Ls (.long v :: rest))) := by
  subst hp; exact Go.on (fun t => XS.lstoreN X.here B.1 rfl (hb B.2.1 hd) rfl hl) k
theorem s_lstore (B : Ctx p s m meth c Z own nm bytes maxL ret) (X : Stand p l e R s m args below meth c T locs cells slots) {k0 : Nat} {v : Int64} (hd : decode bytes pc = .ok (.lstore k0, 2)) (hl : storeLocals Ls k0 (.long v) = some Ls') (hp : pc + 2 = pc') (k : Go p e below P (T.setTop (mkF m pc' Ls' (rest)))) : Go p e below P (T.setTop (mkF m pc Ls (.long v :: rest))) := by
  subst hp; exact Go.on (fun t => XS.lstore X.here B.1 rfl (hb B.2.1 hd) rfl hl) k
theorem s_aloadN (B : Ctx p s m meth c Z own nm bytes maxL ret) (X : Stand p l e R s m args below meth c T locs cells slots) {k0 : Fin 4} {v : Value} (hd : decode bytes pc = .ok (.aload_n k0, 1)) (hl : Ls[k0.val]? = some (.val v)) (hv : v.isRef = true) (hp : pc + 1 = pc') (k : Go p e below P (T.setTop (mkF m pc' Ls (v :: rest)))) : Go p e below P (T.setTop (mkF m pc Ls (rest))) := by
  subst hp; exact Go.on (fun t => XS.aloadN X.here B.1 rfl (hb B.2.1 hd) hl hv) k
theorem s_aload (B : Ctx p s m meth c Z own nm bytes maxL ret) (X : Stand p l e R s m args below meth c T locs cells slots) {k0 : Nat} {v : Value} (hd : decode bytes pc = .ok (.aload k0, 2)) (hl : Ls[k0]? = some (.val v)) (hv : v.isRef = true) (hp : pc + 2 = pc') (k : Go p e below P (T.setTop (mkF m pc' Ls (v :: rest)))) : Go p e below P (T.setTop (mkF m pc Ls (rest))) := by
  subst hp; exact Go.on (fun t => XS.aload X.here B.1 rfl (hb B.2.1 hd) hl hv) k
theorem s_astoreN (B : Ctx p s m meth c Z own nm bytes maxL ret) (X : Stand p l e R s m args below meth c T locs cells slots) {k0 : Fin 4} {v : Value} (hd : decode bytes pc = .ok (.astore_n k0, 1)) (hv : v.isRef = true) (hl : storeLocals Ls k0.val v = some Ls') (hp : pc + 1 = pc') (k : Go p e below P (T.setTop (mkF m pc' Ls' (rest)))) : Go p e below P (T.setTop (mkF m pc Ls (v :: rest))) := by
  subst hp; exact Go.on (fun t => XS.astoreN X.here B.1 rfl (hb B.2.1 hd) rfl hv hl) k
theorem s_astore (B : Ctx p s m meth c Z own nm bytes maxL ret) (X : Stand p l e R s m args below meth c T locs cells slots) {k0 : Nat} {v : Value} (hd : decode bytes pc = .ok (.astore k0, 2)) (hv : v.isRef = true) (hl : storeLocals Ls k0 v = some Ls') (hp : pc + 2 = pc') (k : Go p e below P (T.setTop (mkF m pc' Ls' (rest)))) : Go p e below P (T.setTop (mkF m pc Ls (v :: rest))) := by
  subst hp; exact Go.on (fun t => XS.astore X.here B.1 rfl (hb B.2.1 hd) rfl hv hl) k
theorem s_iconst (B : Ctx p s m meth c Z own nm bytes maxL ret) (X : Stand p l e R s m args below meth c T locs cells slots) {i : Int} {v : Int32} (hd : decode bytes pc = .ok (.iconst i, 1)) (hv : Int32.ofInt i = v) (hp : pc + 1 = pc') (k : Go p e below P (T.setTop (mkF m pc' Ls (.int v :: rest)))) : Go p e below P (T.setTop (mkF m pc Ls (rest))) := by
  subst hp; subst hv; exact Go.on (fun t => XS.iconst X.here B.1 rfl (hb B.2.1 hd)) k
theorem s_bipush (B : Ctx p s m meth c Z own nm bytes maxL ret) (X : Stand p l e R s m args below meth c T locs cells slots) {i : Int} {v : Int32} (hd : decode bytes pc = .ok (.bipush i, 2)) (hv : (Int8.ofInt i).toInt32 = v) (hp : pc + 2 = pc') (k : Go p e below P (T.setTop (mkF m pc' Ls (.int v :: rest)))) : Go p e below P (T.setTop (mkF m pc Ls (rest))) := by
  subst hp; subst hv; exact Go.on (fun t => XS.bipush X.here B.1 rfl (hb B.2.1 hd)) k
theorem s_sipush (B : Ctx p s m meth c Z own nm bytes maxL ret) (X : Stand p l e R s m args below meth c T locs cells slots) {i : Int} {v : Int32} (hd : decode bytes pc = .ok (.sipush i, 3)) (hv : (Int16.ofInt i).toInt32 = v) (hp : pc + 3 = pc') (k : Go p e below P (T.setTop (mkF m pc' Ls (.int v :: rest)))) : Go p e below P (T.setTop (mkF m pc Ls (rest))) := by
  subst hp; subst hv; exact Go.on (fun t => XS.sipush X.here B.1 rfl (hb B.2.1 hd)) k
theorem s_lconst (B : Ctx p s m meth c Z own nm bytes maxL ret) (X : Stand p l e R s m args below meth c T locs cells slots) {i : Fin 2} {v : Int64} (hd : decode bytes pc = .ok (.lconst i, 1)) (hv : Int64.ofNat i = v) (hp : pc + 1 = pc') (k : Go p e below P (T.setTop (mkF m pc' Ls (.long v :: rest)))) : Go p e below P (T.setTop (mkF m pc Ls (rest))) := by
  subst hp; subst hv; exact Go.on (fun t => XS.lconst X.here B.1 rfl (hb B.2.1 hd)) k
theorem s_aconst_null (B : Ctx p s m meth c Z own nm bytes maxL ret) (X : Stand p l e R s m args below meth c T locs cells slots)  (hd : decode bytes pc = .ok (.aconst_null, 1))  (hp : pc + 1 = pc') (k : Go p e below P (T.setTop (mkF m pc' Ls (.null :: rest)))) : Go p e below P (T.setTop (mkF m pc Ls (rest))) := by
  subst hp; exact Go.on (fun t => XS.aconstNull X.here B.1 rfl (hb B.2.1 hd)) k
theorem s_iadd (B : Ctx p s m meth c Z own nm bytes maxL ret) (X : Stand p l e R s m args below meth c T locs cells slots) {x : Int32} {y : Int32} {v : Int32} (hd : decode bytes pc = .ok (.iadd, 1)) (hv : x + y = v)  (hp : pc + 1 = pc') (k : Go p e below P (T.setTop (mkF m pc' Ls (.int v :: rest)))) : Go p e below P (T.setTop (mkF m pc Ls (.int y :: .int x :: rest))) := by
  subst hp; subst hv; exact Go.on (fun t => XS.iadd X.here B.1 rfl (hb B.2.1 hd) rfl ) k
theorem s_isub (B : Ctx p s m meth c Z own nm bytes maxL ret) (X : Stand p l e R s m args below meth c T locs cells slots) {x : Int32} {y : Int32} {v : Int32} (hd : decode bytes pc = .ok (.isub, 1)) (hv : x - y = v)  (hp : pc + 1 = pc') (k : Go p e below P (T.setTop (mkF m pc' Ls (.int v :: rest)))) : Go p e below P (T.setTop (mkF m pc Ls (.int y :: .int x :: rest))) := by
  subst hp; subst hv; exact Go.on (fun t => XS.isub X.here B.1 rfl (hb B.2.1 hd) rfl ) k
theorem s_imul (B : Ctx p s m meth c Z own nm bytes maxL ret) (X : Stand p l e R s m args below meth c T locs cells slots) {x : Int32} {y : Int32} {v : Int32} (hd : decode bytes pc = .ok (.imul, 1)) (hv : x * y = v)  (hp : pc + 1 = pc') (k : Go p e below P (T.setTop (mkF m pc' Ls (.int v :: rest)))) : Go p e below P (T.setTop (mkF m pc Ls (.int y :: .int x :: rest))) := by
  subst hp; subst hv; exact Go.on (fun t => XS.imul X.here B.1 rfl (hb B.2.1 hd) rfl ) k
theorem s_iand (B : Ctx p s m meth c Z own nm bytes maxL ret) (X : Stand p l e R s m args below meth c T locs cells slots) {x : Int32} {y : Int32} {v : Int32} (hd : decode bytes pc = .ok (.iand, 1)) (hv : x &&& y = v)  (hp : pc + 1 = pc') (k : Go p e below P (T.setTop (mkF m pc' Ls (.int v :: rest)))) : Go p e below P (T.setTop (mkF m pc Ls (.int y :: .int x :: rest))) := by
  subst hp; subst hv; exact Go.on (fun t => XS.iand X.here B.1 rfl (hb B.2.1 hd) rfl ) k
theorem s_ior (B : Ctx p s m meth c Z own nm bytes maxL ret) (X : Stand p l e R s m args below meth c T locs cells slots) {x : Int32} {y : Int32} {v : Int32} (hd : decode bytes pc = .ok (.ior, 1)) (hv : x ||| y = v)  (hp : pc + 1 = pc') (k : Go p e below P (T.setTop (mkF m pc' Ls (.int v :: rest)))) : Go p e below P (T.setTop (mkF m pc Ls (.int y :: .int x :: rest))) := by
  subst hp; subst hv; exact Go.on (fun t => XS.ior X.here B.1 rfl (hb B.2.1 hd) rfl ) k
theorem s_ixor (B : Ctx p s m meth c Z own nm bytes maxL ret) (X : Stand p l e R s m args below meth c T locs cells slots) {x : Int32} {y : Int32} {v : Int32} (hd : decode bytes pc = .ok (.ixor, 1)) (hv : x ^^^ y = v)  (hp : pc + 1 = pc') (k : Go p e below P (T.setTop (mkF m pc' Ls (.int v :: rest)))) : Go p e below P (T.setTop (mkF m pc Ls (.int y :: .int x :: rest))) := by
  subst hp; subst hv; exact Go.on (fun t => XS.ixor X.here B.1 rfl (hb B.2.1 hd) rfl ) k
theorem s_ladd (B : Ctx p s m meth c Z own nm bytes maxL ret) (X : Stand p l e R s m args below meth c T locs cells slots) {x : Int64} {y : Int64} {v : Int64} (hd : decode bytes pc = .ok (.ladd, 1)) (hv : x + y = v)  (hp : pc + 1 = pc') (k : Go p e below P (T.setTop (mkF m pc' Ls (.long v :: rest)))) : Go p e below P (T.setTop (mkF m pc Ls (.long y :: .long x :: rest))) := by
  subst hp; subst hv; exact Go.on (fun t => XS.ladd X.here B.1 rfl (hb B.2.1 hd) rfl ) k
theorem s_lsub (B : Ctx p s m meth c Z own nm bytes maxL ret) (X : Stand p l e R s m args below meth c T locs cells slots) {x : Int64} {y : Int64} {v : Int64} (hd : decode bytes pc = .ok (.lsub, 1)) (hv : x - y = v)  (hp : pc + 1 = pc') (k : Go p e below P (T.setTop (mkF m pc' Ls (.long v :: rest)))) : Go p e below P (T.setTop (mkF m pc Ls (.long y :: .long x :: rest))) := by
  subst hp; subst hv; exact Go.on (fun t => XS.lsub X.here B.1 rfl (hb B.2.1 hd) rfl ) k
theorem s_lmul (B : Ctx p s m meth c Z own nm bytes maxL ret) (X : Stand p l e R s m args below meth c T locs cells slots) {x : Int64} {y : Int64} {v : Int64} (hd : decode bytes pc = .ok (.lmul, 1)) (hv : x * y = v)  (hp : pc + 1 = pc') (k : Go p e below P (T.setTop (mkF m pc' Ls (.long v :: rest)))) : Go p e below P (T.setTop (mkF m pc Ls (.long y :: .long x :: rest))) := by
  subst hp; subst hv; exact Go.on (fun t => XS.lmul X.here B.1 rfl (hb B.2.1 hd) rfl ) k
theorem s_land (B : Ctx p s m meth c Z own nm bytes maxL ret) (X : Stand p l e R s m args below meth c T locs cells slots) {x : Int64} {y : Int64} {v : Int64} (hd : decode bytes pc = .ok (.land, 1)) (hv : x &&& y = v)  (hp : pc + 1 = pc') (k : Go p e below P (T.setTop (mkF m pc' Ls (.long v :: rest)))) : Go p e below P (T.setTop (mkF m pc Ls (.long y :: .long x :: rest))) := by
  subst hp; subst hv; exact Go.on (fun t => XS.land X.here B.1 rfl (hb B.2.1 hd) rfl ) k
theorem s_lor (B : Ctx p s m meth c Z own nm bytes maxL ret) (X : Stand p l e R s m args below meth c T locs cells slots) {x : Int64} {y : Int64} {v : Int64} (hd : decode bytes pc = .ok (.lor, 1)) (hv : x ||| y = v)  (hp : pc + 1 = pc') (k : Go p e below P (T.setTop (mkF m pc' Ls (.long v :: rest)))) : Go p e below P (T.setTop (mkF m pc Ls (.long y :: .long x :: rest))) := by
  subst hp; subst hv; exact Go.on (fun t => XS.lor X.here B.1 rfl (hb B.2.1 hd) rfl ) k
theorem s_lxor (B : Ctx p s m meth c Z own nm bytes maxL ret) (X : Stand p l e R s m args below meth c T locs cells slots) {x : Int64} {y : Int64} {v : Int64} (hd : decode bytes pc = .ok (.lxor, 1)) (hv : x ^^^ y = v)  (hp : pc + 1 = pc') (k : Go p e below P (T.setTop (mkF m pc' Ls (.long v :: rest)))) : Go p e below P (T.setTop (mkF m pc Ls (.long y :: .long x :: rest))) := by
  subst hp; subst hv; exact Go.on (fun t => XS.lxor X.here B.1 rfl (hb B.2.1 hd) rfl ) k
theorem s_idiv (B : Ctx p s m meth c Z own nm bytes maxL ret) (X : Stand p l e R s m args below meth c T locs cells slots) {x : Int32} {y : Int32} {v : Int32} (hd : decode bytes pc = .ok (.idiv, 1)) (hv : x / y = v) (hy : y ≠ 0) (hp : pc + 1 = pc') (k : Go p e below P (T.setTop (mkF m pc' Ls (.int v :: rest)))) : Go p e below P (T.setTop (mkF m pc Ls (.int y :: .int x :: rest))) := by
  subst hp; subst hv; exact Go.on (fun t => XS.idiv X.here B.1 rfl (hb B.2.1 hd) rfl hy) k
theorem s_ldiv (B : Ctx p s m meth c Z own nm bytes maxL ret) (X : Stand p l e R s m args below meth c T locs cells slots) {x : Int64} {y : Int64} {v : Int64} (hd : decode bytes pc = .ok (.ldiv, 1)) (hv : x / y = v) (hy : y ≠ 0) (hp : pc + 1 = pc') (k : Go p e below P (T.setTop (mkF m pc' Ls (.long v :: rest)))) : Go p e below P (T.setTop (mkF m pc Ls (.long y :: .long x :: rest))) := by
  subst hp; subst hv; exact Go.on (fun t => XS.ldiv X.here B.1 rfl (hb B.2.1 hd) rfl hy) k
theorem s_irem (B : Ctx p s m meth c Z own nm bytes maxL ret) (X : Stand p l e R s m args below meth c T locs cells slots) {x y v : Int32} (hd : decode bytes pc = .ok (.irem, 1)) (hv : x % y = v) (hy : y ≠ 0) (hp : pc + 1 = pc') (k : Go p e below P (T.setTop (mkF m pc' Ls (.int v :: rest)))) : Go p e below P (T.setTop (mkF m pc Ls (.int y :: .int x :: rest))) := by
  subst hp; subst hv; exact Go.on (fun t => iremM X B.1 rfl (hb B.2.1 hd) rfl hy) k
theorem s_ishl (B : Ctx p s m meth c Z own nm bytes maxL ret) (X : Stand p l e R s m args below meth c T locs cells slots) {x : Int32} {y : Int32} {v : Int32} (hd : decode bytes pc = .ok (.ishl, 1)) (hv : x <<< (y &&& 31) = v)  (hp : pc + 1 = pc') (k : Go p e below P (T.setTop (mkF m pc' Ls (.int v :: rest)))) : Go p e below P (T.setTop (mkF m pc Ls (.int y :: .int x :: rest))) := by
  subst hp; subst hv; exact Go.on (fun t => XS.ishl X.here B.1 rfl (hb B.2.1 hd) rfl ) k
theorem s_ishr (B : Ctx p s m meth c Z own nm bytes maxL ret) (X : Stand p l e R s m args below meth c T locs cells slots) {x : Int32} {y : Int32} {v : Int32} (hd : decode bytes pc = .ok (.ishr, 1)) (hv : x >>> (y &&& 31) = v)  (hp : pc + 1 = pc') (k : Go p e below P (T.setTop (mkF m pc' Ls (.int v :: rest)))) : Go p e below P (T.setTop (mkF m pc Ls (.int y :: .int x :: rest))) := by
  subst hp; subst hv; exact Go.on (fun t => XS.ishr X.here B.1 rfl (hb B.2.1 hd) rfl ) k
theorem s_iushr (B : Ctx p s m meth c Z own nm bytes maxL ret) (X : Stand p l e R s m args below meth c T locs cells slots) {x : Int32} {y : Int32} {v : Int32} (hd : decode bytes pc = .ok (.iushr, 1)) (hv : (x.toUInt32 >>> (y &&& 31).toUInt32).toInt32 = v)  (hp : pc + 1 = pc') (k : Go p e below P (T.setTop (mkF m pc' Ls (.int v :: rest)))) : Go p e below P (T.setTop (mkF m pc Ls (.int y :: .int x :: rest))) := by
  subst hp; subst hv; exact Go.on (fun t => XS.iushr X.here B.1 rfl (hb B.2.1 hd) rfl ) k
theorem s_lshl (B : Ctx p s m meth c Z own nm bytes maxL ret) (X : Stand p l e R s m args below meth c T locs cells slots) {x : Int64} {y : Int32} {v : Int64} (hd : decode bytes pc = .ok (.lshl, 1)) (hv : x <<< (y &&& 0x3f).toInt64 = v)  (hp : pc + 1 = pc') (k : Go p e below P (T.setTop (mkF m pc' Ls (.long v :: rest)))) : Go p e below P (T.setTop (mkF m pc Ls (.int y :: .long x :: rest))) := by
  subst hp; subst hv; exact Go.on (fun t => XS.lshl X.here B.1 rfl (hb B.2.1 hd) rfl ) k
theorem s_lshr (B : Ctx p s m meth c Z own nm bytes maxL ret) (X : Stand p l e R s m args below meth c T locs cells slots) {x : Int64} {y : Int32} {v : Int64} (hd : decode bytes pc = .ok (.lshr, 1)) (hv : x >>> (y &&& 0x3f).toInt64 = v)  (hp : pc + 1 = pc') (k : Go p e below P (T.setTop (mkF m pc' Ls (.long v :: rest)))) : Go p e below P (T.setTop (mkF m pc Ls (.int y :: .long x :: rest))) := by
  subst hp; subst hv; exact Go.on (fun t => XS.lshr X.here B.1 rfl (hb B.2.1 hd) rfl ) k
theorem s_lushr (B : Ctx p s m meth c Z own nm bytes maxL ret) (X : Stand p l e R s m args below meth c T locs cells slots) {x : Int64} {y : Int32} {v : Int64} (hd : decode bytes pc = .ok (.lushr, 1)) (hv : (x.toUInt64 >>> (y &&& 0x3f).toInt64.toUInt64).toInt64 = v)  (hp : pc + 1 = pc') (k : Go p e below P (T.setTop (mkF m pc' Ls (.long v :: rest)))) : Go p e below P (T.setTop (mkF m pc Ls (.int y :: .long x :: rest))) := by
  subst hp; subst hv; exact Go.on (fun t => XS.lushr X.here B.1 rfl (hb B.2.1 hd) rfl ) k
theorem s_i2b (B : Ctx p s m meth c Z own nm bytes maxL ret) (X : Stand p l e R s m args below meth c T locs cells slots) {x : Int32} {v : Int32} (hd : decode bytes pc = .ok (.i2b, 1)) (hv : x.toInt8.toInt32 = v) (hp : pc + 1 = pc') (k : Go p e below P (T.setTop (mkF m pc' Ls (.int v :: rest)))) : Go p e below P (T.setTop (mkF m pc Ls (.int x :: rest))) := by
  subst hp; subst hv; exact Go.on (fun t => XS.i2b X.here B.1 rfl (hb B.2.1 hd) rfl) k
theorem s_i2c (B : Ctx p s m meth c Z own nm bytes maxL ret) (X : Stand p l e R s m args below meth c T locs cells slots) {x : Int32} {v : Int32} (hd : decode bytes pc = .ok (.i2c, 1)) (hv : x.toUInt32.toUInt16.toUInt32.toInt32 = v) (hp : pc + 1 = pc') (k : Go p e below P (T.setTop (mkF m pc' Ls (.int v :: rest)))) : Go p e below P (T.setTop (mkF m pc Ls (.int x :: rest))) := by
  subst hp; subst hv; exact Go.on (fun t => XS.i2c X.here B.1 rfl (hb B.2.1 hd) rfl) k
theorem s_i2s (B : Ctx p s m meth c Z own nm bytes maxL ret) (X : Stand p l e R s m args below meth c T locs cells slots) {x : Int32} {v : Int32} (hd : decode bytes pc = .ok (.i2s, 1)) (hv : x.toInt16.toInt32 = v) (hp : pc + 1 = pc') (k : Go p e below P (T.setTop (mkF m pc' Ls (.int v :: rest)))) : Go p e below P (T.setTop (mkF m pc Ls (.int x :: rest))) := by
  subst hp; subst hv; exact Go.on (fun t => XS.i2s X.here B.1 rfl (hb B.2.1 hd) rfl) k
theorem s_i2l (B : Ctx p s m meth c Z own nm bytes maxL ret) (X : Stand p l e R s m args below meth c T locs cells slots) {x : Int32} {v : Int64} (hd : decode bytes pc = .ok (.i2l, 1)) (hv : x.toInt64 = v) (hp : pc + 1 = pc') (k : Go p e below P (T.setTop (mkF m pc' Ls (.long v :: rest)))) : Go p e below P (T.setTop (mkF m pc Ls (.int x :: rest))) := by
  subst hp; subst hv; exact Go.on (fun t => XS.i2l X.here B.1 rfl (hb B.2.1 hd) rfl) k
theorem s_l2i (B : Ctx p s m meth c Z own nm bytes maxL ret) (X : Stand p l e R s m args below meth c T locs cells slots) {x : Int64} {v : Int32} (hd : decode bytes pc = .ok (.l2i, 1)) (hv : x.toInt32 = v) (hp : pc + 1 = pc') (k : Go p e below P (T.setTop (mkF m pc' Ls (.int v :: rest)))) : Go p e below P (T.setTop (mkF m pc Ls (.long x :: rest))) := by
  subst hp; subst hv; exact Go.on (fun t => XS.l2i X.here B.1 rfl (hb B.2.1 hd) rfl) k
theorem s_ineg (B : Ctx p s m meth c Z own nm bytes maxL ret) (X : Stand p l e R s m args below meth c T locs cells slots) {x : Int32} {v : Int32} (hd : decode bytes pc = .ok (.ineg, 1)) (hv : -x = v) (hp : pc + 1 = pc') (k : Go p e below P (T.setTop (mkF m pc' Ls (.int v :: rest)))) : Go p e below P (T.setTop (mkF m pc Ls (.int x :: rest))) := by
  subst hp; subst hv; exact Go.on (fun t => XS.ineg X.here B.1 rfl (hb B.2.1 hd) rfl) k
theorem s_lneg (B : Ctx p s m meth c Z own nm bytes maxL ret) (X : Stand p l e R s m args below meth c T locs cells slots) {x : Int64} {v : Int64} (hd : decode bytes pc = .ok (.lneg, 1)) (hv : -x = v) (hp : pc + 1 = pc') (k : Go p e below P (T.setTop (mkF m pc' Ls (.long v :: rest)))) : Go p e below P (T.setTop (mkF m pc Ls (.long x :: rest))) := by
  subst hp; subst hv; exact Go.on (fun t => XS.lneg X.here B.1 rfl (hb B.2.1 hd) rfl) k
theorem s_lcmp (B : Ctx p s m meth c Z own nm bytes maxL ret) (X : Stand p l e R s m args below meth c T locs cells slots) {x y : Int64} (hd : decode bytes pc = .ok (.lcmp, 1))  (hp : pc + 1 = pc') (k : Go p e below P (T.setTop (mkF m pc' Ls (.int (lcmpW x y) :: rest)))) : Go p e below P (T.setTop (mkF m pc Ls (.long y :: .long x :: rest))) := by
  subst hp; exact Go.on (fun t => XS.lcmp X.here B.1 rfl (hb B.2.1 hd) rfl) k
theorem s_dup (B : Ctx p s m meth c Z own nm bytes maxL ret) (X : Stand p l e R s m args below meth c T locs cells slots) {v : Value} (hd : decode bytes pc = .ok (.dup, 1)) (hc : v.category = 1) (hp : pc + 1 = pc') (k : Go p e below P (T.setTop (mkF m pc' Ls (v :: v :: rest)))) : Go p e below P (T.setTop (mkF m pc Ls (v :: rest))) := by
  subst hp; exact Go.on (fun t => XS.dup X.here B.1 rfl (hb B.2.1 hd) rfl hc) k
theorem s_pop (B : Ctx p s m meth c Z own nm bytes maxL ret) (X : Stand p l e R s m args below meth c T locs cells slots) {v : Value} (hd : decode bytes pc = .ok (.pop, 1)) (hc : v.category = 1) (hp : pc + 1 = pc') (k : Go p e below P (T.setTop (mkF m pc' Ls (rest)))) : Go p e below P (T.setTop (mkF m pc Ls (v :: rest))) := by
  subst hp; exact Go.on (fun t => XS.pop X.here B.1 rfl (hb B.2.1 hd) rfl hc) k
theorem s_swap (B : Ctx p s m meth c Z own nm bytes maxL ret) (X : Stand p l e R s m args below meth c T locs cells slots) {v w : Value} (hd : decode bytes pc = .ok (.swap, 1)) (hc : v.category = 1) (hc2 : w.category = 1) (hp : pc + 1 = pc') (k : Go p e below P (T.setTop (mkF m pc' Ls (w :: v :: rest)))) : Go p e below P (T.setTop (mkF m pc Ls (v :: w :: rest))) := by
  subst hp; exact Go.on (fun t => XS.swap X.here B.1 rfl (hb B.2.1 hd) rfl hc hc2) k
theorem s_dup_x1 (B : Ctx p s m meth c Z own nm bytes maxL ret) (X : Stand p l e R s m args below meth c T locs cells slots) {v w : Value} (hd : decode bytes pc = .ok (.dup_x1, 1)) (hc : v.category = 1) (hc2 : w.category = 1) (hp : pc + 1 = pc') (k : Go p e below P (T.setTop (mkF m pc' Ls (v :: w :: v :: rest)))) : Go p e below P (T.setTop (mkF m pc Ls (v :: w :: rest))) := by
  subst hp; exact Go.on (fun t => XS.dupX1 X.here B.1 rfl (hb B.2.1 hd) rfl hc hc2) k
theorem s_dup2 (B : Ctx p s m meth c Z own nm bytes maxL ret) (X : Stand p l e R s m args below meth c T locs cells slots) {v w : Value} (hd : decode bytes pc = .ok (.dup2, 1)) (hc : v.category = 1) (hc2 : w.category = 1) (hp : pc + 1 = pc') (k : Go p e below P (T.setTop (mkF m pc' Ls (v :: w :: v :: w :: rest)))) : Go p e below P (T.setTop (mkF m pc Ls (v :: w :: rest))) := by
  subst hp; exact Go.on (fun t => XT.dup2 X.here B.1 rfl (hb B.2.1 hd) rfl hc hc2) k
theorem s_iinc (B : Ctx p s m meth c Z own nm bytes maxL ret) (X : Stand p l e R s m args below meth c T locs cells slots) {k0 : Nat} {i : Int} {x v : Int32} (hd : decode bytes pc = .ok (.iinc k0 i, 3)) (hl : Ls[k0]? = some (.val (.int x))) (hv : x + Int32.ofInt i = v) (hl' : storeLocals Ls k0 (.int v) = some Ls') (hp : pc + 3 = pc') (k : Go p e below P (T.setTop (mkF m pc' Ls' (rest)))) : Go p e below P (T.setTop (mkF m pc Ls (rest))) := by
  subst hp; subst hv; exact Go.on (fun t => XS.iinc X.here B.1 rfl (hb B.2.1 hd) hl hl') k
theorem s_goto (B : Ctx p s m meth c Z own nm bytes maxL ret) (X : Stand p l e R s m args below meth c T locs cells slots)  {o : Int} (hd : decode bytes pc = .ok (.goto o, 3))  (ho : 0 ≤ (pc : Int) + o) (hp : ((pc : Int) + o).toNat = pc') (k : Go p e below P (T.setTop (mkF m pc' Ls (rest)))) : Go p e below P (T.setTop (mkF m pc Ls (rest))) := Go.on (fun t => XS.goto X.here B.1 rfl rfl (hb B.2.1 hd) ho hp) k
theorem s_ifY (B : Ctx p s m meth c Z own nm bytes maxL ret) (X : Stand p l e R s m args below meth c T locs cells slots) {cd : ClassFile.Cond} {x : Int32} {o : Int} (hd : decode bytes pc = .ok (.ifCond cd o, 3)) (hc : ifCond.holds cd x = true) (ho : 0 ≤ (pc : Int) + o) (hp : ((pc : Int) + o).toNat = pc') (k : Go p e below P (T.setTop (mkF m pc' Ls (rest)))) : Go p e below P (T.setTop (mkF m pc Ls (.int x :: rest))) := Go.on (fun t => XS.ifYes X.here B.1 rfl rfl (hb B.2.1 hd) rfl hc ho hp) k
theorem s_ifN (B : Ctx p s m meth c Z own nm bytes maxL ret) (X : Stand p l e R s m args below meth c T locs cells slots) {cd : ClassFile.Cond} {x : Int32} {o : Int} (hd : decode bytes pc = .ok (.ifCond cd o, 3)) (hc : ifCond.holds cd x = false) (hp : pc + 3 = pc') (k : Go p e below P (T.setTop (mkF m pc' Ls (rest)))) : Go p e below P (T.setTop (mkF m pc Ls (.int x :: rest))) := by
  subst hp; exact Go.on (fun t => XS.ifNo X.here B.1 rfl (hb B.2.1 hd) rfl hc) k
theorem s_icmpY (B : Ctx p s m meth c Z own nm bytes maxL ret) (X : Stand p l e R s m args below meth c T locs cells slots) {cd : ClassFile.Cond} {x y : Int32} {o : Int} (hd : decode bytes pc = .ok (.if_icmp cd o, 3)) (hc : if_icmp.holds cd x y = true) (ho : 0 ≤ (pc : Int) + o) (hp : ((pc : Int) + o).toNat = pc') (k : Go p e below P (T.setTop (mkF m pc' Ls (rest)))) : Go p e below P (T.setTop (mkF m pc Ls (.int y :: .int x :: rest))) := Go.on (fun t => XS.icmpYes X.here B.1 rfl rfl (hb B.2.1 hd) rfl hc ho hp) k
theorem s_icmpN (B : Ctx p s m meth c Z own nm bytes maxL ret) (X : Stand p l e R s m args below meth c T locs cells slots) {cd : ClassFile.Cond} {x y : Int32} {o : Int} (hd : decode bytes pc = .ok (.if_icmp cd o, 3)) (hc : if_icmp.holds cd x y = false) (hp : pc + 3 = pc') (k : Go p e below P (T.setTop (mkF m pc' Ls (rest)))) : Go p e below P (T.setTop (mkF m pc Ls (.int y :: .int x :: rest))) := by
  subst hp; exact Go.on (fun t => XS.icmpNo X.here B.1 rfl (hb B.2.1 hd) rfl hc) k
theorem s_ifnullY (B : Ctx p s m meth c Z own nm bytes maxL ret) (X : Stand p l e R s m args below meth c T locs cells slots)  {o : Int} (hd : decode bytes pc = .ok (.ifnull o, 3))  (ho : 0 ≤ (pc : Int) + o) (hp : ((pc : Int) + o).toNat = pc') (k : Go p e below P (T.setTop (mkF m pc' Ls (rest)))) : Go p e below P (T.setTop (mkF m pc Ls (.null :: rest))) := Go.on (fun t => XS.ifnullYes X.here B.1 rfl rfl (hb B.2.1 hd) rfl ho hp) k
theorem s_ifnullN (B : Ctx p s m meth c Z own nm bytes maxL ret) (X : Stand p l e R s m args below meth c T locs cells slots) {b : Addr} {o : Int} (hd : decode bytes pc = .ok (.ifnull o, 3))  (hp : pc + 3 = pc') (k : Go p e below P (T.setTop (mkF m pc' Ls (rest)))) : Go p e below P (T.setTop (mkF m pc Ls (.ref b :: rest))) := by
  subst hp; exact Go.on (fun t => XS.ifnullNo X.here B.1 rfl (hb B.2.1 hd) rfl) k
theorem s_ifnonnullY (B : Ctx p s m meth c Z own nm bytes maxL ret) (X : Stand p l e R s m args below meth c T locs cells slots) {b : Addr} {o : Int} (hd : decode bytes pc = .ok (.ifnonnull o, 3))  (ho : 0 ≤ (pc : Int) + o) (hp : ((pc : Int) + o).toNat = pc') (k : Go p e below P (T.setTop (mkF m pc' Ls (rest)))) : Go p e below P (T.setTop (mkF m pc Ls (.ref b :: rest))) := Go.on (fun t => XS.ifnonnullYes X.here B.1 rfl rfl (hb B.2.1 hd) rfl ho hp) k
theorem s_ifnonnullN (B : Ctx p s m meth c Z own nm bytes maxL ret) (X : Stand p l e R s m args below meth c T locs cells slots)  {o : Int} (hd : decode bytes pc = .ok (.ifnonnull o, 3))  (hp : pc + 3 = pc') (k : Go p e below P (T.setTop (mkF m pc' Ls (rest)))) : Go p e below P (T.setTop (mkF m pc Ls (.null :: rest))) := by
  subst hp; exact Go.on (fun t => XS.ifnonnullNo X.here B.1 rfl (hb B.2.1 hd) rfl) k
theorem b_icmp_eq (B : Ctx p s m meth c Z own nm bytes maxL ret) (X : Stand p l e R s m args below meth c T locs cells slots) {x y : Int32} {o : Int} {py pn : Nat} (hd : decode bytes pc = .ok (.if_icmp .eq o, 3)) (ho : 0 ≤ (pc : Int) + o) (hy : ((pc : Int) + o).toNat = py) (hn : pc + 3 = pn) (k1 : x = y → Go p e below P (T.setTop (mkF m py Ls (rest)))) (k2 : ¬ x = y → Go p e below P (T.setTop (mkF m pn Ls (rest)))) : Go p e below P (T.setTop (mkF m pc Ls (.int y :: .int x :: rest))) := by
  by_cases q : x = y
  · exact s_icmpY B X hd (teq q).1 ho hy (k1 q)
  · exact s_icmpN B X hd (feq q).1 hn (k2 q)
theorem b_if_eq (B : Ctx p s m meth c Z own nm bytes maxL ret) (X : Stand p l e R s m args below meth c T locs cells slots) {x : Int32} {o : Int} {py pn : Nat} (hd : decode bytes pc = .ok (.ifCond .eq o, 3)) (ho : 0 ≤ (pc : Int) + o) (hy : ((pc : Int) + o).toNat = py) (hn : pc + 3 = pn) (k1 : x = 0 → Go p e below P (T.setTop (mkF m py Ls (rest)))) (k2 : ¬ x = 0 → Go p e below P (T.setTop (mkF m pn Ls (rest)))) : Go p e below P (T.setTop (mkF m pc Ls (.int x :: rest))) := by
  by_cases q : x = 0
  · exact s_ifY B X hd ((if0 _ _).trans (teq q).1) ho hy (k1 q)
  · exact s_ifN B X hd ((if0 _ _).trans (feq q).1) hn (k2 q)
theorem b_icmp_ne (B : Ctx p s m meth c Z own nm bytes maxL ret) (X : Stand p l e R s m args below meth c T locs cells slots) {x y : Int32} {o : Int} {py pn : Nat} (hd : decode bytes pc = .ok (.if_icmp .ne o, 3)) (ho : 0 ≤ (pc : Int) + o) (hy : ((pc : Int) + o).toNat = py) (hn : pc + 3 = pn) (k1 : ¬ x = y → Go p e below P (T.setTop (mkF m py Ls (rest)))) (k2 : x = y → Go p e below P (T.setTop (mkF m pn Ls (rest)))) : Go p e below P (T.setTop (mkF m pc Ls (.int y :: .int x :: rest))) := by
  by_cases q : x = y
  · exact s_icmpN B X hd (teq q).2 hn (k2 q)
  · exact s_icmpY B X hd (feq q).2 ho hy (k1 q)
theorem b_if_ne (B : Ctx p s m meth c Z own nm bytes maxL ret) (X : Stand p l e R s m args below meth c T locs cells slots) {x : Int32} {o : Int} {py pn : Nat} (hd : decode bytes pc = .ok (.ifCond .ne o, 3)) (ho : 0 ≤ (pc : Int) + o) (hy : ((pc : Int) + o).toNat = py) (hn : pc + 3 = pn) (k1 : ¬ x = 0 → Go p e below P (T.setTop (mkF m py Ls (rest)))) (k2 : x = 0 → Go p e below P (T.setTop (mkF m pn Ls (rest)))) : Go p e below P (T.setTop (mkF m pc Ls (.int x :: rest))) := by
  by_cases q : x = 0
  · exact s_ifN B X hd ((if0 _ _).trans (teq q).2) hn (k2 q)
  · exact s_ifY B X hd ((if0 _ _).trans (feq q).2) ho hy (k1 q)
theorem b_icmp_lt (B : Ctx p s m meth c Z own nm bytes maxL ret) (X : Stand p l e R s m args below meth c T locs cells slots) {x y : Int32} {o : Int} {py pn : Nat} (hd : decode bytes pc = .ok (.if_icmp .lt o, 3)) (ho : 0 ≤ (pc : Int) + o) (hy : ((pc : Int) + o).toNat = py) (hn : pc + 3 = pn) (k1 : x < y → Go p e below P (T.setTop (mkF m py Ls (rest)))) (k2 : ¬ x < y → Go p e below P (T.setTop (mkF m pn Ls (rest)))) : Go p e below P (T.setTop (mkF m pc Ls (.int y :: .int x :: rest))) := by
  by_cases q : x < y
  · exact s_icmpY B X hd (tlt q).1 ho hy (k1 q)
  · exact s_icmpN B X hd (flt q).1 hn (k2 q)
theorem b_if_lt (B : Ctx p s m meth c Z own nm bytes maxL ret) (X : Stand p l e R s m args below meth c T locs cells slots) {x : Int32} {o : Int} {py pn : Nat} (hd : decode bytes pc = .ok (.ifCond .lt o, 3)) (ho : 0 ≤ (pc : Int) + o) (hy : ((pc : Int) + o).toNat = py) (hn : pc + 3 = pn) (k1 : x < 0 → Go p e below P (T.setTop (mkF m py Ls (rest)))) (k2 : ¬ x < 0 → Go p e below P (T.setTop (mkF m pn Ls (rest)))) : Go p e below P (T.setTop (mkF m pc Ls (.int x :: rest))) := by
  by_cases q : x < 0
  · exact s_ifY B X hd ((if0 _ _).trans (tlt q).1) ho hy (k1 q)
  · exact s_ifN B X hd ((if0 _ _).trans (flt q).1) hn (k2 q)
theorem b_icmp_ge (B : Ctx p s m meth c Z own nm bytes maxL ret) (X : Stand p l e R s m args below meth c T locs cells slots) {x y : Int32} {o : Int} {py pn : Nat} (hd : decode bytes pc = .ok (.if_icmp .ge o, 3)) (ho : 0 ≤ (pc : Int) + o) (hy : ((pc : Int) + o).toNat = py) (hn : pc + 3 = pn) (k1 : ¬ x < y → Go p e below P (T.setTop (mkF m py Ls (rest)))) (k2 : x < y → Go p e below P (T.setTop (mkF m pn Ls (rest)))) : Go p e below P (T.setTop (mkF m pc Ls (.int y :: .int x :: rest))) := by
  by_cases q : x < y
  · exact s_icmpN B X hd (tlt q).2.1 hn (k2 q)
  · exact s_icmpY B X hd (flt q).2.1 ho hy (k1 q)
theorem b_if_ge (B : Ctx p s m meth c Z own nm bytes maxL ret) (X : Stand p l e R s m args below meth c T locs cells slots) {x : Int32} {o : Int} {py pn : Nat} (hd : decode bytes pc = .ok (.ifCond .ge o, 3)) (ho : 0 ≤ (pc : Int) + o) (hy : ((pc : Int) + o).toNat = py) (hn : pc + 3 = pn) (k1 : ¬ x < 0 → Go p e below P (T.setTop (mkF m py Ls (rest)))) (k2 : x < 0 → Go p e below P (T.setTop (mkF m pn Ls (rest)))) : Go p e below P (T.setTop (mkF m pc Ls (.int x :: rest))) := by
  by_cases q : x < 0
  · exact s_ifN B X hd ((if0 _ _).trans (tlt q).2.1) hn (k2 q)
  · exact s_ifY B X hd ((if0 _ _).trans (flt q).2.1) ho hy (k1 q)
theorem b_icmp_gt (B : Ctx p s m meth c Z own nm bytes maxL ret) (X : Stand p l e R s m args below meth c T locs cells slots) {x y : Int32} {o : Int} {py pn : Nat} (hd : decode bytes pc = .ok (.if_icmp .gt o, 3)) (ho : 0 ≤ (pc : Int) + o) (hy : ((pc : Int) + o).toNat = py) (hn : pc + 3 = pn) (k1 : y < x → Go p e below P (T.setTop (mkF m py Ls (rest)))) (k2 : ¬ y < x → Go p e below P (T.setTop (mkF m pn Ls (rest)))) : Go p e below P (T.setTop (mkF m pc Ls (.int y :: .int x :: rest))) := by
  by_cases q : y < x
  · exact s_icmpY B X hd (tlt q).2.2.1 ho hy (k1 q)
  · exact s_icmpN B X hd (flt q).2.2.1 hn (k2 q)
theorem b_if_gt (B : Ctx p s m meth c Z own nm bytes maxL ret) (X : Stand p l e R s m args below meth c T locs cells slots) {x : Int32} {o : Int} {py pn : Nat} (hd : decode bytes pc = .ok (.ifCond .gt o, 3)) (ho : 0 ≤ (pc : Int) + o) (hy : ((pc : Int) + o).toNat = py) (hn : pc + 3 = pn) (k1 : 0 < x → Go p e below P (T.setTop (mkF m py Ls (rest)))) (k2 : ¬ 0 < x → Go p e below P (T.setTop (mkF m pn Ls (rest)))) : Go p e below P (T.setTop (mkF m pc Ls (.int x :: rest))) := by
  by_cases q : 0 < x
  · exact s_ifY B X hd ((if0 _ _).trans (tlt q).2.2.1) ho hy (k1 q)
  · exact s_ifN B X hd ((if0 _ _).trans (flt q).2.2.1) hn (k2 q)
theorem b_icmp_le (B : Ctx p s m meth c Z own nm bytes maxL ret) (X : Stand p l e R s m args below meth c T locs cells slots) {x y : Int32} {o : Int} {py pn : Nat} (hd : decode bytes pc = .ok (.if_icmp .le o, 3)) (ho : 0 ≤ (pc : Int) + o) (hy : ((pc : Int) + o).toNat = py) (hn : pc + 3 = pn) (k1 : ¬ y < x → Go p e below P (T.setTop (mkF m py Ls (rest)))) (k2 : y < x → Go p e below P (T.setTop (mkF m pn Ls (rest)))) : Go p e below P (T.setTop (mkF m pc Ls (.int y :: .int x :: rest))) := by
  by_cases q : y < x
  · exact s_icmpN B X hd (tlt q).2.2.2 hn (k2 q)
  · exact s_icmpY B X hd (flt q).2.2.2 ho hy (k1 q)
theorem b_if_le (B : Ctx p s m meth c Z own nm bytes maxL ret) (X : Stand p l e R s m args below meth c T locs cells slots) {x : Int32} {o : Int} {py pn : Nat} (hd : decode bytes pc = .ok (.ifCond .le o, 3)) (ho : 0 ≤ (pc : Int) + o) (hy : ((pc : Int) + o).toNat = py) (hn : pc + 3 = pn) (k1 : ¬ 0 < x → Go p e below P (T.setTop (mkF m py Ls (rest)))) (k2 : 0 < x → Go p e below P (T.setTop (mkF m pn Ls (rest)))) : Go p e below P (T.setTop (mkF m pc Ls (.int x :: rest))) := by
  by_cases q : 0 < x
  · exact s_ifN B X hd ((if0 _ _).trans (tlt q).2.2.2) hn (k2 q)
  · exact s_ifY B X hd ((if0 _ _).trans (flt q).2.2.2) ho hy (k1 q)
theorem b_lcmp_eq (B : Ctx p s m meth c Z own nm bytes maxL ret) (X : Stand p l e R s m args below meth c T locs cells slots) {x y : Int64} {pc0 : Nat} {o : Int} {py pn : Nat} (hd0 : decode bytes pc0 = .ok (.lcmp, 1)) (hp0 : pc0 + 1 = pc) (hd : decode bytes pc = .ok (.ifCond .eq o, 3)) (ho : 0 ≤ (pc : Int) + o) (hy : ((pc : Int) + o).toNat = py) (hn : pc + 3 = pn) (k1 : x = y → Go p e below P (T.setTop (mkF m py Ls (rest)))) (k2 : ¬ x = y → Go p e below P (T.setTop (mkF m pn Ls (rest)))) : Go p e below P (T.setTop (mkF m pc0 Ls (.long y :: .long x :: rest))) := by
  by_cases q : x = y
  · exact s_lcmp B X hd0 hp0 (s_ifY B X hd ((if0 _ _).trans (teq ((lw_eq x y).mpr q)).1) ho hy (k1 q))
  · exact s_lcmp B X hd0 hp0 (s_ifN B X hd ((if0 _ _).trans (feq (fun z => q ((lw_eq x y).mp z))).1) hn (k2 q))
theorem b_lcmp_ne (B : Ctx p s m meth c Z own nm bytes maxL ret) (X : Stand p l e R s m args below meth c T locs cells slots) {x y : Int64} {pc0 : Nat} {o : Int} {py pn : Nat} (hd0 : decode bytes pc0 = .ok (.lcmp, 1)) (hp0 : pc0 + 1 = pc) (hd : decode bytes pc = .ok (.ifCond .ne o, 3)) (ho : 0 ≤ (pc : Int) + o) (hy : ((pc : Int) + o).toNat = py) (hn : pc + 3 = pn) (k1 : ¬ x = y → Go p e below P (T.setTop (mkF m py Ls (rest)))) (k2 : x = y → Go p e below P (T.setTop (mkF m pn Ls (rest)))) : Go p e below P (T.setTop (mkF m pc0 Ls (.long y :: .long x :: rest))) := by
  by_cases q : x = y
  · exact s_lcmp B X hd0 hp0 (s_ifN B X hd ((if0 _ _).trans (teq ((lw_eq x y).mpr q)).2) hn (k2 q))
  · exact s_lcmp B X hd0 hp0 (s_ifY B X hd ((if0 _ _).trans (feq (fun z => q ((lw_eq x y).mp z))).2) ho hy (k1 q))
theorem b_lcmp_lt (B : Ctx p s m meth c Z own nm bytes maxL ret) (X : Stand p l e R s m args below meth c T locs cells slots) {x y : Int64} {pc0 : Nat} {o : Int} {py pn : Nat} (hd0 : decode bytes pc0 = .ok (.lcmp, 1)) (hp0 : pc0 + 1 = pc) (hd : decode bytes pc = .ok (.ifCond .lt o, 3)) (ho : 0 ≤ (pc : Int) + o) (hy : ((pc : Int) + o).toNat = py) (hn : pc + 3 = pn) (k1 : x < y → Go p e below P (T.setTop (mkF m py Ls (rest)))) (k2 : ¬ x < y → Go p e below P (T.setTop (mkF m pn Ls (rest)))) : Go p e below P (T.setTop (mkF m pc0 Ls (.long y :: .long x :: rest))) := by
  by_cases q : x < y
  · exact s_lcmp B X hd0 hp0 (s_ifY B X hd ((if0 _ _).trans (tlt ((lw_lt x y).mpr q)).1) ho hy (k1 q))
  · exact s_lcmp B X hd0 hp0 (s_ifN B X hd ((if0 _ _).trans (flt (fun z => q ((lw_lt x y).mp z))).1) hn (k2 q))
theorem b_lcmp_ge (B : Ctx p s m meth c Z own nm bytes maxL ret) (X : Stand p l e R s m args below meth c T locs cells slots) {x y : Int64} {pc0 : Nat} {o : Int} {py pn : Nat} (hd0 : decode bytes pc0 = .ok (.lcmp, 1)) (hp0 : pc0 + 1 = pc) (hd : decode bytes pc = .ok (.ifCond .ge o, 3)) (ho : 0 ≤ (pc : Int) + o) (hy : ((pc : Int) + o).toNat = py) (hn : pc + 3 = pn) (k1 : ¬ x < y → Go p e below P (T.setTop (mkF m py Ls (rest)))) (k2 : x < y → Go p e below P (T.setTop (mkF m pn Ls (rest)))) : Go p e below P (T.setTop (mkF m pc0 Ls (.long y :: .long x :: rest))) := by
  by_cases q : x < y
  · exact s_lcmp B X hd0 hp0 (s_ifN B X hd ((if0 _ _).trans (tlt ((lw_lt x y).mpr q)).2.1) hn (k2 q))
  · exact s_lcmp B X hd0 hp0 (s_ifY B X hd ((if0 _ _).trans (flt (fun z => q ((lw_lt x y).mp z))).2.1) ho hy (k1 q))
theorem b_lcmp_gt (B : Ctx p s m meth c Z own nm bytes maxL ret) (X : Stand p l e R s m args below meth c T locs cells slots) {x y : Int64} {pc0 : Nat} {o : Int} {py pn : Nat} (hd0 : decode bytes pc0 = .ok (.lcmp, 1)) (hp0 : pc0 + 1 = pc) (hd : decode bytes pc = .ok (.ifCond .gt o, 3)) (ho : 0 ≤ (pc : Int) + o) (hy : ((pc : Int) + o).toNat = py) (hn : pc + 3 = pn) (k1 : y < x → Go p e below P (T.setTop (mkF m py Ls (rest)))) (k2 : ¬ y < x → Go p e below P (T.setTop (mkF m pn Ls (rest)))) : Go p e below P (T.setTop (mkF m pc0 Ls (.long y :: .long x :: rest))) := by
  by_cases q : y < x
  · exact s_lcmp B X hd0 hp0 (s_ifY B X hd ((if0 _ _).trans (tlt ((lw_gt x y).mpr q)).2.2.1) ho hy (k1 q))
  · exact s_lcmp B X hd0 hp0 (s_ifN B X hd ((if0 _ _).trans (flt (fun z => q ((lw_gt x y).mp z))).2.2.1) hn (k2 q))
theorem b_lcmp_le (B : Ctx p s m meth c Z own nm bytes maxL ret) (X : Stand p l e R s m args below meth c T locs cells slots) {x y : Int64} {pc0 : Nat} {o : Int} {py pn : Nat} (hd0 : decode bytes pc0 = .ok (.lcmp, 1)) (hp0 : pc0 + 1 = pc) (hd : decode bytes pc = .ok (.ifCond .le o, 3)) (ho : 0 ≤ (pc : Int) + o) (hy : ((pc : Int) + o).toNat = py) (hn : pc + 3 = pn) (k1 : ¬ y < x → Go p e below P (T.setTop (mkF m py Ls (rest)))) (k2 : y < x → Go p e below P (T.setTop (mkF m pn Ls (rest)))) : Go p e below P (T.setTop (mkF m pc0 Ls (.long y :: .long x :: rest))) := by
  by_cases q : y < x
  · exact s_lcmp B X hd0 hp0 (s_ifN B X hd ((if0 _ _).trans (tlt ((lw_gt x y).mpr q)).2.2.2) hn (k2 q))
  · exact s_lcmp B X hd0 hp0 (s_ifY B X hd ((if0 _ _).trans (flt (fun z => q ((lw_gt x y).mp z))).2.2.2) ho hy (k1 q))
theorem b_acmp_eq (B : Ctx p s m meth c Z own nm bytes maxL ret) (X : Stand p l e R s m args below meth c T locs cells slots) {a b : Addr} {o : Int} {py pn : Nat} (hd : decode bytes pc = .ok (.if_acmp .eq o, 3)) (ho : 0 ≤ (pc : Int) + o) (hy : ((pc : Int) + o).toNat = py) (hn : pc + 3 = pn) (k1 : a = b → Go p e below P (T.setTop (mkF m py Ls (rest)))) (k2 : ¬ a = b → Go p e below P (T.setTop (mkF m pn Ls (rest)))) : Go p e below P (T.setTop (mkF m pc Ls (.ref b :: .ref a :: rest))) := by
  by_cases q : a = b
  · exact Go.on (fun t => Jvm.RoadKit.acmp X B.1 rfl rfl rfl (same := true) rfl (hb B.2.1 hd) rfl (decide_eq_true (congrArg Value.ref q)) ho (by simp [acV, hy])) (k1 q)
  · exact Go.on (fun t => Jvm.RoadKit.acmp X B.1 rfl rfl rfl (same := false) rfl (hb B.2.1 hd) rfl (decide_eq_false fun z => q (Value.ref.inj z)) ho (by simp [acV, hn])) (k2 q)
theorem b_acmp_ne (B : Ctx p s m meth c Z own nm bytes maxL ret) (X : Stand p l e R s m args below meth c T locs cells slots) {a b : Addr} {o : Int} {py pn : Nat} (hd : decode bytes pc = .ok (.if_acmp .ne o, 3)) (ho : 0 ≤ (pc : Int) + o) (hy : ((pc : Int) + o).toNat = py) (hn : pc + 3 = pn) (k1 : ¬ a = b → Go p e below P (T.setTop (mkF m py Ls (rest)))) (k2 : a = b → Go p e below P (T.setTop (mkF m pn Ls (rest)))) : Go p e below P (T.setTop (mkF m pc Ls (.ref b :: .ref a :: rest))) := by
  by_cases q : a = b
  · exact Go.on (fun t => Jvm.RoadKit.acmp X B.1 rfl rfl rfl (same := true) rfl (hb B.2.1 hd) rfl (decide_eq_true (congrArg Value.ref q)) ho (by simp [acV, hn])) (k2 q)
  · exact Go.on (fun t => Jvm.RoadKit.acmp X B.1 rfl rfl rfl (same := false) rfl (hb B.2.1 hd) rfl (decide_eq_false fun z => q (Value.ref.inj z)) ho (by simp [acV, hy])) (k1 q)
theorem b_ifnull (B : Ctx p s m meth c Z own nm bytes maxL ret) (X : Stand p l e R s m args below meth c T locs cells slots) {v : Value} {o : Int} {py pn : Nat} (hv : v.isRef = true) (hd : decode bytes pc = .ok (.ifnull o, 3)) (ho : 0 ≤ (pc : Int) + o) (hy : ((pc : Int) + o).toNat = py) (hn : pc + 3 = pn) (k1 : v = .null → Go p e below P (T.setTop (mkF m py Ls (rest)))) (k2 : ¬ v = .null → Go p e below P (T.setTop (mkF m pn Ls (rest)))) : Go p e below P (T.setTop (mkF m pc Ls (v :: rest))) := by
  rcases ref_cases hv with rfl | ⟨a, rfl⟩
  · exact s_ifnullY B X hd ho hy (k1 rfl)
  · exact s_ifnullN B X hd hn (k2 nofun)
theorem b_ifnonnull (B : Ctx p s m meth c Z own nm bytes maxL ret) (X : Stand p l e R s m args below meth c T locs cells slots) {v : Value} {o : Int} {py pn : Nat} (hv : v.isRef = true) (hd : decode bytes pc = .ok (.ifnonnull o, 3)) (ho : 0 ≤ (pc : Int) + o) (hy : ((pc : Int) + o).toNat = py) (hn : pc + 3 = pn) (k1 : ¬ v = .null → Go p e below P (T.setTop (mkF m py Ls (rest)))) (k2 : v = .null → Go p e below P (T.setTop (mkF m pn Ls (rest)))) : Go p e below P (T.setTop (mkF m pc Ls (v :: rest))) := by
  rcases ref_cases hv with rfl | ⟨a, rfl⟩
  · exact s_ifnonnullN B X hd hn (k2 rfl)
  · exact s_ifnonnullY B X hd ho hy (k1 nofun)
theorem s_ldc (B : Ctx p s m meth c Z own nm bytes maxL ret) (X : Stand p l e R s m args below meth c T locs cells slots) {i : Nat} {v : Int32} (w : (Jvm.Cond.constant own i v).before a0 Z = true) (hd : decode bytes pc = .ok (.ldc i, 2)) (hp : pc + 2 = pc') (k : Go p e below P (T.setTop (mkF m pc' Ls (.int v :: rest)))) : Go p e below P (T.setTop (mkF m pc Ls (rest))) := by
  subst hp; exact Go.on (fun t => X.ldcI B.1 B.2.2.2.1 (mv B.2.2.2.2.2.2.2 w) rfl (hb B.2.1 hd)) k
theorem s_ldc2 (B : Ctx p s m meth c Z own nm bytes maxL ret) (X : Stand p l e R s m args below meth c T locs cells slots) {i : Nat} {v : Int64} (w : (Jvm.Cond.constantLong own i v).before a0 Z = true) (hd : decode bytes pc = .ok (.ldc2_w i, 3)) (hp : pc + 3 = pc') (k : Go p e below P (T.setTop (mkF m pc' Ls (.long v :: rest)))) : Go p e below P (T.setTop (mkF m pc Ls (rest))) := by
  subst hp; exact Go.on (fun t => X.ldc2J B.1 B.2.2.2.1 (mv B.2.2.2.2.2.2.2 w) rfl (hb B.2.1 hd)) k
theorem s_getS (B : Ctx p s m meth c Z own nm bytes maxL ret) (X : Stand p l e R s m args below meth c T locs cells slots) {i : Nat} {R0 O n d : String} {v : Value} (eT : T.heap = h) (w : (Jvm.Cond.fieldLink own i R0 n d).before a0 Z = true) (via : Via Z R0 O n d) (F : Sta Z h O n d v) (hd : decode bytes pc = .ok (.getstatic i, 3)) (hp : pc + 3 = pc') (k : ∀ T', Stand p l e R s m args below meth c T' locs cells slots → T'.heap = h → Go p e below P (T'.setTop (mkF m pc' Ls (v :: rest)))) : Go p e below P (T.setTop (mkF m pc Ls (rest))) := by
  subst hp
  obtain ⟨T', X', e', st⟩ := getS X B.1 B.2.2.2.2.2.2.2 (host := "") B.2.2.2.1 w via eT F (g := mkF m pc Ls rest) rfl (hb B.2.1 hd)
  exact Go.on st (k T' X' e')
theorem s_getF (B : Ctx p s m meth c Z own nm bytes maxL ret) (X : Stand p l e R s m args below meth c T locs cells slots) {i : Nat} {R0 O n d host : String} {a : Addr} {v : Value} (eT : T.heap = h) (w : (Jvm.Cond.fieldLink own i R0 n d).before a0 Z = true ∨ (Jvm.Cond.fieldLinkNest own i R0 n d host).before a0 Z = true) (via : Via Z R0 O n d) (F : Fld Z h a O n d v) (hd : decode bytes pc = .ok (.getfield i, 3)) (hp : pc + 3 = pc') (k : ∀ T', Stand p l e R s m args below meth c T' locs cells slots → T'.heap = h → Go p e below P (T'.setTop (mkF m pc' Ls (v :: rest)))) : Go p e below P (T.setTop (mkF m pc Ls (.ref a :: rest))) := by
  subst hp
  obtain ⟨T', X', e', st⟩ := getF X B.1 B.2.2.2.2.2.2.2 B.2.2.2.1 w via eT F (g := mkF m pc Ls (.ref a :: rest)) rfl rfl (hb B.2.1 hd)
  exact Go.on st (k T' X' e')
theorem r_nar (B : Ctx p s m meth c Z own nm bytes maxL ret) (X : Stand p l e R s m args below meth c T locs cells slots) {Q : Option Value → Heap → List Loc → Prop} {kc kn : Nat} {z : Int32} {t : FieldType} (ht : t = .boolean ∨ t = .byte ∨ t = .char ∨ t = .short) (hr : ret = some t) (hd : decode bytes pc = .ok (.ireturn, 1)) (hq : Q (some (.int (nar t z))) T.heap locs) (hc : cells ≤ kc) (hs : slots ≤ kn) : Go p e below (OEnds s Q kc kn) (T.setTop (mkF m pc Ls (.int z :: rest))) := by
  obtain ⟨fs, hl, hrun, hended, hW, hsame⟩ := X.leave (v := (some (.int (nar t z)))) (fun h => by rw [B.2.2.2.2.2.1, hr] at h; first | rfl | cases h) B.2.2.2.2.2.2.1
  exact ⟨_, _, retN X B.1 (by rw [B.2.2.2.2.2.1, hr]) ht (hb B.2.1 hd) hl, hrun, hended, _, _, rfl, hq, ⟨_, rfl⟩, hW, hsame.mono hc hs⟩
theorem r_int (B : Ctx p s m meth c Z own nm bytes maxL ret) (X : Stand p l e R s m args below meth c T locs cells slots) {Q : Option Value → Heap → List Loc → Prop} {kc kn : Nat} {z : Int32} (hr : ret = some .int) (hd : decode bytes pc = .ok (.ireturn, 1)) (hq : Q (some (.int z)) T.heap locs) (hc : cells ≤ kc) (hs : slots ≤ kn) : Go p e below (OEnds s Q kc kn) (T.setTop (mkF m pc Ls (.int z :: rest))) := by
  obtain ⟨fs, hl, hrun, hended, hW, hsame⟩ := X.leave (v := (some (.int z))) (fun h => by rw [B.2.2.2.2.2.1, hr] at h; first | rfl | cases h) B.2.2.2.2.2.2.1
  exact ⟨_, _, retOut X B.1 (t := .int) (by rw [B.2.2.2.2.2.1, hr]) rfl (Or.inl ⟨rfl, Or.inl rfl, _, rfl⟩) (hb B.2.1 hd) hl, hrun, hended, _, _, rfl, hq, ⟨_, rfl⟩, hW, hsame.mono hc hs⟩
theorem r_long (B : Ctx p s m meth c Z own nm bytes maxL ret) (X : Stand p l e R s m args below meth c T locs cells slots) {Q : Option Value → Heap → List Loc → Prop} {kc kn : Nat} {z : Int64} (hr : ret = some .long) (hd : decode bytes pc = .ok (.lreturn, 1)) (hq : Q (some (.long z)) T.heap locs) (hc : cells ≤ kc) (hs : slots ≤ kn) : Go p e below (OEnds s Q kc kn) (T.setTop (mkF m pc Ls (.long z :: rest))) := by
  obtain ⟨fs, hl, hrun, hended, hW, hsame⟩ := X.leave (v := (some (.long z))) (fun h => by rw [B.2.2.2.2.2.1, hr] at h; first | rfl | cases h) B.2.2.2.2.2.2.1
  exact ⟨_, _, retOut X B.1 (t := .long) (by rw [B.2.2.2.2.2.1, hr]) rfl (Or.inr (Or.inl ⟨rfl, rfl, _, rfl⟩)) (hb B.2.1 hd) hl, hrun, hended, _, _, rfl, hq, ⟨_, rfl⟩, hW, hsame.mono hc hs⟩
theorem r_ref (B : Ctx p s m meth c Z own nm bytes maxL ret) (X : Stand p l e R s m args below meth c T locs cells slots) {Q : Option Value → Heap → List Loc → Prop} {kc kn : Nat} {v : Value} {t : FieldType} (ht : t.isReference = true) (hn : narrow t v = v) (hv : v.isRef = true) (hr : ret = some t) (hd : decode bytes pc = .ok (.areturn, 1)) (hq : Q (some v) T.heap locs) (hc : cells ≤ kc) (hs : slots ≤ kn) : Go p e below (OEnds s Q kc kn) (T.setTop (mkF m pc Ls (v :: rest))) := by
  obtain ⟨fs, hl, hrun, hended, hW, hsame⟩ := X.leave (v := (some v)) (fun h => by rw [B.2.2.2.2.2.1, hr] at h; first | rfl | cases h) B.2.2.2.2.2.2.1
  exact ⟨_, _, retOut X B.1 (t := t) (by rw [B.2.2.2.2.2.1, hr]) hn (Or.inr (Or.inr (Or.inr (Or.inr ⟨rfl, ht, hv⟩)))) (hb B.2.1 hd) hl, hrun, hended, _, _, rfl, hq, ⟨_, rfl⟩, hW, hsame.mono hc hs⟩
theorem r_void (B : Ctx p s m meth c Z own nm bytes maxL ret) (X : Stand p l e R s m args below meth c T locs cells slots) {Q : Option Value → Heap → List Loc → Prop} {kc kn : Nat} (hr : ret = none) (hd : decode bytes pc = .ok (.return_, 1)) (hq : Q none T.heap locs) (hc : cells ≤ kc) (hs : slots ≤ kn) : Go p e below (OEnds s Q kc kn) (T.setTop (mkF m pc Ls [])) := by
  obtain ⟨fs, hl, hrun, hended, hW, hsame⟩ := X.leave (v := none) (fun _ => rfl) B.2.2.2.2.2.2.1
  exact ⟨_, _, X.returnOut B.1 (by rw [B.2.2.2.2.2.1, hr]) (hb B.2.1 hd) hl, hrun, hended, _, _, rfl, hq, ⟨_, rfl⟩, hW, hsame.mono hc hs⟩
theorem c_virtual (B : Ctx p s m meth c Z own nm bytes maxL ret) (X : Stand p l e R s m args below meth c T locs cells slots) {y : MethodName} {bs : ByteArray} {mx : Nat} {rt : Option FieldType} {rm : Room} {i W : Nat} {argsL under : List Value} {Q : Option Value → Heap → List Loc → Prop} {st : List Value} {C : String} {b : Addr} (eT : T.heap = h) (w1 : (Jvm.Cond.methodLink own i y).before a0 Z = true) (w2 : (Jvm.Cond.declares y).before a0 Z = true) (w3 : (Jvm.Cond.selects C y y).before a0 Z = true) (w4 : (Jvm.Cond.instanceMethod y).before a0 Z = true) (wc : (Jvm.Cond.code y bs mx rt).before a0 Z = true) (wz : (Jvm.Cond.initialized y.cls).before a0 Z = true) (hy : y.cls ≠ "java/lang/invoke/MethodHandle" ∧ y.cls ≠ "java/lang/invoke/VarHandle") (hM : OMeets l Z y bs mx rt [] rm (.ref b :: argsL).toArray h Q) (E : Exa Z h b C) (hlen : ∀ sig, parseMethodDescriptor y.desc = some sig → argsL.length = sig.parameters.length) (hst : st = argsL.reverse ++ .ref b :: under) (hW : (under.map fun v => v.category).sum = W) (hf : rm.frames + 1 ≤ R.frames) (hlo : W + (mx + 11) + rm.locals ≤ R.locals) (hce : cells + rm.cells ≤ R.cells) (hsl : slots + rm.slots ≤ R.slots) (hsz : Ls.size = maxL) (hd : decode bytes pc = .ok (.invokevirtual i, 3)) (hp : pc + 3 = pc') (k : ∀ v T' L, Stand p l e R s m args below meth c T' (locs ++ L) (cells + rm.cells) (slots + rm.slots) → Q v T'.heap L → Go p e below P (T'.setTop (mkF m pc' Ls (v.toList ++ under)))) : Go p e below P (T.setTop (mkF m pc Ls st)) := by
  subst hp hst
  obtain ⟨cq, kq, qa, qb, qc⟩ := isOf B.2.2.2.2.2.2.2 eT E
  obtain ⟨v, _, ⟨T', L', k', n'⟩, -, X', ⟨Lc, hQ, l', y', z'⟩, st'⟩ := X.virtualBack B.1 (y := y) B.2.2.2.1 (mvT B.2.2.2.2.2.2.2 w1) (mvT B.2.2.2.2.2.2.2 w2) (notFace_of_selects (args := #[]) (mvT B.2.2.2.2.2.2.2 w3)) (mvT B.2.2.2.2.2.2.2 w3) (mvT B.2.2.2.2.2.2.2 w4) hy (z := y) (backOf (W := W) hM B.2.2.2.2.2.2.2 wc wz hf hlo) qa qc (g := mkF m pc Ls (argsL.reverse ++ .ref b :: under)) rfl (by rw [B.2.2.1]; exact hsz) (Steps.refl _) (argsL := argsL) (rest := under) hlen rfl (by show 2 * 0 + _ ≤ _; rw [Nat.mul_zero, Nat.zero_add]; exact Nat.le_of_eq hW) (hb B.2.1 hd) (fun _ _ => ⟨rfl, eT, hce, hsl⟩)
  dsimp only [Pt.U, Pt.locs, Pt.cells, Pt.slots] at X' l' y' z' st' hQ
  subst l' y' z'
  exact Go.on (fun t q => st'.trans q) (k v T' Lc X' hQ)
theorem c_static (B : Ctx p s m meth c Z own nm bytes maxL ret) (X : Stand p l e R s m args below meth c T locs cells slots) {y : MethodName} {bs : ByteArray} {mx : Nat} {rt : Option FieldType} {rm : Room} {i W : Nat} {argsL under : List Value} {Q : Option Value → Heap → List Loc → Prop} {st : List Value} (eT : T.heap = h) (w1 : (Jvm.Cond.methodLink own i y).before a0 Z = true) (w2 : (Jvm.Cond.static y).before a0 Z = true) (wc : (Jvm.Cond.code y bs mx rt).before a0 Z = true) (wz : (Jvm.Cond.initialized y.cls).before a0 Z = true) (hy : y.cls ≠ "java/lang/invoke/MethodHandle" ∧ y.cls ≠ "java/lang/invoke/VarHandle") (hM : OMeets l Z y bs mx rt [] rm argsL.toArray h Q) (hlen : ∀ sig, parseMethodDescriptor y.desc = some sig → argsL.length = sig.parameters.length) (hst : st = argsL.reverse ++ under) (hW : (under.map fun v => v.category).sum = W) (hf : rm.frames + 1 ≤ R.frames) (hlo : W + (mx + 11) + rm.locals ≤ R.locals) (hce : cells + rm.cells ≤ R.cells) (hsl : slots + rm.slots ≤ R.slots) (hsz : Ls.size = maxL) (hd : decode bytes pc = .ok (.invokestatic i, 3)) (hp : pc + 3 = pc') (k : ∀ v T' L, Stand p l e R s m args below meth c T' (locs ++ L) (cells + rm.cells) (slots + rm.slots) → Q v T'.heap L → Go p e below P (T'.setTop (mkF m pc' Ls (v.toList ++ under)))) : Go p e below P (T.setTop (mkF m pc Ls st)) := by
  subst hp hst
  obtain ⟨v, _, ⟨T', L', k', n'⟩, -, X', ⟨Lc, hQ, l', y', z'⟩, st'⟩ := Jvm.LawKit.callS X B.1 (y := y) B.2.2.2.1 (mvT B.2.2.2.2.2.2.2 w1) (mvT B.2.2.2.2.2.2.2 w2) (mvT B.2.2.2.2.2.2.2 wz) (mvT B.2.2.2.2.2.2.2 wc) hy (backOf (W := W) hM B.2.2.2.2.2.2.2 wc wz hf hlo) (g := mkF m pc Ls (argsL.reverse ++ under)) rfl (by rw [B.2.2.1]; exact hsz) (argsL := argsL) (rest := under) hlen rfl (by show 2 * 0 + _ ≤ _; rw [Nat.mul_zero, Nat.zero_add]; exact Nat.le_of_eq hW) (hb B.2.1 hd) (fun _ _ => ⟨rfl, eT, hce, hsl⟩)
  dsimp only [Pt.U, Pt.locs, Pt.cells, Pt.slots] at X' l' y' z' st' hQ
  subst l' y' z'
  exact Go.on st' (k v T' Lc X' hQ)
theorem c_init (B : Ctx p s m meth c Z own nm bytes maxL ret) (X : Stand p l e R s m args below meth c T locs cells slots) {y : MethodName} {bs : ByteArray} {mx : Nat} {rm : Room} {i W : Nat} {argsL under : List Value} {Q : Option Value → Heap → List Loc → Prop} {st : List Value} {b : Addr} (eT : T.heap = h) (hy1 : y.name = "<init>") (w1 : (Jvm.Cond.methodLink own i y).before a0 Z = true) (w2 : (Jvm.Cond.instanceMethod y).before a0 Z = true) (wc : (Jvm.Cond.code y bs mx none).before a0 Z = true) (wz : (Jvm.Cond.initialized y.cls).before a0 Z = true) (hy : y.cls ≠ "java/lang/invoke/MethodHandle" ∧ y.cls ≠ "java/lang/invoke/VarHandle") (hM : OMeets l Z y bs mx none [] rm (.ref b :: argsL).toArray h Q) (hlen : ∀ sig, parseMethodDescriptor y.desc = some sig → argsL.length = sig.parameters.length) (hst : st = argsL.reverse ++ .ref b :: under) (hW : (under.map fun v => v.category).sum = W) (hf : rm.frames + 1 ≤ R.frames) (hlo : W + (mx + 11) + rm.locals ≤ R.locals) (hce : cells + rm.cells ≤ R.cells) (hsl : slots + rm.slots ≤ R.slots) (hsz : Ls.size = maxL) (hd : decode bytes pc = .ok (.invokespecial i, 3)) (hp : pc + 3 = pc') (k : ∀ v T' L, Stand p l e R s m args below meth c T' (locs ++ L) (cells + rm.cells) (slots + rm.slots) → Q v T'.heap L → Go p e below P (T'.setTop (mkF m pc' Ls (v.toList ++ under)))) : Go p e below P (T.setTop (mkF m pc Ls st)) := by
  subst hp hst
  obtain ⟨v, _, ⟨T', L', k', n'⟩, -, X', ⟨Lc, hQ, l', y', z'⟩, st'⟩ := X.specialBack B.1 (y := y) hy1 B.2.2.2.1 (mvT B.2.2.2.2.2.2.2 w1) (mvT B.2.2.2.2.2.2.2 w2) (mvT B.2.2.2.2.2.2.2 wc) hy (backOf (W := W) hM B.2.2.2.2.2.2.2 wc wz hf hlo) (g := mkF m pc Ls (argsL.reverse ++ .ref b :: under)) rfl (by rw [B.2.2.1]; exact hsz) (Steps.refl _) (a := b) (argsL := argsL) (rest := under) hlen rfl (by show 2 * 0 + _ ≤ _; rw [Nat.mul_zero, Nat.zero_add]; exact Nat.le_of_eq hW) (hb B.2.1 hd) (fun _ _ => ⟨rfl, eT, hce, hsl⟩)
  dsimp only [Pt.U, Pt.locs, Pt.cells, Pt.slots] at X' l' y' z' st' hQ
  subst l' y' z'
  exact Go.on (fun t q => st'.trans q) (k v T' Lc X' hQ)
theorem p_virtual (B : Ctx p s m meth c Z own nm bytes maxL ret) (X : Stand p l e R s m args below meth c T locs cells slots) {y : MethodName} {bs : ByteArray} {mx : Nat} {rt : Option FieldType} {rm : Room} {i W : Nat} {argsL under : List Value} {st : List Value} {C : String} {b : Addr} {r : Option Value} (eT : T.heap = h) (w1 : (Jvm.Cond.methodLink own i y).before a0 Z = true) (w2 : (Jvm.Cond.declares y).before a0 Z = true) (w3 : (Jvm.Cond.selects C y y).before a0 Z = true) (w4 : (Jvm.Cond.instanceMethod y).before a0 Z = true) (wc : (Jvm.Cond.code y bs mx rt).before a0 Z = true) (wz : (Jvm.Cond.initialized y.cls).before a0 Z = true) (hy : y.cls ≠ "java/lang/invoke/MethodHandle" ∧ y.cls ≠ "java/lang/invoke/VarHandle") (hM : OMeets l Z y bs mx rt [] rm (.ref b :: argsL).toArray h (PureQ r h)) (E : Exa Z h b C) (hlen : ∀ sig, parseMethodDescriptor y.desc = some sig → argsL.length = sig.parameters.length) (hst : st = argsL.reverse ++ .ref b :: under) (hW : (under.map fun v => v.category).sum = W) (hf : rm.frames + 1 ≤ R.frames) (hlo : W + (mx + 11) + rm.locals ≤ R.locals) (hce : rm.cells = 0) (hsl : rm.slots = 0) (hc0 : cells ≤ R.cells) (hs0 : slots ≤ R.slots) (hsz : Ls.size = maxL) (hd : decode bytes pc = .ok (.invokevirtual i, 3)) (hp : pc + 3 = pc') (k : ∀ T', Stand p l e R s m args below meth c T' locs cells slots → T'.heap = h → Go p e below P (T'.setTop (mkF m pc' Ls (r.toList ++ under)))) : Go p e below P (T.setTop (mkF m pc Ls st)) := by
  refine c_virtual B X eT w1 w2 w3 w4 wc wz hy hM E hlen hst hW hf hlo (by omega) (by omega) hsz hd hp ?_
  intro v T' L X' hQ
  obtain ⟨rfl, rfl, e'⟩ := hQ
  rw [hce, hsl, List.append_nil] at X'
  exact k T' X' e'
theorem p_static (B : Ctx p s m meth c Z own nm bytes maxL ret) (X : Stand p l e R s m args below meth c T locs cells slots) {y : MethodName} {bs : ByteArray} {mx : Nat} {rt : Option FieldType} {rm : Room} {i W : Nat} {argsL under : List Value} {st : List Value}  {r : Option Value} (eT : T.heap = h) (w1 : (Jvm.Cond.methodLink own i y).before a0 Z = true) (w2 : (Jvm.Cond.static y).before a0 Z = true) (wc : (Jvm.Cond.code y bs mx rt).before a0 Z = true) (wz : (Jvm.Cond.initialized y.cls).before a0 Z = true) (hy : y.cls ≠ "java/lang/invoke/MethodHandle" ∧ y.cls ≠ "java/lang/invoke/VarHandle") (hM : OMeets l Z y bs mx rt [] rm argsL.toArray h (PureQ r h))  (hlen : ∀ sig, parseMethodDescriptor y.desc = some sig → argsL.length = sig.parameters.length) (hst : st = argsL.reverse ++ under) (hW : (under.map fun v => v.category).sum = W) (hf : rm.frames + 1 ≤ R.frames) (hlo : W + (mx + 11) + rm.locals ≤ R.locals) (hce : rm.cells = 0) (hsl : rm.slots = 0) (hc0 : cells ≤ R.cells) (hs0 : slots ≤ R.slots) (hsz : Ls.size = maxL) (hd : decode bytes pc = .ok (.invokestatic i, 3)) (hp : pc + 3 = pc') (k : ∀ T', Stand p l e R s m args below meth c T' locs cells slots → T'.heap = h → Go p e below P (T'.setTop (mkF m pc' Ls (r.toList ++ under)))) : Go p e below P (T.setTop (mkF m pc Ls st)) := by
  refine c_static B X eT w1 w2 wc wz hy hM hlen hst hW hf hlo (by omega) (by omega) hsz hd hp ?_
  intro v T' L X' hQ
  obtain ⟨rfl, rfl, e'⟩ := hQ
  rw [hce, hsl, List.append_nil] at X'
  exact k T' X' e'
theorem p_init (B : Ctx p s m meth c Z own nm bytes maxL ret) (X : Stand p l e R s m args below meth c T locs cells slots) {y : MethodName} {bs : ByteArray} {mx : Nat} {rm : Room} {i W : Nat} {argsL under : List Value} {st : List Value} {b : Addr} (eT : T.heap = h) (hy1 : y.name = "<init>") (w1 : (Jvm.Cond.methodLink own i y).before a0 Z = true) (w2 : (Jvm.Cond.instanceMethod y).before a0 Z = true) (wc : (Jvm.Cond.code y bs mx none).before a0 Z = true) (wz : (Jvm.Cond.initialized y.cls).before a0 Z = true) (hy : y.cls ≠ "java/lang/invoke/MethodHandle" ∧ y.cls ≠ "java/lang/invoke/VarHandle") (hM : OMeets l Z y bs mx none [] rm (.ref b :: argsL).toArray h (PureQ none h)) (hlen : ∀ sig, parseMethodDescriptor y.desc = some sig → argsL.length = sig.parameters.length) (hst : st = argsL.reverse ++ .ref b :: under) (hW : (under.map fun v => v.category).sum = W) (hf : rm.frames + 1 ≤ R.frames) (hlo : W + (mx + 11) + rm.locals ≤ R.locals) (hce : rm.cells = 0) (hsl : rm.slots = 0) (hc0 : cells ≤ R.cells) (hs0 : slots ≤ R.slots) (hsz : Ls.size = maxL) (hd : decode bytes pc = .ok (.invokespecial i, 3)) (hp : pc + 3 = pc') (k : ∀ T', Stand p l e R s m args below meth c T' locs cells slots → T'.heap = h → Go p e below P (T'.setTop (mkF m pc' Ls under))) : Go p e below P (T.setTop (mkF m pc Ls st)) := by
  refine c_init B X eT hy1 w1 w2 wc wz hy hM hlen hst hW hf hlo (by omega) (by omega) hsz hd hp ?_
  intro v T' L X' hQ
  obtain ⟨rfl, rfl, e'⟩ := hQ
  rw [hce, hsl, List.append_nil] at X'
  exact k T' X' e'
theorem c_virtualUp (B : Ctx p s m meth c Z own nm bytes maxL ret) (X : Stand p l e R s m args below meth c T locs cells slots) {y z : MethodName} {bs : ByteArray} {mx : Nat} {rt : Option FieldType} {rm : Room} {i W : Nat} {argsL under : List Value} {Q : Option Value → Heap → List Loc → Prop} {st : List Value} {C owner : String} {b : Addr} (eT : T.heap = h) (w1 : (Jvm.Cond.methodLink own i y).before a0 Z = true) (ws : (Jvm.Cond.sameMethod y.cls owner y.name y.desc).before a0 Z = true) (w2 : (Jvm.Cond.declares ⟨owner, y.name, y.desc⟩).before a0 Z = true) (w3 : (Jvm.Cond.selects C y z).before a0 Z = true) (w4 : (Jvm.Cond.instanceMethod z).before a0 Z = true) (wc : (Jvm.Cond.code z bs mx rt).before a0 Z = true) (wz : (Jvm.Cond.initialized z.cls).before a0 Z = true) (hy : owner ≠ "java/lang/invoke/MethodHandle" ∧ owner ≠ "java/lang/invoke/VarHandle") (hM : OMeets l Z z bs mx rt [] rm (.ref b :: argsL).toArray h Q) (E : Exa Z h b C) (hlen : ∀ sig, parseMethodDescriptor y.desc = some sig → argsL.length = sig.parameters.length) (hst : st = argsL.reverse ++ .ref b :: under) (hW : (under.map fun v => v.category).sum = W) (hf : rm.frames + 1 ≤ R.frames) (hlo : W + (mx + 11) + rm.locals ≤ R.locals) (hce : cells + rm.cells ≤ R.cells) (hsl : slots + rm.slots ≤ R.slots) (hsz : Ls.size = maxL) (hd : decode bytes pc = .ok (.invokevirtual i, 3)) (hp : pc + 3 = pc') (k : ∀ v T' L, Stand p l e R s m args below meth c T' (locs ++ L) (cells + rm.cells) (slots + rm.slots) → Q v T'.heap L → Go p e below P (T'.setTop (mkF m pc' Ls (v.toList ++ under)))) : Go p e below P (T.setTop (mkF m pc Ls st)) := by
  subst hp hst
  obtain ⟨cq, kq, qa, qb, qc⟩ := isOf B.2.2.2.2.2.2.2 eT E
  obtain ⟨v, _, ⟨T', L', k', n'⟩, -, X', ⟨Lc, hQ, l', y', z'⟩, st'⟩ := X.virtualBackUp B.1 (x := y) (y := z) B.2.2.2.1 (mvT B.2.2.2.2.2.2.2 w1) (mvT B.2.2.2.2.2.2.2 ws) (mvT B.2.2.2.2.2.2.2 w2) hy (mvT B.2.2.2.2.2.2.2 w3) (mvT B.2.2.2.2.2.2.2 w4) (backOf (W := W) hM B.2.2.2.2.2.2.2 wc wz hf hlo) qa qc (g := mkF m pc Ls (argsL.reverse ++ .ref b :: under)) rfl (by rw [B.2.2.1]; exact hsz) (Steps.refl _) (argsL := argsL) (rest := under) hlen rfl (by show 2 * 0 + _ ≤ _; rw [Nat.mul_zero, Nat.zero_add]; exact Nat.le_of_eq hW) (hb B.2.1 hd) (fun _ _ => ⟨rfl, eT, hce, hsl⟩)
  dsimp only [Pt.U, Pt.locs, Pt.cells, Pt.slots] at X' l' y' z' st' hQ
  subst l' y' z'
  exact Go.on (fun t q => st'.trans q) (k v T' Lc X' hQ)
theorem p_virtualUp (B : Ctx p s m meth c Z own nm bytes maxL ret) (X : Stand p l e R s m args below meth c T locs cells slots) {y z : MethodName} {bs : ByteArray} {mx : Nat} {rt : Option FieldType} {rm : Room} {i W : Nat} {argsL under : List Value} {st : List Value} {C owner : String} {b : Addr} {r : Option Value} (eT : T.heap = h) (w1 : (Jvm.Cond.methodLink own i y).before a0 Z = true) (ws : (Jvm.Cond.sameMethod y.cls owner y.name y.desc).before a0 Z = true) (w2 : (Jvm.Cond.declares ⟨owner, y.name, y.desc⟩).before a0 Z = true) (w3 : (Jvm.Cond.selects C y z).before a0 Z = true) (w4 : (Jvm.Cond.instanceMethod z).before a0 Z = true) (wc : (Jvm.Cond.code z bs mx rt).before a0 Z = true) (wz : (Jvm.Cond.initialized z.cls).before a0 Z = true) (hy : owner ≠ "java/lang/invoke/MethodHandle" ∧ owner ≠ "java/lang/invoke/VarHandle") (hM : OMeets l Z z bs mx rt [] rm (.ref b :: argsL).toArray h (PureQ r h)) (E : Exa Z h b C) (hlen : ∀ sig, parseMethodDescriptor y.desc = some sig → argsL.length = sig.parameters.length) (hst : st = argsL.reverse ++ .ref b :: under) (hW : (under.map fun v => v.category).sum = W) (hf : rm.frames + 1 ≤ R.frames) (hlo : W + (mx + 11) + rm.locals ≤ R.locals) (hce : rm.cells = 0) (hsl : rm.slots = 0) (hc0 : cells ≤ R.cells) (hs0 : slots ≤ R.slots) (hsz : Ls.size = maxL) (hd : decode bytes pc = .ok (.invokevirtual i, 3)) (hp : pc + 3 = pc') (k : ∀ T', Stand p l e R s m args below meth c T' locs cells slots → T'.heap = h → Go p e below P (T'.setTop (mkF m pc' Ls (r.toList ++ under)))) : Go p e below P (T.setTop (mkF m pc Ls st)) := by
  refine c_virtualUp B X eT w1 ws w2 w3 w4 wc wz hy hM E hlen hst hW hf hlo (by omega) (by omega) hsz hd hp ?_
  intro v T' L X' hQ
  obtain ⟨rfl, rfl, e'⟩ := hQ
  rw [hce, hsl, List.append_nil] at X'
  exact k T' X' e'
end Kit
end Jvm.OwnKit

namespace Jvm.OwnKit
open Sem ClassFile Op Lib Jvm.Stand Jvm.Free Jvm.LawKit Jvm.RoadKit
section Heap
variable {p : Program} {l : Launch} {e : Env} {R : Room} {s : State} {m : MethodId} {args : Array Value} {below : List Frame} {meth : Method} {c : Code} {T : State} {locs : List Loc} {cells slots : Nat} {Z : State} {a0 : Array Value} {h h' : Heap} {own nm : String} {bytes : ByteArray} {maxL : Nat} {ret : Option FieldType} {P : Outcome → State → Prop} {pc pc' : Nat} {Ls Ls' : Array Slot} {rest : List Value} {a b : Addr} {k : ClassId} {ty : FieldType} {n i : Nat} {f g : Nat → Value} {v w : Value} {sl : Nat} {ws : List Addr}
/-- an array at a: n places, place i holds f i -/
def Ary (Z : State) (h : Heap) (a : Addr) (k : ClassId) (ty : FieldType) (n : Nat) (f : Nat → Value) : Prop := ∃ c : Cell, Arr Z h a c ty ∧ c.cls = k ∧ c.slots.size = n ∧ n < 2 ^ 31 ∧ ∀ i, i < n → c.slots[i]? = some (f i)
def upd (f : Nat → Value) (j : Nat) (v : Value) : Nat → Value := fun i => if i = j then v else f i
def lst (L : List Value) (d : Value) : Nat → Value := fun i => L.getD i d
theorem Ary.lt (F : Ary Z h a k ty n f) : a < h.size := by obtain ⟨c, A, -⟩ := F; exact A.lt
theorem Ary.ext (E : Ext h h') (F : Ary Z h a k ty n f) : Ary Z h' a k ty n f := by obtain ⟨c, A, r⟩ := F; exact ⟨c, A.ext E, r⟩
theorem Ary.other (W : Wr h h' b sl v) (F : Ary Z h a k ty n f) (q : a ≠ b) : Ary Z h' a k ty n f := by obtain ⟨c, A, r⟩ := F; exact ⟨c, A.other W q, r⟩
theorem Ary.keep (F : Ary Z h a k ty n f) (K : Keep h h' ws) (q : a ∉ ws) : Ary Z h' a k ty n f := by obtain ⟨c, A, r⟩ := F; exact ⟨c, ⟨K.2.1 a c A.1 q, A.2⟩, r⟩
theorem Ary.congr (F : Ary Z h a k ty n f) (q : ∀ i, i < n → f i = g i) : Ary Z h a k ty n g := by obtain ⟨c, A, r1, r2, r3, r4⟩ := F; exact ⟨c, A, r1, r2, r3, fun i hi => by rw [r4 i hi, q i hi]⟩
theorem upd_lst {L : List Value} {d v : Value} {j : Nat} (hj : j < L.length) {L' : List Value} (e : L.set j v = L') : upd (lst L d) j v = lst L' d := by
  subst e; funext i
  simp only [upd, lst, List.getD_eq_getElem?_getD, List.getElem?_set]
  by_cases q : i = j
  · subst q; simp [hj]
  · simp [q, Ne.symm q]
theorem Ary.same {j : Nat} (W : Wr h h' a j v) (F : Ary Z h a k ty n f) : Ary Z h' a k ty n (upd f j v) := by
  obtain ⟨c, A, r1, r2, r3, r4⟩ := F
  obtain ⟨cell, w1, w2, w3, -⟩ := id W
  cases w1.symm.trans A.1
  refine ⟨_, A.same W, r1, by rw [sz_set]; exact r2, r3, fun i hi => ?_⟩
  by_cases q : i = j
  · subst q; simp [Cell.setSlot, upd, w3]
  · simp only [Cell.setSlot, upd, if_neg q]; rw [Array.getElem?_setIfInBounds_ne (Ne.symm q)]; exact r4 i hi
theorem Ary.of_new {x : Int32} {N : Nat} (A : Arr Z h a (newA k ty x) ty) (hx : ¬ x < 0) (hN : x.toNatClampNeg = N) : Ary Z h a k ty N (fun _ => defaultValue ty) := by
  subst hN
  refine ⟨_, A, rfl, sz_new _ _ _, (back32 hx).2, fun i hi => ?_⟩
  simp [newA, hi]
theorem Ary.of_rep (F : Ary Z h a k ty n (fun _ => v)) {L : List Value} (q : ∀ i, i < n → L.getD i v = v) : Ary Z h a k ty n (lst L v) := F.congr fun i hi => (q i hi).symm

theorem Ary.sto {C : String} {y : Addr} (F : Ary Z h a k ty n f) (O : Ovr Z k C) (I : Ins Z h y C true) : Sto Z h a (.ref y) := by obtain ⟨c, A, r, -⟩ := F; exact Sto.of A (r ▸ O) I
theorem Ary.full {L : List Value} {j : Nat} {L' : List Value} (F : Ary Z h a k ty n (upd (lst L w) j v)) (hj : j < L.length) (e : L.set j v = L') : Ary Z h a k ty n (lst L' w) := by rw [← upd_lst (d := w) hj e]; exact F
theorem Ary.stoA {C : String} {y : Addr} {t0 : FieldType} (F : Ary Z h a k ty n f) (O : OvrA Z k t0 C) (I : Ins Z h y C true) : Sto Z h a (.ref y) := by obtain ⟨c, A, r, -⟩ := F; exact Sto.ofVA A r O I
theorem old_le {n0 : Nat} (O : Old Z n0 h) : n0 ≤ h.size := O.1 ▸ O.2.1
theorem s_new (B : Ctx p s m meth c Z own nm bytes maxL ret) (X : Stand p l e R s m args below meth c T locs cells slots) {C : String} {i0 n0 : Nat} (eT : T.heap = h) (w : (Jvm.Cond.classLink own i0 C).before a0 Z = true) (wi : (Jvm.Cond.instantiable C n0).before a0 Z = true) (wz : (Jvm.Cond.initialized C).before a0 Z = true) (hc : cells + 1 ≤ R.cells) (hl : slots + n0 ≤ R.slots) (hd : decode bytes pc = .ok (.new i0, 3)) (hp : pc + 3 = pc') (k : ∀ T' h' a, a = h.size → Stand p l e R s m args below meth c T' locs (cells + 1) (slots + n0) → T'.heap = h' → Ext h h' → Exa Z h' a C → (∀ {O nm d : String} {ty : FieldType}, Laid Z a0 C O nm d → parseFieldDescriptor d = some ty → Fld Z h' a O nm d (defaultValue ty)) → Go p e below P (T'.setTop (mkF m pc' Ls (.ref a :: rest)))) : Go p e below P (T.setTop (mkF m pc Ls (rest))) := by
  subst hp
  obtain ⟨T', h', X', e', E, A, D, -, st⟩ := newO X B.1 B.2.2.2.2.2.2.2 B.2.2.2.1 w wi wz eT (g := mkF m pc Ls rest) rfl (hb B.2.1 hd) hc hl
  exact Go.on st (k T' h' _ rfl X' e' E A D)
theorem s_initO (B : Ctx p s m meth c Z own nm bytes maxL ret) (X : Stand p l e R s m args below meth c T locs cells slots) {i0 W : Nat} {a : Addr} (eT : T.heap = h) (w1 : (Jvm.Cond.methodLink own i0 Lib.objectInit).before a0 Z = true) (w2 : (Jvm.Cond.instanceMethod Lib.objectInit).before a0 Z = true) (w3 : (Jvm.Cond.code Lib.objectInit ⟨#[0xb1]⟩ 1 none).before a0 Z = true) (hW : (rest.map fun v => v.category).sum = W) (hf : 1 ≤ R.frames) (hl : W + 12 ≤ R.locals) (hsz : Ls.size = maxL) (hd : decode bytes pc = .ok (.invokespecial i0, 3)) (hp : pc + 3 = pc') (k : ∀ T', Stand p l e R s m args below meth c T' locs cells slots → T'.heap = h → Go p e below P (T'.setTop (mkF m pc' Ls (rest)))) : Go p e below P (T.setTop (mkF m pc Ls (.ref a :: rest))) := by
  subst hp
  obtain ⟨T', X', e', st⟩ := initO X B.1 B.2.2.2.2.2.2.2 B.2.2.2.1 w1 w2 w3 eT (g := mkF m pc Ls (.ref a :: rest)) rfl (by rw [B.2.2.1]; exact hsz) rfl (hb B.2.1 hd) hf (W := W) (by show 2 * 0 + _ ≤ _; rw [Nat.mul_zero, Nat.zero_add]; exact Nat.le_of_eq hW) hl
  exact Go.on st (k T' X' e')
theorem s_putF (B : Ctx p s m meth c Z own nm bytes maxL ret) (X : Stand p l e R s m args below meth c T locs cells slots) {i0 kk : Nat} {R0 O n d host C : String} {ty : FieldType} {a : Addr} {v old : Value} (eT : T.heap = h) (w : (Jvm.Cond.fieldLink own i0 R0 n d).before a0 Z = true ∨ (Jvm.Cond.fieldLinkNest own i0 R0 n d host).before a0 Z = true) (via : Via Z R0 O n d) (F : Fld Z h a O n d old) (E : Exa Z h a C) (L : (Jvm.Cond.lays C O n d).before a0 Z = true ∨ ((Jvm.Cond.laysFinal C O n d).before a0 Z = true ∧ own = O ∧ nm = "<init>")) (wi : (Jvm.Cond.instantiable C kk).before a0 Z = true) (hty : parseFieldDescriptor d = some ty) (hn : narrow ty v = v) (hf : fits ty v = true) (hd : decode bytes pc = .ok (.putfield i0, 3)) (hp : pc + 3 = pc') (k : ∀ T' h', Stand p l e R s m args below meth c T' (locs ++ [⟨a, Jvm.RoadKit.slotOf Z O n d⟩]) cells slots → T'.heap = h' → Wr h h' a (Jvm.RoadKit.slotOf Z O n d) v → Go p e below P (T'.setTop (mkF m pc' Ls (rest)))) : Go p e below P (T.setTop (mkF m pc Ls (v :: .ref a :: rest))) := by
  subst hp
  obtain ⟨T', h', X', e', W, st⟩ := putF X B.1 B.2.2.2.2.2.2.2 B.2.2.2.1 w via eT F E (L.imp id fun q => ⟨q.1, q.2.1, by rw [B.2.2.2.2.1]; exact q.2.2⟩) wi hty hn hf (g := mkF m pc Ls (v :: .ref a :: rest)) rfl rfl (hb B.2.1 hd)
  exact Go.on st (k T' h' X' e' W)
theorem s_putFN (B : Ctx p s m meth c Z own nm bytes maxL ret) (X : Stand p l e R s m args below meth c T locs cells slots) {i0 kk : Nat} {R0 O n d C : String} {ty : FieldType} {a : Addr} {v v' old : Value} (eT : T.heap = h) (w : (Jvm.Cond.fieldLink own i0 R0 n d).before a0 Z = true) (via : Via Z R0 O n d) (F : Fld Z h a O n d old) (E : Exa Z h a C) (L : (Jvm.Cond.lays C O n d).before a0 Z = true ∨ ((Jvm.Cond.laysFinal C O n d).before a0 Z = true ∧ own = O ∧ nm = "<init>")) (wi : (Jvm.Cond.instantiable C kk).before a0 Z = true) (hty : parseFieldDescriptor d = some ty) (hn : narrow ty v = v') (hf : fits ty v' = true) (hd : decode bytes pc = .ok (.putfield i0, 3)) (hp : pc + 3 = pc') (k : ∀ T' h', Stand p l e R s m args below meth c T' (locs ++ [⟨a, Jvm.RoadKit.slotOf Z O n d⟩]) cells slots → T'.heap = h' → Wr h h' a (Jvm.RoadKit.slotOf Z O n d) v' → Go p e below P (T'.setTop (mkF m pc' Ls (rest)))) : Go p e below P (T.setTop (mkF m pc Ls (v :: .ref a :: rest))) := by
  subst hp
  obtain ⟨T', h', X', e', W, st⟩ := putFN X B.1 B.2.2.2.2.2.2.2 B.2.2.2.1 w via eT F E (L.imp id fun q => ⟨q.1, q.2.1, by rw [B.2.2.2.2.1]; exact q.2.2⟩) wi hty hn hf (g := mkF m pc Ls (v :: .ref a :: rest)) rfl rfl (hb B.2.1 hd)
  exact Go.on st (k T' h' X' e' W)
theorem s_newP (B : Ctx p s m meth c Z own nm bytes maxL ret) (X : Stand p l e R s m args below meth c T locs cells slots) {aty : ArrayType} {x : Int32} {N : Nat} (eT : T.heap = h) (w : (Jvm.Cond.arrayClass (newarray.typeOf aty)).before a0 Z = true) (hn : ¬ x < 0) (hN : x.toNatClampNeg = N) {cap : Nat} (hcap : N ≤ cap) (hb8 : cap * 8 ≤ 536870912) (hc : cells + 1 ≤ R.cells) (hl : slots + cap ≤ R.slots) (hd : decode bytes pc = .ok (.newarray aty, 2)) (hp : pc + 2 = pc') (k : ∀ T' h' a kA, a = h.size → Stand p l e R s m args below meth c T' locs (cells + 1) (slots + cap) → T'.heap = h' → Ext h h' → Ary Z h' a kA (newarray.typeOf aty) N (fun _ => defaultValue (newarray.typeOf aty)) → Go p e below P (T'.setTop (mkF m pc' Ls (.ref a :: rest)))) : Go p e below P (T.setTop (mkF m pc Ls (.int x :: rest))) := by
  subst hp
  obtain ⟨T', h', cA, X', e', E, A, st⟩ := newP X B.1 B.2.2.2.2.2.2.2 w eT (g := mkF m pc Ls (.int x :: rest)) rfl (hb B.2.1 hd) rfl hn (cap := cap) (hN ▸ hcap) hb8 hc hl
  exact Go.on st (k T' h' _ cA rfl X' e' E (Ary.of_new A hn hN))
theorem s_newPE (B : Ctx p s m meth c Z own nm bytes maxL ret) (X : Stand p l e R s m args below meth c T locs cells slots) {aty : ArrayType} {x : Int32} {N : Nat} {ad : String} (eT : T.heap = h) (had : "[" ++ (newarray.typeOf aty).toString = ad) (w : (Jvm.Cond.arrayClass (newarray.typeOf aty)).before a0 Z = true) (hn : ¬ x < 0) (hN : x.toNatClampNeg = N) {cap : Nat} (hcap : N ≤ cap) (hb8 : cap * 8 ≤ 536870912) (hc : cells + 1 ≤ R.cells) (hl : slots + cap ≤ R.slots) (hd : decode bytes pc = .ok (.newarray aty, 2)) (hp : pc + 2 = pc') (k : ∀ T' h' a kA, a = h.size → Stand p l e R s m args below meth c T' locs (cells + 1) (slots + cap) → T'.heap = h' → Ext h h' → Ary Z h' a kA (newarray.typeOf aty) N (fun _ => defaultValue (newarray.typeOf aty)) → Exa Z h' a ad → Go p e below P (T'.setTop (mkF m pc' Ls (.ref a :: rest)))) : Go p e below P (T.setTop (mkF m pc Ls (.int x :: rest))) := by
  subst hp
  obtain ⟨T', h', cA, X', e', E, A, F, st⟩ := newPE X B.1 B.2.2.2.2.2.2.2 w eT (g := mkF m pc Ls (.int x :: rest)) rfl (hb B.2.1 hd) rfl hn (cap := cap) (hN ▸ hcap) hb8 hc hl had
  exact Go.on st (k T' h' _ cA rfl X' e' E (Ary.of_new A hn hN) F)
theorem s_newR (B : Ctx p s m meth c Z own nm bytes maxL ret) (X : Stand p l e R s m args below meth c T locs cells slots) {i0 : Nat} {C : String} {x : Int32} {N : Nat} (eT : T.heap = h) (w1 : (Jvm.Cond.classLink own i0 C).before a0 Z = true) (w2 : (Jvm.Cond.arrayOver (.object C)).before a0 Z = true) (hn : ¬ x < 0) (hN : x.toNatClampNeg = N) {cap : Nat} (hcap : N ≤ cap) (hb8 : cap * 8 ≤ 536870912) (hc : cells + 1 ≤ R.cells) (hl : slots + cap ≤ R.slots) (hd : decode bytes pc = .ok (.anewarray i0, 3)) (hp : pc + 3 = pc') (k : ∀ T' h' a kA, a = h.size → Stand p l e R s m args below meth c T' locs (cells + 1) (slots + cap) → T'.heap = h' → Ext h h' → Ary Z h' a kA (.object C) N (fun _ => .null) → Ovr Z kA C → Go p e below P (T'.setTop (mkF m pc' Ls (.ref a :: rest)))) : Go p e below P (T.setTop (mkF m pc Ls (.int x :: rest))) := by
  subst hp
  obtain ⟨T', h', cA, X', e', E, A, O, st⟩ := newR X B.1 B.2.2.2.2.2.2.2 B.2.2.2.1 w1 w2 eT (g := mkF m pc Ls (.int x :: rest)) rfl (hb B.2.1 hd) rfl hn (cap := cap) (hN ▸ hcap) hb8 hc hl
  exact Go.on st (k T' h' _ cA rfl X' e' E (Ary.of_new A hn hN) O)
theorem s_newRA (B : Ctx p s m meth c Z own nm bytes maxL ret) (X : Stand p l e R s m args below meth c T locs cells slots) {i0 : Nat} {C : String} {ty : FieldType} {x : Int32} {N : Nat} (eT : T.heap = h) (hC : (FieldType.array ty).toString = C) (w1 : (Jvm.Cond.classLink own i0 C).before a0 Z = true) (w2 : (Jvm.Cond.arrayOver (.array ty)).before a0 Z = true) (hn : ¬ x < 0) (hN : x.toNatClampNeg = N) {cap : Nat} (hcap : N ≤ cap) (hb8 : cap * 8 ≤ 536870912) (hc : cells + 1 ≤ R.cells) (hl : slots + cap ≤ R.slots) (hd : decode bytes pc = .ok (.anewarray i0, 3)) (hp : pc + 3 = pc') (k : ∀ T' h' a kA, a = h.size → Stand p l e R s m args below meth c T' locs (cells + 1) (slots + cap) → T'.heap = h' → Ext h h' → Ary Z h' a kA (.array ty) N (fun _ => .null) → OvrA Z kA ty C → Go p e below P (T'.setTop (mkF m pc' Ls (.ref a :: rest)))) : Go p e below P (T.setTop (mkF m pc Ls (.int x :: rest))) := by
  subst hp
  obtain ⟨T', h', cA, X', e', E, A, -, O, st⟩ := newRA X B.1 B.2.2.2.2.2.2.2 B.2.2.2.1 hC w1 w2 eT (g := mkF m pc Ls (.int x :: rest)) rfl (hb B.2.1 hd) rfl hn (cap := cap) (hN ▸ hcap) hb8 hc hl rfl
  exact Go.on st (k T' h' _ cA rfl X' e' E (Ary.of_new A hn hN) O)
theorem s_stI (B : Ctx p s m meth c Z own nm bytes maxL ret) (X : Stand p l e R s m args below meth c T locs cells slots) {a : Addr} {x : Int32} {j : Int32} {jn N : Nat} {f : Nat → Value} {kA : ClassId} (eT : T.heap = h) (A : Ary Z h a kA .int N f) (hj : ¬ j < 0) (hjn : j.toNatClampNeg = jn) (hlt : jn < N) (hd : decode bytes pc = .ok (.iastore, 1)) (hp : pc + 1 = pc') (k : ∀ T' h', Stand p l e R s m args below meth c T' (locs ++ [⟨a, jn⟩]) cells slots → T'.heap = h' → Wr h h' a jn (.int x) → Ary Z h' a kA .int N (upd f jn (.int x)) → Go p e below P (T'.setTop (mkF m pc' Ls (rest)))) : Go p e below P (T.setTop (mkF m pc Ls (.int x :: .int j :: .ref a :: rest))) := by
  subst hp
  subst hjn
  obtain ⟨cl, A1, q1, q2, q3, q4⟩ := id A
  obtain ⟨T', h', X', e', W, st⟩ := stI X B.1 B.2.2.2.2.2.2.2 eT A1 (j := j) (by rw [q2]; intro z; rcases z with z | z; exact hj z; omega) (g := mkF m pc Ls (.int x :: .int j :: .ref a :: rest)) rfl rfl (hb B.2.1 hd)
  exact Go.on st (k T' h' X' e' W (A.same W))
theorem s_stJ (B : Ctx p s m meth c Z own nm bytes maxL ret) (X : Stand p l e R s m args below meth c T locs cells slots) {a : Addr} {x : Int64} {j : Int32} {jn N : Nat} {f : Nat → Value} {kA : ClassId} (eT : T.heap = h) (A : Ary Z h a kA .long N f) (hj : ¬ j < 0) (hjn : j.toNatClampNeg = jn) (hlt : jn < N) (hd : decode bytes pc = .ok (.lastore, 1)) (hp : pc + 1 = pc') (k : ∀ T' h', Stand p l e R s m args below meth c T' (locs ++ [⟨a, jn⟩]) cells slots → T'.heap = h' → Wr h h' a jn (.long x) → Ary Z h' a kA .long N (upd f jn (.long x)) → Go p e below P (T'.setTop (mkF m pc' Ls (rest)))) : Go p e below P (T.setTop (mkF m pc Ls (.long x :: .int j :: .ref a :: rest))) := by
  subst hp
  subst hjn
  obtain ⟨cl, A1, q1, q2, q3, q4⟩ := id A
  obtain ⟨T', h', X', e', W, st⟩ := stJ X B.1 B.2.2.2.2.2.2.2 eT A1 (j := j) (by rw [q2]; intro z; rcases z with z | z; exact hj z; omega) (g := mkF m pc Ls (.long x :: .int j :: .ref a :: rest)) rfl rfl (hb B.2.1 hd)
  exact Go.on st (k T' h' X' e' W (A.same W))
theorem s_stB (B : Ctx p s m meth c Z own nm bytes maxL ret) (X : Stand p l e R s m args below meth c T locs cells slots) {a : Addr} {x : Int32} {j : Int32} {jn N : Nat} {f : Nat → Value} {kA : ClassId} (eT : T.heap = h) (A : Ary Z h a kA .byte N f) (hj : ¬ j < 0) (hjn : j.toNatClampNeg = jn) (hlt : jn < N) (hd : decode bytes pc = .ok (.bastore, 1)) (hp : pc + 1 = pc') (k : ∀ T' h', Stand p l e R s m args below meth c T' (locs ++ [⟨a, jn⟩]) cells slots → T'.heap = h' → Wr h h' a jn (.int (nar .byte x)) → Ary Z h' a kA .byte N (upd f jn (.int (nar .byte x))) → Go p e below P (T'.setTop (mkF m pc' Ls (rest)))) : Go p e below P (T.setTop (mkF m pc Ls (.int x :: .int j :: .ref a :: rest))) := by
  subst hp
  subst hjn
  obtain ⟨cl, A1, q1, q2, q3, q4⟩ := id A
  obtain ⟨T', h', X', e', W, st⟩ := stB X B.1 B.2.2.2.2.2.2.2 eT A1 (j := j) (by rw [q2]; intro z; rcases z with z | z; exact hj z; omega) (g := mkF m pc Ls (.int x :: .int j :: .ref a :: rest)) rfl rfl (hb B.2.1 hd)
  exact Go.on st (k T' h' X' e' W (A.same W))
theorem s_stZ (B : Ctx p s m meth c Z own nm bytes maxL ret) (X : Stand p l e R s m args below meth c T locs cells slots) {a : Addr} {x : Int32} {j : Int32} {jn N : Nat} {f : Nat → Value} {kA : ClassId} (eT : T.heap = h) (A : Ary Z h a kA .boolean N f) (hj : ¬ j < 0) (hjn : j.toNatClampNeg = jn) (hlt : jn < N) (hd : decode bytes pc = .ok (.bastore, 1)) (hp : pc + 1 = pc') (k : ∀ T' h', Stand p l e R s m args below meth c T' (locs ++ [⟨a, jn⟩]) cells slots → T'.heap = h' → Wr h h' a jn (.int (nar .boolean x)) → Ary Z h' a kA .boolean N (upd f jn (.int (nar .boolean x))) → Go p e below P (T'.setTop (mkF m pc' Ls (rest)))) : Go p e below P (T.setTop (mkF m pc Ls (.int x :: .int j :: .ref a :: rest))) := by
  subst hp
  subst hjn
  obtain ⟨cl, A1, q1, q2, q3, q4⟩ := id A
  obtain ⟨T', h', X', e', W, st⟩ := stZ X B.1 B.2.2.2.2.2.2.2 eT A1 (j := j) (by rw [q2]; intro z; rcases z with z | z; exact hj z; omega) (g := mkF m pc Ls (.int x :: .int j :: .ref a :: rest)) rfl rfl (hb B.2.1 hd)
  exact Go.on st (k T' h' X' e' W (A.same W))
theorem s_stC (B : Ctx p s m meth c Z own nm bytes maxL ret) (X : Stand p l e R s m args below meth c T locs cells slots) {a : Addr} {x : Int32} {j : Int32} {jn N : Nat} {f : Nat → Value} {kA : ClassId} (eT : T.heap = h) (A : Ary Z h a kA .char N f) (hj : ¬ j < 0) (hjn : j.toNatClampNeg = jn) (hlt : jn < N) (hd : decode bytes pc = .ok (.castore, 1)) (hp : pc + 1 = pc') (k : ∀ T' h', Stand p l e R s m args below meth c T' (locs ++ [⟨a, jn⟩]) cells slots → T'.heap = h' → Wr h h' a jn (.int (nar .char x)) → Ary Z h' a kA .char N (upd f jn (.int (nar .char x))) → Go p e below P (T'.setTop (mkF m pc' Ls (rest)))) : Go p e below P (T.setTop (mkF m pc Ls (.int x :: .int j :: .ref a :: rest))) := by
  subst hp
  subst hjn
  obtain ⟨cl, A1, q1, q2, q3, q4⟩ := id A
  obtain ⟨T', h', X', e', W, st⟩ := stC X B.1 B.2.2.2.2.2.2.2 eT A1 (j := j) (by rw [q2]; intro z; rcases z with z | z; exact hj z; omega) (g := mkF m pc Ls (.int x :: .int j :: .ref a :: rest)) rfl rfl (hb B.2.1 hd)
  exact Go.on st (k T' h' X' e' W (A.same W))
theorem s_stR (B : Ctx p s m meth c Z own nm bytes maxL ret) (X : Stand p l e R s m args below meth c T locs cells slots) {a : Addr} {v : Value} {ty : FieldType} {j : Int32} {jn N : Nat} {f : Nat → Value} {kA : ClassId} (eT : T.heap = h) (A : Ary Z h a kA ty N f) (hty : ty.isReference = true) (S : Sto Z h a v) (hj : ¬ j < 0) (hjn : j.toNatClampNeg = jn) (hlt : jn < N) (hd : decode bytes pc = .ok (.aastore, 1)) (hp : pc + 1 = pc') (k : ∀ T' h', Stand p l e R s m args below meth c T' (locs ++ [⟨a, jn⟩]) cells slots → T'.heap = h' → Wr h h' a jn v → Ary Z h' a kA ty N (upd f jn v) → Go p e below P (T'.setTop (mkF m pc' Ls (rest)))) : Go p e below P (T.setTop (mkF m pc Ls (v :: .int j :: .ref a :: rest))) := by
  subst hp
  subst hjn
  obtain ⟨cl, A1, q1, q2, q3, q4⟩ := id A
  obtain ⟨T', h', X', e', W, st⟩ := stR X B.1 B.2.2.2.2.2.2.2 eT A1 (j := j) (by rw [q2]; intro z; rcases z with z | z; exact hj z; omega) hty S (g := mkF m pc Ls (v :: .int j :: .ref a :: rest)) rfl rfl (hb B.2.1 hd)
  exact Go.on st (k T' h' X' e' W (A.same W))
theorem s_ldI (B : Ctx p s m meth c Z own nm bytes maxL ret) (X : Stand p l e R s m args below meth c T locs cells slots) {a : Addr} {v : Value} {j : Int32} {jn N : Nat} {f : Nat → Value} {kA : ClassId} (eT : T.heap = h) (A : Ary Z h a kA .int N f) (hj : ¬ j < 0) (hjn : j.toNatClampNeg = jn) (hlt : jn < N) (hv : f jn = v) (hd : decode bytes pc = .ok (.iaload, 1)) (hp : pc + 1 = pc') (k : Go p e below P (T.setTop (mkF m pc' Ls (v :: rest)))) : Go p e below P (T.setTop (mkF m pc Ls (.int j :: .ref a :: rest))) := by
  subst hp hjn hv
  obtain ⟨cl, A1, q1, q2, q3, q4⟩ := A
  exact Go.on (X.iaload B.1 (j := j) (by rw [eT]; exact A1.1) (State.isArrayOf_alike B.2.2.2.2.2.2.2.alike A1.2.1) A1.2.2 (by rw [q2]; intro z; rcases z with z | z; exact hj z; omega) (q4 _ hlt) (g := mkF m pc Ls (.int j :: .ref a :: rest)) rfl rfl (hb B.2.1 hd)) k
theorem s_ldJ (B : Ctx p s m meth c Z own nm bytes maxL ret) (X : Stand p l e R s m args below meth c T locs cells slots) {a : Addr} {v : Value} {j : Int32} {jn N : Nat} {f : Nat → Value} {kA : ClassId} (eT : T.heap = h) (A : Ary Z h a kA .long N f) (hj : ¬ j < 0) (hjn : j.toNatClampNeg = jn) (hlt : jn < N) (hv : f jn = v) (hd : decode bytes pc = .ok (.laload, 1)) (hp : pc + 1 = pc') (k : Go p e below P (T.setTop (mkF m pc' Ls (v :: rest)))) : Go p e below P (T.setTop (mkF m pc Ls (.int j :: .ref a :: rest))) := by
  subst hp hjn hv
  obtain ⟨cl, A1, q1, q2, q3, q4⟩ := A
  exact Go.on (X.laload B.1 (j := j) (by rw [eT]; exact A1.1) (State.isArrayOf_alike B.2.2.2.2.2.2.2.alike A1.2.1) A1.2.2 (by rw [q2]; intro z; rcases z with z | z; exact hj z; omega) (q4 _ hlt) (g := mkF m pc Ls (.int j :: .ref a :: rest)) rfl rfl (hb B.2.1 hd)) k
theorem s_ldB (B : Ctx p s m meth c Z own nm bytes maxL ret) (X : Stand p l e R s m args below meth c T locs cells slots) {a : Addr} {v : Value} {j : Int32} {jn N : Nat} {f : Nat → Value} {kA : ClassId} (eT : T.heap = h) (A : Ary Z h a kA .byte N f) (hj : ¬ j < 0) (hjn : j.toNatClampNeg = jn) (hlt : jn < N) (hv : f jn = v) (hd : decode bytes pc = .ok (.baload, 1)) (hp : pc + 1 = pc') (k : Go p e below P (T.setTop (mkF m pc' Ls (v :: rest)))) : Go p e below P (T.setTop (mkF m pc Ls (.int j :: .ref a :: rest))) := by
  subst hp hjn hv
  obtain ⟨cl, A1, q1, q2, q3, q4⟩ := A
  exact Go.on (X.baloadBytes B.1 (j := j) (by rw [eT]; exact A1.1) (State.isArrayOf_alike B.2.2.2.2.2.2.2.alike A1.2.1) A1.2.2 (by rw [q2]; intro z; rcases z with z | z; exact hj z; omega) (q4 _ hlt) (g := mkF m pc Ls (.int j :: .ref a :: rest)) rfl rfl (hb B.2.1 hd)) k
theorem s_ldZ (B : Ctx p s m meth c Z own nm bytes maxL ret) (X : Stand p l e R s m args below meth c T locs cells slots) {a : Addr} {v : Value} {j : Int32} {jn N : Nat} {f : Nat → Value} {kA : ClassId} (eT : T.heap = h) (A : Ary Z h a kA .boolean N f) (hj : ¬ j < 0) (hjn : j.toNatClampNeg = jn) (hlt : jn < N) (hv : f jn = v) (hd : decode bytes pc = .ok (.baload, 1)) (hp : pc + 1 = pc') (k : Go p e below P (T.setTop (mkF m pc' Ls (v :: rest)))) : Go p e below P (T.setTop (mkF m pc Ls (.int j :: .ref a :: rest))) := by
  subst hp hjn hv
  obtain ⟨cl, A1, q1, q2, q3, q4⟩ := A
  exact Go.on (X.baloadBooleans B.1 (j := j) (by rw [eT]; exact A1.1) (State.isArrayOf_alike B.2.2.2.2.2.2.2.alike A1.2.1) A1.2.2 (by rw [q2]; intro z; rcases z with z | z; exact hj z; omega) (q4 _ hlt) (g := mkF m pc Ls (.int j :: .ref a :: rest)) rfl rfl (hb B.2.1 hd)) k
theorem s_ldC (B : Ctx p s m meth c Z own nm bytes maxL ret) (X : Stand p l e R s m args below meth c T locs cells slots) {a : Addr} {v : Value} {j : Int32} {jn N : Nat} {f : Nat → Value} {kA : ClassId} (eT : T.heap = h) (A : Ary Z h a kA .char N f) (hj : ¬ j < 0) (hjn : j.toNatClampNeg = jn) (hlt : jn < N) (hv : f jn = v) (hd : decode bytes pc = .ok (.caload, 1)) (hp : pc + 1 = pc') (k : Go p e below P (T.setTop (mkF m pc' Ls (v :: rest)))) : Go p e below P (T.setTop (mkF m pc Ls (.int j :: .ref a :: rest))) := by
  subst hp hjn hv
  obtain ⟨cl, A1, q1, q2, q3, q4⟩ := A
  exact Go.on (X.caload B.1 (j := j) (by rw [eT]; exact A1.1) (State.isArrayOf_alike B.2.2.2.2.2.2.2.alike A1.2.1) A1.2.2 (by rw [q2]; intro z; rcases z with z | z; exact hj z; omega) (q4 _ hlt) (g := mkF m pc Ls (.int j :: .ref a :: rest)) rfl rfl (hb B.2.1 hd)) k
theorem s_ldR (B : Ctx p s m meth c Z own nm bytes maxL ret) (X : Stand p l e R s m args below meth c T locs cells slots) {a : Addr} {v : Value} {ty : FieldType} {j : Int32} {jn N : Nat} {f : Nat → Value} {kA : ClassId} (eT : T.heap = h) (A : Ary Z h a kA ty N f) (hty : ty.isReference = true) (hj : ¬ j < 0) (hjn : j.toNatClampNeg = jn) (hlt : jn < N) (hv : f jn = v) (hd : decode bytes pc = .ok (.aaload, 1)) (hp : pc + 1 = pc') (k : Go p e below P (T.setTop (mkF m pc' Ls (v :: rest)))) : Go p e below P (T.setTop (mkF m pc Ls (.int j :: .ref a :: rest))) := by
  subst hp hjn hv
  obtain ⟨cl, A1, q1, q2, q3, q4⟩ := A
  exact Go.on (X.aaload B.1 (j := j) (by rw [eT]; exact A1.1) (State.isArrayOf_alike B.2.2.2.2.2.2.2.alike A1.2.1) hty A1.2.2 (by rw [q2]; intro z; rcases z with z | z; exact hj z; omega) (q4 _ hlt) (g := mkF m pc Ls (.int j :: .ref a :: rest)) rfl rfl (hb B.2.1 hd)) k
theorem s_len (B : Ctx p s m meth c Z own nm bytes maxL ret) (X : Stand p l e R s m args below meth c T locs cells slots) {a : Addr} {v : Int32} {ty : FieldType} {N : Nat} {f : Nat → Value} {kA : ClassId} (eT : T.heap = h) (A : Ary Z h a kA ty N f) (hv : N.toInt32 = v) (hd : decode bytes pc = .ok (.arraylength, 1)) (hp : pc + 1 = pc') (k : Go p e below P (T.setTop (mkF m pc' Ls (.int v :: rest)))) : Go p e below P (T.setTop (mkF m pc Ls (.ref a :: rest))) := by
  subst hp hv
  obtain ⟨cl, A1, q1, q2, q3, q4⟩ := A
  subst q2
  exact Go.on (X.arraylength B.1 (by rw [eT]; exact A1.1) (State.isArrayOf_alike B.2.2.2.2.2.2.2.alike A1.2.1) (g := mkF m pc Ls (.ref a :: rest)) rfl rfl (hb B.2.1 hd)) k
theorem s_castY (B : Ctx p s m meth c Z own nm bytes maxL ret) (X : Stand p l e R s m args below meth c T locs cells slots) {i0 : Nat} {K : String} {a : Addr} (eT : T.heap = h) (w : (Jvm.Cond.classLink own i0 K).before a0 Z = true) (F : Ins Z h a K true) (hd : decode bytes pc = .ok (.checkcast i0, 3)) (hp : pc + 3 = pc') (k : ∀ T', Stand p l e R s m args below meth c T' locs cells slots → T'.heap = h → Go p e below P (T'.setTop (mkF m pc' Ls (.ref a :: rest)))) : Go p e below P (T.setTop (mkF m pc Ls (.ref a :: rest))) := by
  subst hp
  obtain ⟨T', X', e', st⟩ := castY X B.1 B.2.2.2.2.2.2.2 B.2.2.2.1 w eT F (g := mkF m pc Ls (.ref a :: rest)) rfl rfl (hb B.2.1 hd)
  exact Go.on st (k T' X' e')
theorem s_instY (B : Ctx p s m meth c Z own nm bytes maxL ret) (X : Stand p l e R s m args below meth c T locs cells slots) {i0 : Nat} {K : String} {a : Addr} (eT : T.heap = h) (w : (Jvm.Cond.classLink own i0 K).before a0 Z = true) (F : Ins Z h a K true) (hd : decode bytes pc = .ok (.instanceof i0, 3)) (hp : pc + 3 = pc') (k : ∀ T', Stand p l e R s m args below meth c T' locs cells slots → T'.heap = h → Go p e below P (T'.setTop (mkF m pc' Ls (.int 1 :: rest)))) : Go p e below P (T.setTop (mkF m pc Ls (.ref a :: rest))) := by
  subst hp
  obtain ⟨T', X', e', st⟩ := instY X B.1 B.2.2.2.2.2.2.2 B.2.2.2.1 w eT F (g := mkF m pc Ls (.ref a :: rest)) rfl rfl (hb B.2.1 hd)
  exact Go.on st (k T' X' e')
theorem s_tswIn (B : Ctx p s m meth c Z own nm bytes maxL ret) (X : Stand p l e R s m args below meth c T locs cells slots) {df lo hi : Int} {offs : Array Int} {len : Nat} {o : Int} {x : Int32} (hd : decode bytes pc = .ok (.tableswitch df lo hi offs, len)) (hin : ¬ (x.toInt < lo ∨ x.toInt > hi)) (hoff : offs[(x.toInt - lo).toNat]? = some o) (ho : 0 ≤ (pc : Int) + o) (hp : ((pc : Int) + o).toNat = pc') (k : Go p e below P (T.setTop (mkF m pc' Ls (rest)))) : Go p e below P (T.setTop (mkF m pc Ls (.int x :: rest))) := Go.on (fun t => XS.tswIn (g := mkF m pc Ls (.int x :: rest)) X.here B.1 rfl (pc0 := pc) rfl (hb B.2.1 hd) (i := x) (rest := rest) rfl hin hoff ho hp) k
theorem s_tswOut (B : Ctx p s m meth c Z own nm bytes maxL ret) (X : Stand p l e R s m args below meth c T locs cells slots) {df lo hi : Int} {offs : Array Int} {len : Nat} {x : Int32} (hd : decode bytes pc = .ok (.tableswitch df lo hi offs, len)) (hout : x.toInt < lo ∨ x.toInt > hi) (ho : 0 ≤ (pc : Int) + df) (hp : ((pc : Int) + df).toNat = pc') (k : Go p e below P (T.setTop (mkF m pc' Ls (rest)))) : Go p e below P (T.setTop (mkF m pc Ls (.int x :: rest))) := Go.on (fun t => XS.tswOut (g := mkF m pc Ls (.int x :: rest)) X.here B.1 rfl (pc0 := pc) rfl (hb B.2.1 hd) (i := x) (rest := rest) rfl hout ho hp) k
end Heap
end Jvm.OwnKit

namespace Jvm.OwnKit
open Sem ClassFile Op Lib Jvm.Stand Jvm.Free Jvm.LawKit Jvm.RoadKit
section Start
variable {args : Array Value} {s : State} {t u : Term}
theorem eqI_v {k : Int32} (h : (Jvm.Cond.eq t (.int k)).value args s none s [] = some true) : t.eval args s none [] s = some (.int k) := by
  cases ht : t.eval args s none [] s with
  | none => simp [Cond.value, ht] at h
  | some x => cases x <;> simp [Cond.value, ht, Term.eval] at h ⊢; exact h
theorem eqJ_v {k : Int64} (h : (Jvm.Cond.eq t (.long k)).value args s none s [] = some true) : t.eval args s none [] s = some (.long k) := by
  cases ht : t.eval args s none [] s with
  | none => simp [Cond.value, ht] at h
  | some x => cases x <;> simp [Cond.value, ht, Term.eval] at h ⊢; exact h
theorem eqR_v {a : Addr} (hu : u.eval args s none [] s = some (.ref a)) (h : (Jvm.Cond.eq t u).value args s none s [] = some true) : t.eval args s none [] s = some (.ref a) := by
  cases ht : t.eval args s none [] s with
  | none => simp [Cond.value, ht] at h
  | some x => cases x <;> simp [Cond.value, ht, hu] at h ⊢; exact h
end Start
end Jvm.OwnKit

namespace Jvm.OwnKit
open Sem ClassFile Op Lib Jvm.Stand Jvm.Free Jvm.LawKit Jvm.RoadKit
section Tab
variable {args : Array Value} {s : State} {t : Term} {a : Addr} {c : Cell} {ty : FieldType} {i n : Nat} {C : Jvm.Cond}
theorem tab_len {N : Int32} (ht : t.eval args s none [] s = some (.ref a)) (A : Arr s s.heap a c ty) (h : (Jvm.Cond.eq (.length t) (.int N)).value args s none s [] = some true) (hn : N.toNatClampNeg = n) : c.slots.size = n ∧ n < 2 ^ 31 := by
  have e := eqI_v h
  have hat := A.fin (Vm.Alike.refl s.vm)
  simp only [Term.eval, ht, Option.bind_eq_bind, Option.bind_some, hat] at e
  split at e
  · rename_i q
    have e2 : c.slots.size.toInt32 = N := by simpa using e
    have e3 := len_toInt q
    rw [e2] at e3
    have e4 : N.toNatClampNeg = c.slots.size := by simp only [Int32.toNatClampNeg]; rw [e3]; rfl
    rw [hn] at e4
    exact ⟨e4.symm, e4 ▸ q⟩
  · cases e
theorem tab_all (ht : t.eval args s none [] s = some (.ref a)) (A : Arr s s.heap a c ty) (h : (Jvm.Cond.all t C).value args s none s [] = some true) (hi : i < c.slots.size) : C.value args s none s [i] = some true := Cond.all_elim ht (A.fin (Vm.Alike.refl _)) h i hi
theorem tab_or {D : Jvm.Cond} (h : (Jvm.Cond.or C D).value args s none s [i] = some true) (hc : C.value args s none s [i] = some false) : D.value args s none s [i] = some true := by
  simp only [Cond.value, hc] at h; exact h
theorem tab_lo {k : Int32} (hi : i < 2 ^ 31) (q : k.toInt ≤ i) : (Jvm.Cond.lt (.index 0) (.int k)).value args s none s [i] = some false := by
  have e := len_toInt hi
  simp only [Cond.value, Term.index_eval, Term.int_eval]
  exact congrArg some (decide_eq_false fun z => by rw [Int32.lt_iff_toInt_lt, e] at z; omega)
theorem tab_hi {k : Int32} (hi : i < 2 ^ 31) (q : i < k.toInt) : (Jvm.Cond.le (.int k) (.index 0)).value args s none s [i] = some false := by
  have e := len_toInt hi
  simp only [Cond.value, Term.index_eval, Term.int_eval]
  exact congrArg some (decide_eq_false fun z => by rw [Int32.le_iff_toInt_le, e] at z; omega)
theorem tab_el {v : Value} {j : Term} (ht : t.eval args s none [i] s = some (.ref a)) (A : Arr s s.heap a c ty) (hi : i < 2 ^ 31) (h : (Term.elem t (.index 0)).eval args s none [i] s = some v) : c.slots[i]? = some v := by
  have e := (elem_in h ht (Term.index_eval i) A.1).2
  have e3 := len_toInt hi
  rwa [show i.toInt32.toNatClampNeg = i by simp only [Int32.toNatClampNeg]; rw [e3]; rfl] at e
theorem tab_at {v : Value} {k : Int32} (ht : t.eval args s none [] s = some (.ref a)) (A : Arr s s.heap a c ty) (h : (Term.elem t (.int k)).eval args s none [] s = some v) (hk : k.toNatClampNeg = i) : c.slots[i]? = some v := by
  have e := (elem_in h ht rfl A.1).2
  rwa [hk] at e
theorem eqI_i {k : Int32} {t : Term} (h : (Jvm.Cond.eq t (.int k)).value args s none s [i] = some true) : t.eval args s none [i] s = some (.int k) := by
  cases ht : t.eval args s none [i] s with
  | none => simp [Cond.value, ht] at h
  | some x => cases x <;> simp [Cond.value, ht, Term.eval] at h ⊢; exact h
theorem tab_nat (hi : i < 2 ^ 31) : i.toInt32.toNatClampNeg = i := by
  have e3 := len_toInt hi
  simp only [Int32.toNatClampNeg]; rw [e3]; rfl
theorem tab_sub {t : Term} {k : Int32} (h : (Jvm.Cond.eq t (.sub (.index 0) (.int k))).value args s none s [i] = some true) : ∃ z, t.eval args s none [i] s = some (.int z) ∧ z = i.toInt32 - k := by
  cases ht : t.eval args s none [i] s with
  | none => simp [Cond.value, ht] at h
  | some x => cases x <;> simp [Cond.value, ht, Term.eval] at h ⊢; exact h
theorem tab_lng {t : Term} (h : (Jvm.Cond.eq (.op1 .i2l t) (.op2 .ladd (.op1 .i2l (.index 0)) (.long 4))).value args s none s [i] = some true) : ∃ z, t.eval args s none [i] s = some (.int z) ∧ z.toInt64 = i.toInt32.toInt64 + 4 := by
  cases ht : t.eval args s none [i] s with
  | none => simp [Cond.value, ht, Term.eval] at h
  | some x => cases x <;> simp [Cond.value, ht, Term.eval, Unary.apply, Binary.apply] at h ⊢; exact h
theorem tab_neg {z k : Int32} {n : Int} {P : Prop} (hi : i < 2 ^ 31) (e : z = i.toInt32 - k) (hk : k.toInt = n) (h : 0 ≤ (i : Int) - n ∧ 0 ≤ n) (hP : P) : z = -1 ↔ ¬ P := by
  have e3 := len_toInt hi; have e4 := c_isub i.toInt32 k; have r := rng32 (i.toInt32 - k); have m : (-1 : Int32).toInt = -1 := by decide
  constructor
  · intro q; rw [q] at e; rw [← e, m, e3, hk] at e4; omega
  · intro q; exact absurd hP q
theorem tab_neg4 {z : Int32} {P : Prop} (hi : i < 2 ^ 31) (e : z.toInt64 = i.toInt32.toInt64 + 4) (hP : P) : z = -1 ↔ ¬ P := by
  have e3 := len_toInt hi; have e4 := c_ladd i.toInt32.toInt64 4; have m : (-1 : Int32).toInt64.toInt = -1 := by decide
  have m4 : (4 : Int64).toInt = 4 := by decide
  constructor
  · intro q; rw [q] at e; rw [← e, m, c_i2l, e3, m4] at e4; omega
  · intro q; exact absurd hP q
end Tab
end Jvm.OwnKit

namespace Jvm.OwnKit
open Sem ClassFile Op Lib Jvm.Stand Jvm.Free Jvm.LawKit Jvm.RoadKit
section Calls
variable {p : Program} {l : Launch} {e : Env} {R : Room} {s : State} {m : MethodId} {args : Array Value} {below : List Frame} {meth : Method} {c : Code} {T : State} {locs : List Loc} {cells slots : Nat} {Z : State} {a0 : Array Value} {h h' : Heap} {own nm : String} {bytes : ByteArray} {maxL : Nat} {ret : Option FieldType} {P : Outcome → State → Prop} {pc pc' : Nat} {Ls Ls' : Array Slot} {rest : List Value}
theorem c_private (B : Ctx p s m meth c Z own nm bytes maxL ret) (X : Stand p l e R s m args below meth c T locs cells slots) {y : MethodName} {bs : ByteArray} {mx : Nat} {rt : Option FieldType} {rm : Room} {i W : Nat} {argsL under : List Value} {Q : Option Value → Heap → List Loc → Prop} {st : List Value} {n0 : Nat} {b : Addr} (eT : T.heap = h) (w1 : (Jvm.Cond.methodLink own i y).before a0 Z = true) (wi : (Jvm.Cond.instantiable y.cls n0).before a0 Z = true) (wp : (Jvm.Cond.privateMethod y).before a0 Z = true) (w4 : (Jvm.Cond.instanceMethod y).before a0 Z = true) (wc : (Jvm.Cond.code y bs mx rt).before a0 Z = true) (wz : (Jvm.Cond.initialized y.cls).before a0 Z = true) (hy : y.cls ≠ "java/lang/invoke/MethodHandle" ∧ y.cls ≠ "java/lang/invoke/VarHandle") (hM : OMeets l Z y bs mx rt [] rm (.ref b :: argsL).toArray h Q) (E : Exa Z h b y.cls) (hlen : ∀ sig, parseMethodDescriptor y.desc = some sig → argsL.length = sig.parameters.length) (hst : st = argsL.reverse ++ .ref b :: under) (hW : (under.map fun v => v.category).sum = W) (hf : rm.frames + 1 ≤ R.frames) (hlo : W + (mx + 11) + rm.locals ≤ R.locals) (hce : cells + rm.cells ≤ R.cells) (hsl : slots + rm.slots ≤ R.slots) (hsz : Ls.size = maxL) (hd : decode bytes pc = .ok (.invokevirtual i, 3)) (hp : pc + 3 = pc') (k : ∀ v T' L, Stand p l e R s m args below meth c T' (locs ++ L) (cells + rm.cells) (slots + rm.slots) → Q v T'.heap L → Go p e below P (T'.setTop (mkF m pc' Ls (v.toList ++ under)))) : Go p e below P (T.setTop (mkF m pc Ls st)) := by
  subst hp hst
  obtain ⟨cq, qa, qc⟩ := E.cell
  obtain ⟨ci, ki, i1, i2, -, i4, -, -⟩ := Cond.instantiable_spec (mvT (args := args) B.2.2.2.2.2.2.2 wi)
  have hni : ki.isInterface = false := by
    cases hi : ki.isInterface
    · rfl
    · simp [hi] at i4
  have hpr := Cond.privateMethod_at (mvP (args := args) B.2.2.2.2.2.2.2 wp)
  obtain ⟨v, _, ⟨T', L', k', n'⟩, -, X', ⟨Lc, hQ, l', y', z'⟩, st'⟩ := X.privateBack B.1 (y := y) B.2.2.2.1 (mvT B.2.2.2.2.2.2.2 w1) (mvT B.2.2.2.2.2.2.2 w4) (selects_self_of_private i1 i2 hni hpr (mvT B.2.2.2.2.2.2.2 w4) hy) hpr (mvT B.2.2.2.2.2.2.2 wc) hy (backOf (W := W) hM B.2.2.2.2.2.2.2 wc wz hf hlo) (g := mkF m pc Ls (argsL.reverse ++ .ref b :: under)) rfl (by rw [B.2.2.1]; exact hsz) (Steps.refl _) (by rw [eT]; exact qa) qc (argsL := argsL) (rest := under) hlen rfl (by show 2 * 0 + _ ≤ _; rw [Nat.mul_zero, Nat.zero_add]; exact Nat.le_of_eq hW) (hb B.2.1 hd) (fun _ _ => ⟨rfl, eT, hce, hsl⟩)
  dsimp only [Pt.U, Pt.locs, Pt.cells, Pt.slots] at X' l' y' z' st' hQ
  subst l' y' z'
  exact Go.on (fun t q => st'.trans q) (k v T' Lc X' hQ)
theorem p_private (B : Ctx p s m meth c Z own nm bytes maxL ret) (X : Stand p l e R s m args below meth c T locs cells slots) {y : MethodName} {bs : ByteArray} {mx : Nat} {rt : Option FieldType} {rm : Room} {i W : Nat} {argsL under : List Value} {st : List Value} {n0 : Nat} {b : Addr} {r : Option Value} (eT : T.heap = h) (w1 : (Jvm.Cond.methodLink own i y).before a0 Z = true) (wi : (Jvm.Cond.instantiable y.cls n0).before a0 Z = true) (wp : (Jvm.Cond.privateMethod y).before a0 Z = true) (w4 : (Jvm.Cond.instanceMethod y).before a0 Z = true) (wc : (Jvm.Cond.code y bs mx rt).before a0 Z = true) (wz : (Jvm.Cond.initialized y.cls).before a0 Z = true) (hy : y.cls ≠ "java/lang/invoke/MethodHandle" ∧ y.cls ≠ "java/lang/invoke/VarHandle") (hM : OMeets l Z y bs mx rt [] rm (.ref b :: argsL).toArray h (PureQ r h)) (E : Exa Z h b y.cls) (hlen : ∀ sig, parseMethodDescriptor y.desc = some sig → argsL.length = sig.parameters.length) (hst : st = argsL.reverse ++ .ref b :: under) (hW : (under.map fun v => v.category).sum = W) (hf : rm.frames + 1 ≤ R.frames) (hlo : W + (mx + 11) + rm.locals ≤ R.locals) (hce : rm.cells = 0) (hsl : rm.slots = 0) (hc0 : cells ≤ R.cells) (hs0 : slots ≤ R.slots) (hsz : Ls.size = maxL) (hd : decode bytes pc = .ok (.invokevirtual i, 3)) (hp : pc + 3 = pc') (k : ∀ T', Stand p l e R s m args below meth c T' locs cells slots → T'.heap = h → Go p e below P (T'.setTop (mkF m pc' Ls (r.toList ++ under)))) : Go p e below P (T.setTop (mkF m pc Ls st)) := by
  refine c_private B X eT w1 wi wp w4 wc wz hy hM E hlen hst hW hf hlo (by omega) (by omega) hsz hd hp ?_
  intro v T' L X' hQ
  obtain ⟨rfl, rfl, e'⟩ := hQ
  rw [hce, hsl, List.append_nil] at X'
  exact k T' X' e'
theorem c_iface (B : Ctx p s m meth c Z own nm bytes maxL ret) (X : Stand p l e R s m args below meth c T locs cells slots) {y z : MethodName} {bs : ByteArray} {mx : Nat} {rt : Option FieldType} {rm : Room} {i W : Nat} {argsL under : List Value} {Q : Option Value → Heap → List Loc → Prop} {st : List Value} {C : String} {cnt : Nat} {b : Addr} (eT : T.heap = h) (w1 : (Jvm.Cond.methodLink own i y).before a0 Z = true) (w2 : (Jvm.Cond.declares y).before a0 Z = true) (w3 : (Jvm.Cond.interfaceMethod y.cls y.cls y.name y.desc).before a0 Z = true) (w4 : (Jvm.Cond.selects C y z).before a0 Z = true) (w5 : (Jvm.Cond.instanceMethod z).before a0 Z = true) (w6 : (Jvm.Cond.publicMethod z).before a0 Z = true) (w7 : (Jvm.Cond.unhidden C y.name y.desc).before a0 Z = true) (w8 : (Jvm.Cond.castable C y.cls).before a0 Z = true) (wc : (Jvm.Cond.code z bs mx rt).before a0 Z = true) (wz : (Jvm.Cond.initialized z.cls).before a0 Z = true) (hy : y.cls ≠ "java/lang/invoke/MethodHandle" ∧ y.cls ≠ "java/lang/invoke/VarHandle") (hM : OMeets l Z z bs mx rt [] rm (.ref b :: argsL).toArray h Q) (E : Exa Z h b C) (hlen : ∀ sig, parseMethodDescriptor y.desc = some sig → argsL.length = sig.parameters.length) (hst : st = argsL.reverse ++ .ref b :: under) (hW : (under.map fun v => v.category).sum = W) (hf : rm.frames + 1 ≤ R.frames) (hlo : W + (mx + 11) + rm.locals ≤ R.locals) (hce : cells + rm.cells ≤ R.cells) (hsl : slots + rm.slots ≤ R.slots) (hsz : Ls.size = maxL) (hd : decode bytes pc = .ok (.invokeinterface i cnt, 5)) (hp : pc + 5 = pc') (k : ∀ v T' L, Stand p l e R s m args below meth c T' (locs ++ L) (cells + rm.cells) (slots + rm.slots) → Q v T'.heap L → Go p e below P (T'.setTop (mkF m pc' Ls (v.toList ++ under)))) : Go p e below P (T.setTop (mkF m pc Ls st)) := by
  subst hp hst
  obtain ⟨cq, kq, qa, qb, qc⟩ := isOf B.2.2.2.2.2.2.2 eT E
  obtain ⟨v, _, ⟨T', L', k', n'⟩, -, X', ⟨Lc, hQ, l', y', z'⟩, st'⟩ := X.interfaceBack B.1 (xi := y) (y := z) B.2.2.2.1 (mvT B.2.2.2.2.2.2.2 w1) (mvT B.2.2.2.2.2.2.2 w2) (mvT B.2.2.2.2.2.2.2 w3 (by simp [Cond.onTables, Cond.keepsFace, Cond.keeps, Cond.steady, Cond.faceAtom, hy.1, hy.2])) (mvT B.2.2.2.2.2.2.2 w4) (mvT B.2.2.2.2.2.2.2 w5) (mvT B.2.2.2.2.2.2.2 w6) (mvT B.2.2.2.2.2.2.2 w7) (mvT B.2.2.2.2.2.2.2 w8) hy (backOf (W := W) hM B.2.2.2.2.2.2.2 wc wz hf hlo) qa qb qc (g := mkF m pc Ls (argsL.reverse ++ .ref b :: under)) rfl (by rw [B.2.2.1]; exact hsz) (Steps.refl _) (argsL := argsL) (rest := under) hlen rfl (by show 2 * 0 + _ ≤ _; rw [Nat.mul_zero, Nat.zero_add]; exact Nat.le_of_eq hW) (hb B.2.1 hd) (fun _ _ => ⟨rfl, eT, hce, hsl⟩)
  dsimp only [Pt.U, Pt.locs, Pt.cells, Pt.slots] at X' l' y' z' st' hQ
  subst l' y' z'
  exact Go.on (fun t q => st'.trans q) (k v T' Lc X' hQ)
theorem p_iface (B : Ctx p s m meth c Z own nm bytes maxL ret) (X : Stand p l e R s m args below meth c T locs cells slots) {y z : MethodName} {bs : ByteArray} {mx : Nat} {rt : Option FieldType} {rm : Room} {i W : Nat} {argsL under : List Value} {st : List Value} {C : String} {cnt : Nat} {b : Addr} {r : Option Value} (eT : T.heap = h) (w1 : (Jvm.Cond.methodLink own i y).before a0 Z = true) (w2 : (Jvm.Cond.declares y).before a0 Z = true) (w3 : (Jvm.Cond.interfaceMethod y.cls y.cls y.name y.desc).before a0 Z = true) (w4 : (Jvm.Cond.selects C y z).before a0 Z = true) (w5 : (Jvm.Cond.instanceMethod z).before a0 Z = true) (w6 : (Jvm.Cond.publicMethod z).before a0 Z = true) (w7 : (Jvm.Cond.unhidden C y.name y.desc).before a0 Z = true) (w8 : (Jvm.Cond.castable C y.cls).before a0 Z = true) (wc : (Jvm.Cond.code z bs mx rt).before a0 Z = true) (wz : (Jvm.Cond.initialized z.cls).before a0 Z = true) (hy : y.cls ≠ "java/lang/invoke/MethodHandle" ∧ y.cls ≠ "java/lang/invoke/VarHandle") (hM : OMeets l Z z bs mx rt [] rm (.ref b :: argsL).toArray h (PureQ r h)) (E : Exa Z h b C) (hlen : ∀ sig, parseMethodDescriptor y.desc = some sig → argsL.length = sig.parameters.length) (hst : st = argsL.reverse ++ .ref b :: under) (hW : (under.map fun v => v.category).sum = W) (hf : rm.frames + 1 ≤ R.frames) (hlo : W + (mx + 11) + rm.locals ≤ R.locals) (hce : rm.cells = 0) (hsl : rm.slots = 0) (hc0 : cells ≤ R.cells) (hs0 : slots ≤ R.slots) (hsz : Ls.size = maxL) (hd : decode bytes pc = .ok (.invokeinterface i cnt, 5)) (hp : pc + 5 = pc') (k : ∀ T', Stand p l e R s m args below meth c T' locs cells slots → T'.heap = h → Go p e below P (T'.setTop (mkF m pc' Ls (r.toList ++ under)))) : Go p e below P (T.setTop (mkF m pc Ls st)) := by
  refine c_iface B X eT w1 w2 w3 w4 w5 w6 w7 w8 wc wz hy hM E hlen hst hW hf hlo (by omega) (by omega) hsz hd hp ?_
  intro v T' L X' hQ
  obtain ⟨rfl, rfl, e'⟩ := hQ
  rw [hce, hsl, List.append_nil] at X'
  exact k T' X' e'
end Calls
end Jvm.OwnKit

@@BLOCK:LamKit.lean.txt@@

namespace Jvm.OwnKit
open Sem ClassFile Op Lib Jvm.Stand Jvm.Free Jvm.LawKit Jvm.RoadKit Jvm.Lambda
section Lam
variable {p : Program} {l : Launch} {e : Env} {R : Room} {s : State} {m : MethodId} {args : Array Value} {below : List Frame} {meth : Method} {c : Code} {T : State} {locs : List Loc} {cells slots : Nat} {Z : State} {a0 : Array Value} {h h' : Heap} {own nm : String} {bytes : ByteArray} {maxL : Nat} {ret : Option FieldType} {P : Outcome → State → Prop} {pc pc' : Nat} {Ls Ls' : Array Slot} {rest : List Value}
/-- as OMeets.of, with the method's own number -/
theorem OMeets.ofN {y : MethodName} {ws : List Jvm.Cond} {rm : Room} {as : Array Value} {h0 : Heap} {Q : Option Value → Heap → List Loc → Prop} (hpn : plainFor y = true) (ls : Array Slot) (hent : ∀ m, entryFrame m as maxL = mkF m 0 ls [])
    (body : ∀ p e s m below meth c s₁, Ctx p s m meth c Z y.cls y.name bytes maxL ret → s.methodNamed? y = some m → Stand p l e rm s m as below meth c s₁ [] 0 0 → s₁.heap = h0 → Go p e below (OEnds s Q rm.cells rm.slots) (s₁.setTop (mkF m 0 ls []))) : OMeets l Z y bytes maxL ret ws rm as h0 Q := by
  refine MetFree.of_bodySF hpn hisR ?_
  intro p e s m args below meth c s₁ Bd hml0 hP hK
  obtain ⟨rfl, hZ, hh⟩ := hP
  have e0 : s₁.heap = h0 := by rw [← hh, Bd.state]; rfl
  have X0 := Stand.of_body Bd
  have B : Ctx p s m meth c Z y.cls y.name bytes maxL ret := ⟨Bd.exec, Bd.bytes, hml0, findClass_of_methodNamed Bd.named, (name_of_methodNamed Bd.named Bd.method).1, Bd.returns, Bd.notSynchronized, hZ⟩
  obtain ⟨t, o, h1, h2, h3, h4⟩ := body p e s m below meth c s₁ B Bd.named X0 e0
  exact ⟨t, o, castTop (hent m) h1, h2, h3, h4⟩
/-- an entry that holds a record keeps it -/
theorem res39 {vm : Vm} (hW : Z.Warmed39 vm) {d : ClassId} {k : Class} {i : Nat} {r : Resolved} (h1 : Z.vm.classes[d]? = some k) (h2 : k.resolved[i]? = some (some r)) : ∃ k' : Class, vm.classes[d]? = some k' ∧ k'.resolved[i]? = some (some r) ∧ k'.fields = k.fields := by
  obtain ⟨k', q1, q2, -, q4, -⟩ := hW.2.2.2 _ _ h1
  refine ⟨k', q1, ?_, by rw [q2]⟩
  rcases q4 i with h | ⟨h, -⟩
  · rw [h]; exact h2
  · rw [h2] at h; cases h
theorem named39 {s' : State} (hW : Z.Warmed39 s'.vm) {x : MethodName} {r : MethodId} (h : Z.methodNamed? x = some r) : s'.methodNamed? x = some r := by
  have q : (Z.setVm s'.vm).methodNamed? x = some r := by rw [State.methodNamed?_setVm hW.alike]; exact h
  exact q
/-- the function object at f: of class cK, it holds b -/
def FN (h : Heap) (f : Addr) (cK : ClassId) (b : Addr) : Prop := ∃ cell : Cell, h[f]? = some cell ∧ cell.cls = cK ∧ cell.vm = .none ∧ cell.slots[0]? = some (.ref b)
theorem FN.keep {f b : Addr} {cK : ClassId} {ws : List Addr} (F : FN h f cK b) (K : Keep h h' ws) (q : f ∉ ws) : FN h' f cK b := by
  obtain ⟨cell, h1, r⟩ := F; exact ⟨cell, K.2.1 _ _ h1 q, r⟩
theorem FN.lt {f b : Addr} {cK : ClassId} (F : FN h f cK b) : f < h.size := by obtain ⟨cell, h1, -⟩ := F; exact (Array.getElem?_eq_some_iff.mp h1).1
theorem s_site (B : Ctx p s m meth c Z own nm bytes maxL ret) (X : Stand p l e R s m args below meth c T locs cells slots) {x : MethodName} {i0 fi W : Nat} {σ : Lambda.Shape} {b : Addr} {C : String} (eT : T.heap = h) (hnm : s.methodNamed? x = some m) (w : (Jvm.Cond.lambdaSite x pc i0 σ).before a0 Z = true) (hcap : σ.captured = [.object C]) (hok : Jvm.LamKit.capOK σ x.cls fi 0 = true) (wO : (Jvm.Cond.instantiable "java/lang/Object" 0).before a0 Z = true) (hW : (rest.map fun v => v.category).sum = W) (hlo : W + 1 + 3072 ≤ R.locals) (hc : cells + 1 ≤ R.cells) (hl : slots + 1 ≤ R.slots) (hsz : Ls.size = maxL) (hd : decode bytes pc = .ok (.invokedynamic i0, 5)) (hp : pc + 5 = pc')
    (k : ∀ T' h' f cK, f = h.size → Stand p l e R s m args below meth c T' locs (cells + 1) (slots + 1) → T'.heap = h' → Ext h h' → Jvm.LamKit.Made Z x.cls σ cK → FN h' f cK b → Go p e below P (T'.setTop (mkF m pc' Ls (.ref f :: rest)))) : Go p e below P (T.setTop (mkF m pc Ls (.ref b :: rest))) := by
  subst hp eT
  have hs : Z.Warmed39 s.vm := B.2.2.2.2.2.2.2
  obtain ⟨cK, one, hat⟩ := Cond.lambdaSite_spec w
  obtain ⟨mD, kD, cfD, j0, p0, lk, hmD, hkD, hcfD, hsh, -, hfind, hmade, hcan, hll⟩ := State.lambdaAt?_spec hat
  obtain ⟨kD2, hkD2, hnameD⟩ := className_of_methodNamed hmD
  cases hkD.symm.trans hkD2
  have hmm : mD = m := Option.some.inj ((named39 hs hmD).symm.trans hnm)
  rcases hll with ⟨a, cell, -, -, hc0, -⟩ | ⟨hlk, -, -⟩
  · rw [hcap] at hc0; cases hc0
  · obtain ⟨bb, nt, desc, site, g1, g2, g3, g4⟩ := shapeOf?_site hsh
    obtain ⟨kc, fld, hkc, hkind, hty, -⟩ := Jvm.LamKit.made_cap hok hkD hnameD hmade (Jvm.LamKit.noFields wO (State.WarmedH.refl Z))
    obtain ⟨kD', hkD', eD⟩ := hs.alike.2.2 _ _ hkD
    obtain ⟨kc', hkc', ec⟩ := hs.alike.2.2 _ _ hkc
    have hty' : kc'.instanceTypes = #[.object C] := by rw [ec]; show kc.instanceTypes = _; rw [hty, hcap]
    have hkind' : kc'.kind = .ordinary := by rw [ec]; exact hkind
    have hz : ((kc'.instanceTypes.toList.zip [Value.ref b]).map fun (t, v) => narrow t v) = [Value.ref b] := by rw [hty']; rfl
    have hw : e.platform.lambdaLinkWords = 3072 := by rw [X.admits.platform]
    rw [hmm] at hkD' hfind
    rw [hlk] at hfind
    have q := X.lambdaMakes B.1 (g := mkF m pc Ls (.ref b :: rest)) rfl (by rw [B.2.2.1]; exact hsz) (hb B.2.1 hd) (vals := [.ref b]) (rest := rest) hkD' (by rw [eD]; exact hfind) (by rw [eD]; exact hcfD) g1 g2 (parseLong_of_parse g3) (by rw [g4, hcap]; rfl) rfl hkc' (by rw [hw]; show 2 * 0 + (1 + (rest.map fun v => v.category).sum) + 3072 ≤ R.locals; omega) hc (by rw [hz]; exact hl)
      (fun i v hv => by
        rw [hz] at hv
        match i, hv with
        | 0, hv =>
          cases hv
          simp [State.fitsSlot, State.slotType?, hkc', hkind', hty', fits]
        | i + 1, hv => simp at hv)
    rw [hz] at q
    refine Go.on q.2 (k _ _ _ cK rfl q.1 rfl (ext_of fun a q => ?_) ⟨_, kD, hkD, hnameD, hmade, hcan⟩ ⟨{ cls := cK, slots := #[.ref b], vm := .none }, ?_, rfl, rfl, rfl⟩)
    · exact Array.getElem?_push_lt q |>.trans (Array.getElem?_eq_getElem q).symm
    · show (T.heap.push _)[T.heap.size]? = _
      simp
theorem c_lam (B : Ctx p s m meth c Z own nm bytes maxL ret) (X : Stand p l e R s m args below meth c T locs cells slots) {xi y : MethodName} {host : String} {σ : Lambda.Shape} {bs : ByteArray} {mx n0 : Nat} {rm : Room} {i cnt W idx ci fi : Nat} {under : List Value} {Q : Option Value → Heap → List Loc → Prop} {st : List Value} {fcode : ByteArray} {f b : Addr} {cK : ClassId} (eT : T.heap = h)
    (w1 : (Jvm.Cond.methodLink own i xi).before a0 Z = true) (w2 : (Jvm.Cond.declares xi).before a0 Z = true) (w3 : (Jvm.Cond.interfaceMethod xi.cls xi.cls xi.name xi.desc).before a0 Z = true) (wp : (Jvm.Cond.privateMethod y).before a0 Z = true) (w4 : (Jvm.Cond.instanceMethod y).before a0 Z = true) (wc : (Jvm.Cond.code y bs mx (some .int)).before a0 Z = true) (wz : (Jvm.Cond.initialized y.cls).before a0 Z = true) (wi : (Jvm.Cond.instantiable y.cls n0).before a0 Z = true) (wO : (Jvm.Cond.instantiable "java/lang/Object" 0).before a0 Z = true) (hmd : Jvm.LamKit.Made Z host σ cK) (hfn : FN h f cK b) (E : Exa Z h b y.cls) (hxi : xi.cls = σ.iface ∧ xi.name = σ.name ∧ xi.desc = σ.sam.toString) (hy : y.cls = σ.implClass ∧ y.name = σ.implName ∧ y.desc = σ.implDesc.toString)
    (hpx : xi.cls ≠ "java/lang/invoke/MethodHandle" ∧ xi.cls ≠ "java/lang/invoke/VarHandle") (hpy : y.cls ≠ "java/lang/invoke/MethodHandle" ∧ y.cls ≠ "java/lang/invoke/VarHandle") (hok : Jvm.LamKit.fwdOK σ host fcode 1 (some .int) idx ci = true) (hco : Jvm.LamKit.capOK σ host fi 0 = true)
    (f0 : decode fcode 0 = .ok (.aload_n 0, 1)) (f1 : decode fcode 1 = .ok (.getfield fi, 3)) (f4 : decode fcode 4 = .ok (.invokevirtual idx, 3)) (f7 : decode fcode 7 = .ok (.ireturn, 1))
    (hlx : ∀ sig, parseMethodDescriptor xi.desc = some sig → ([] : List Value).length = sig.parameters.length) (hly : ∀ sig, parseMethodDescriptor y.desc = some sig → ([] : List Value).length = sig.parameters.length)
    (hM : OMeets l Z y bs mx (some .int) [] rm #[.ref b] h Q) (hout : ∀ v h L, Q v h L → ∃ z, v = some (.int z))
    (hst : st = .ref f :: under) (hW : (under.map fun v => v.category).sum = W) (hf : rm.frames + 2 ≤ R.frames) (hlo : W + (1 + 11) + ((mx + 11) + rm.locals) ≤ R.locals) (hce : cells + rm.cells ≤ R.cells) (hsl : slots + rm.slots ≤ R.slots) (hsz : Ls.size = maxL) (hd : decode bytes pc = .ok (.invokeinterface i cnt, 5)) (hp : pc + 5 = pc') (k : ∀ v T' L, Stand p l e R s m args below meth c T' (locs ++ L) (cells + rm.cells) (slots + rm.slots) → Q v T'.heap L → Go p e below P (T'.setTop (mkF m pc' Ls (v.toList ++ under)))) : Go p e below P (T.setTop (mkF m pc Ls st)) := by
  subst hp hst eT
  have hs : Z.Warmed39 s.vm := B.2.2.2.2.2.2.2
  have A := hs.alike
  obtain ⟨cell, hcell, hcls, hvm, hslot⟩ := hfn
  subst hcls
  obtain ⟨kK, methk, hkK, hmk, hpub, habs, hsel⟩ := Jvm.LamKit.madeSelects hmd hok w3 hxi
  obtain ⟨r0, r, hn, hrm, hstR, hsigR⟩ := Cond.declares_spec w2
  obtain ⟨cL, kL, r1, hcL, hkL, hiL, -, -⟩ := Cond.interfaceMethod_spec w3
  have hr0cls : r0.cls = cL := Option.some.inj ((findClass_of_methodNamed hn).symm.trans hcL)
  obtain ⟨hasg, hsel', hway⟩ := hsel r0 r hn hrm
  obtain ⟨kL', hkL', eL⟩ := A.2.2 _ _ hkL
  obtain ⟨kK', hkK', eK⟩ := A.2.2 _ _ hkK
  obtain ⟨vm₁, X₁, hstep₁⟩ := X.invokeinterface B.1 B.2.2.2.1 (mvT hs w1) (named39 hs hn) (by rw [A.method?]; exact hrm) hstR (by rw [hr0cls]; exact hkL') (by rw [eL]; exact hiL) hpx (a := f) (cell := cell) (kcell := kK') hcell (fun z q => by rw [hvm] at q; cases q) hkK' (by rw [A.assignable]; exact hasg)
    (m' := ⟨cell.cls, 1⟩) (meth' := methk) (by rw [Launch.admits_selectMethod X.admits, A.selectMethod]; exact hsel') (by rw [A.method?]; exact hmk) (by simp only [A.superclasses, A.declaredIn]; exact hway) hpub habs (g := mkF m pc Ls (.ref f :: under)) rfl (argsL := []) (rest := under) (hlx _ hsigR) rfl (hb B.2.1 hd)
  have hW₁ : Z.Warmed39 (T.setVm vm₁).vm := wtrans hs X₁.warmed
  obtain ⟨d, dk, hdd, hdn, hmade, -⟩ := hmd
  obtain ⟨kF, tk, file, methF, ck, toy, t, nt, hkF, hpn, hfile, hidx, hnt, hmF, hck, hbytes, hml, hlk, -, hret, htoy, htk, hlook, hready, hclsR⟩ := Jvm.LamKit.made_static hok hdd hdn hmade
  obtain ⟨kcp, fld, hkcp, hkindp, htyp, hfr, hfst, hfsl⟩ := Jvm.LamKit.made_cap hco hdd hdn hmade (Jvm.LamKit.noFields wO (State.WarmedH.refl Z))
  obtain ⟨mT, methT, hmT, hmethT, hstT, habT⟩ := Cond.instanceMethod_spec w4
  obtain ⟨methT', cT, hmT2, hcT, -, hlocT, -, -, -, hsigT⟩ := Cond.code_spec hmT wc
  cases hmethT.symm.trans hmT2
  obtain ⟨y1, y2, y3⟩ := hy
  have htm : t = mT := by
    have h1 : Z.methodFound? y.cls y.name y.desc = some mT := State.methodFound?_of_named hmT hpy
    rw [y1, y2, y3] at h1
    simp only [State.methodFound?, htoy, htk, Option.bind_eq_bind, Option.bind_some] at h1
    rw [hlook] at h1
    exact Option.some.inj h1
  subst htm
  have htoy2 : t.cls = toy := Option.some.inj ((findClass_of_methodNamed hmT).symm.trans (by rw [y1]; exact htoy))
  obtain ⟨ci', ki, i1, i2, -, i4, -, -⟩ := Cond.instantiable_spec wi
  have hni : tk.isInterface = false := by
    rw [y1] at i1
    cases htoy.symm.trans i1
    cases htk.symm.trans i2
    cases hi : tk.isInterface
    · rfl
    · simp [hi] at i4
  have hpriv := Cond.privateMethod_at wp
  obtain ⟨kF1, hkF1, eF1⟩ := hW₁.alike.2.2 _ _ hkF
  obtain ⟨tk1, htk1, et1⟩ := hW₁.alike.2.2 _ _ htk
  obtain ⟨kd2, hkd2, hnamed2⟩ := className_of_methodNamed hmT
  have hpk : (T.setVm vm₁).plainMethod ⟨cell.cls, 1⟩ := State.plainMethod.of_name (fun k' hk' => by cases hkF1.symm.trans hk'; rw [eF1]; exact hpn)
  obtain ⟨Y₀, hin⟩ := X₁.into (g := mkF m pc Ls under) rfl (by rw [B.2.2.1]; exact hsz) (hb B.2.1 hd) (mk := ⟨cell.cls, 1⟩) (methk := methF) (ck := ck) #[.ref f] (R' := { frames := rm.frames + 1, cells := rm.cells, slots := rm.slots, locals := (mx + 11) + rm.locals }) (by rw [hW₁.alike.method?]; exact hmF) hck hlk hpk hf (by rw [hml]; show 2 * 0 + _ + _ + _ ≤ _; rw [Nat.mul_zero, Nat.zero_add, hW]; exact hlo) hce hsl
  rw [hml, show entryFrame ⟨cell.cls, 1⟩ #[.ref f] 1 = mkF ⟨cell.cls, 1⟩ 0 #[.val (.ref f)] [] from by first | rfl | (simp [entryFrame, mkF, argsToLocals, Value.category]; done)] at Y₀ hin
  generalize hU : ((T.setVm vm₁).setTop (mkF m pc Ls under)).pushFrame (.java (mkF ⟨cell.cls, 1⟩ 0 #[.val (.ref f)] [])) = U at Y₀ hin
  have hvmU : U.vm = (T.setVm vm₁).vm := by rw [← hU]; rfl
  have hheapU : U.heap = T.heap := by rw [← hU]; rfl
  have hWU : Z.Warmed39 U.vm := by rw [hvmU]; exact hW₁
  generalize hs' : (T.setVm vm₁).calling (mkF m pc Ls under) ⟨cell.cls, 1⟩ #[.ref f] = s' at Y₀
  have hZs : Z.Warmed39 s'.vm := by rw [← hs']; exact hW₁
  obtain ⟨v, ⟨U', ls, cc, sl⟩, Y₁, ⟨L, hQ, hl', hc', hn'⟩, hsteps⟩ := (backOf (W := 0) (len := 3) hM hZs wc wz (R := { frames := rm.frames + 1, cells := rm.cells, slots := rm.slots, locals := (mx + 11) + rm.locals }) (Nat.le_refl _) (by show 0 + (mx + 11) + rm.locals ≤ (mx + 11) + rm.locals; omega)) ⟨cell.cls, 1⟩ methF ck ⟨U, [], 0, 0⟩ (mkF ⟨cell.cls, 1⟩ 4 #[.val (.ref f)] []) (.invokevirtual idx) t #[.ref b] Y₀ rfl (by rw [hml]; rfl) (by rw [hbytes]; exact f4) (Nat.le_refl _) (named39 hWU hmT) ⟨rfl, hheapU, by show 0 + rm.cells ≤ rm.cells; omega, by show 0 + rm.slots ≤ rm.slots; omega⟩
  dsimp only [Pt.U, Pt.locs, Pt.cells, Pt.slots] at Y₁ hQ hl' hc' hn' hsteps
  subst hl' hc' hn'
  obtain ⟨z, rfl⟩ := hout _ _ _ hQ
  obtain ⟨fs, hleave, -, hended, hWe, hsame⟩ := Y₁.leave (v := some (.int z)) (fun q => by rw [hret] at q; cases q) hlk
  subst hs'
  obtain ⟨T', X', -, -, ht'⟩ := X₁.outOf (g := mkF m pc Ls under) rfl (hb B.2.1 hd) hended hWe hsame
  have hheap' : T'.heap = U'.heap := by
    have q : (U'.setFrames fs).heap = (T'.setTop { (mkF m pc Ls under) with pc := pc + 5, stack := (some (Value.int z)).toList ++ under }).heap := congrArg State.heap ht'
    exact q.symm
  have ht2 : T'.setTop (mkF m (pc + 5) Ls (.int z :: under)) = U'.setFrames fs := ht'.symm
  suffices hgo : ∀ acts, Steps p.tables e below (doInvoke e ((T.setVm vm₁).setTop (mkF m pc Ls under)) acts ⟨cell.cls, 1⟩ #[.ref f]).1 (T'.setTop (mkF m (pc + 5) Ls (.int z :: under))) from
    Go.on (fun target hk => hstep₁ _ fun acts => Steps.trans (hgo acts) hk) (k (some (.int z)) T' _ (by simpa using X') (by rw [hheap']; exact hQ))
  intro acts
  rw [hin acts, ht2]
  refine Steps.weaken (mid := [.java (mkF m pc Ls under)]) ?_
  show Steps p.tables e (.java (mkF m pc Ls under) :: below) (U.setTop (mkF ⟨cell.cls, 1⟩ 0 #[.val (.ref f)] [])) _
  refine XS.aloadN Y₀.here B.1 rfl (by rw [hbytes]; exact f0) rfl rfl ?_
  obtain ⟨kR, kI, kRc, ra, rb, rc, rd⟩ := hfr
  obtain ⟨kR1, ra1, rb1, rfl1⟩ := res39 hWU ra rb
  cases ra.symm.trans rc
  have hfr' : U.vm.fieldReady cell.cls fi cell.cls fld := ⟨kR1, kI, kR1, ra1, rb1, ra1, by rw [rfl1]; exact rd⟩
  have d1 : decode ck.code 1 = .ok (.getfield fi, 3) := by rw [hbytes]; exact f1
  have d4 : decode ck.code 4 = .ok (.invokevirtual idx, 3) := by rw [hbytes]; exact f4
  show Steps p.tables e _ (U.setTop (mkF ⟨cell.cls, 1⟩ 1 #[.val (.ref f)] [.ref f])) _
  have hAt : At U (mkF ⟨cell.cls, 1⟩ 1 #[.val (.ref f)] [.ref f]).method ck (.java (mkF m pc Ls under) :: below) := Y₀.here
  jvm_step hAt [B.1, d1, getfield.wp_ready (e := e) (s := U) (f := mkF ⟨cell.cls, 1⟩ 1 #[.val (.ref f)] [.ref f]) (c := cell.cls) (field := fld) (a := f) (rest := []) (cell := cell) (v := .ref b) Y₀.here.top hfr' hfst rfl (by rw [hheapU]; exact hcell) (by rw [hvm]; decide) (by rw [hfsl]; exact hslot)]
  show Steps p.tables e _ (U.setTop (mkF ⟨cell.cls, 1⟩ 4 #[.val (.ref f)] [.ref b])) _
  obtain ⟨cb, hcb, hob⟩ := E.cell
  obtain ⟨km, kma, kmb⟩ := hready
  obtain ⟨km1, kma1, kmb1, -⟩ := res39 hWU kma kmb
  obtain ⟨kc, kca, kcb⟩ := hclsR
  obtain ⟨kc1, kca1, kcb1, -⟩ := res39 hWU kca kcb
  rw [← hvmU] at hkF1 htk1
  have hmU : U.vm.method? t = some methT := by rw [hWU.alike.method?]; exact hmethT
  have hsp : signaturePolymorphic tk1 methT = false := signaturePolymorphic_of_name (by
    have : tk1.name = y.cls := by
      rw [et1]; rw [htoy2] at hkd2; cases htk.symm.trans hkd2; exact hnamed2
    rw [this]; exact hpy) _
  have hAt4 : At U (mkF ⟨cell.cls, 1⟩ 4 #[.val (.ref f)] [.ref b]).method ck (.java (mkF m pc Ls under) :: below) := Y₀.here
  jvm_step hAt4 [B.1, d4, invokevirtual.wp_ready (e := e) (s := U) (f := mkF ⟨cell.cls, 1⟩ 4 #[.val (.ref f)] [.ref b]) (index := idx) (a := b) (r := t) (m := t) (k := tk1) (mk := tk1) (rmeth := methT) (meth := methT) (args := []) (rest := []) (cell := cb) Y₀.here.top
    ⟨kF1, file, ci, nt, toy, tk1, hkF1, by rw [eF1]; exact hfile, hidx, ⟨kc1, kca1, kcb1⟩, htk1, by rw [et1]; exact hni⟩ ⟨km1, kma1, kmb1⟩ (by rw [htoy2]; exact htk1) hmU hsp hstT (hly _ hsigT) rfl (by rw [hheapU]; exact hcb) hob (selectMethod_private hmU (hpriv t methT hmT hmethT)) hmU habT (by rw [htoy2]; exact htk1) (by rw [et1]; exact hni)]
  intro acts'
  rw [doInvoke_state]
  refine hsteps.trans ?_
  have hfin := Jvm.LamKit.retOut Y₁ B.1 (pc := 7) (Ls := #[.val (.ref f)]) (op := .ireturn) hret (Or.inl ⟨.int, z, rfl, Or.inl rfl, rfl, rfl, rfl⟩) (by rw [hbytes]; exact f7) hleave
  simpa using hfin
end Lam
end Jvm.OwnKit

namespace Jvm.OwnKit
open Sem ClassFile Op Lib Jvm.Stand Jvm.Free Jvm.LawKit Jvm.RoadKit
section Ber
variable {p : Program} {l : Launch} {e : Env} {R : Room} {s : State} {m : MethodId} {args : Array Value} {below : List Frame} {meth : Method} {c : Code} {T : State} {locs : List Loc} {cells slots : Nat} {Z : State} {a0 : Array Value} {h h' : Heap} {own nm : String} {bytes : ByteArray} {maxL : Nat} {ret : Option FieldType} {P : Outcome → State → Prop} {pc pc' : Nat} {Ls Ls' : Array Slot} {rest : List Value}

theorem osm {x : Nat} (hx : x < 64) : ¬ Int32.ofNat x < 0 ∧ (Int32.ofNat x).toNatClampNeg = x := (by decide +kernel : ∀ x : Fin 64, ¬ Int32.ofNat x.1 < 0 ∧ (Int32.ofNat x.1).toNatClampNeg = x.1) ⟨x, hx⟩
theorem sm_inj {x y : Nat} (hx : x < 64) (hy : y < 64) (q : Int32.ofNat x = Int32.ofNat y) : x = y := by rw [← (osm hx).2, q, (osm hy).2]
theorem sm_succ {x : Nat} (hx : x < 64) : Int32.ofNat x + 1 = Int32.ofNat (x + 1) := (by decide +kernel : ∀ x : Fin 64, Int32.ofNat x.1 + 1 = Int32.ofNat (x.1 + 1)) ⟨x, hx⟩
theorem sm_inc {x : Nat} (hx : x < 64) : Int32.ofNat x + Int32.ofInt 1 = Int32.ofNat (x + 1) := (by decide +kernel : ∀ x : Fin 64, Int32.ofNat x.1 + Int32.ofInt 1 = Int32.ofNat (x.1 + 1)) ⟨x, hx⟩
theorem sm_add {x y : Nat} (hx : x < 64) (hy : y < 64) : Int32.ofNat x + Int32.ofNat y = Int32.ofNat (x + y) := (by decide +kernel : ∀ x y : Fin 64, Int32.ofNat x.1 + Int32.ofNat y.1 = Int32.ofNat (x.1 + y.1)) ⟨x, hx⟩ ⟨y, hy⟩
theorem sm_sub {x y : Nat} (hx : x < 16) (hy : y ≤ x) : Int32.ofNat x - Int32.ofNat y = Int32.ofNat (x - y) := (by decide +kernel : ∀ x y : Fin 16, y.1 ≤ x.1 → Int32.ofNat x.1 - Int32.ofNat y.1 = Int32.ofNat (x.1 - y.1)) ⟨x, hx⟩ ⟨y, by omega⟩ hy
theorem sm_mul6 {x : Nat} (hx : x < 6) : Int32.ofNat x * 6 = Int32.ofNat (x * 6) := (by decide +kernel : ∀ x : Fin 6, Int32.ofNat x.1 * 6 = Int32.ofNat (x.1 * 6)) ⟨x, hx⟩
theorem sm_pred {x : Nat} (h0 : 0 < x) (hx : x < 64) : Int32.ofNat x - 1 = Int32.ofNat (x - 1) := (by decide +kernel : ∀ x : Fin 64, 0 < x.1 → Int32.ofNat x.1 - 1 = Int32.ofNat (x.1 - 1)) ⟨x, hx⟩ h0
theorem sm_dbl {x : Nat} (hx : x < 64) : 2 * Int32.ofNat x = Int32.ofNat (2 * x) := (by decide +kernel : ∀ x : Fin 64, 2 * Int32.ofNat x.1 = Int32.ofNat (2 * x.1)) ⟨x, hx⟩
theorem sm_lt {x y : Nat} (hx : x < 64) (hy : y < 64) : Int32.ofNat x < Int32.ofNat y ↔ x < y := by
  rw [Int32.lt_iff_toInt_lt, Int32.toInt_ofNat_of_lt (by omega), Int32.toInt_ofNat_of_lt (by omega)]; omega
theorem sm_eq0 {x : Nat} (hx : x < 64) : Int32.ofNat x = 0 ↔ x = 0 := ⟨fun q => sm_inj hx (by decide) q, fun q => by rw [q]; rfl⟩

theorem sm_subB {x y : Nat} (hx : x < 64) (hy : y ≤ x) : Int32.ofNat x - Int32.ofNat y = Int32.ofNat (x - y) := (by decide +kernel : ∀ x y : Fin 64, y.1 ≤ x.1 → Int32.ofNat x.1 - Int32.ofNat y.1 = Int32.ofNat (x.1 - y.1)) ⟨x, hx⟩ ⟨y, by omega⟩ hy
theorem sm_l2i {x : Nat} (hx : x < 64) : (Int32.ofNat x).toInt64.toInt32 = Int32.ofNat x := (by decide +kernel : ∀ x : Fin 64, (Int32.ofNat x.1).toInt64.toInt32 = Int32.ofNat x.1) ⟨x, hx⟩
theorem sm_ltL {x y : Nat} (hx : x < 64) (hy : y < 64) : (Int32.ofNat x).toInt64 < (Int32.ofNat y).toInt64 ↔ x < y := (by decide +kernel : ∀ x y : Fin 64, (Int32.ofNat x.1).toInt64 < (Int32.ofNat y.1).toInt64 ↔ x.1 < y.1) ⟨x, hx⟩ ⟨y, hy⟩
theorem sm_b {x : Nat} (hx : x < 64) : (Int32.ofNat x).toInt8.toInt32 = Int32.ofNat x ∧ Int32.ofNat x &&& 255 = Int32.ofNat x := (by decide +kernel : ∀ x : Fin 64, (Int32.ofNat x.1).toInt8.toInt32 = Int32.ofNat x.1 ∧ Int32.ofNat x.1 &&& 255 = Int32.ofNat x.1) ⟨x, hx⟩
abbrev BRN : String := "com/example/waymark/waymark/ber/BerReader"
/-- a byte array -/
def BA (Z : State) (h : Heap) (b : Addr) (N : Nat) (f : Nat → Int32) : Prop := (∃ k, Ary Z h b k .byte N (fun i => .int (f i))) ∧ ∀ i, i < N → fits .byte (.int (f i)) = true
theorem BA.lt {b : Addr} {N : Nat} {f : Nat → Int32} (F : BA Z h b N f) : b < h.size := by obtain ⟨⟨k, A⟩, -⟩ := F; exact A.lt
theorem BA.keep {b : Addr} {N : Nat} {f : Nat → Int32} {ws : List Addr} (F : BA Z h b N f) (K : Keep h h' ws) (q : b ∉ ws) : BA Z h' b N f := by obtain ⟨⟨k, A⟩, g⟩ := F; exact ⟨⟨k, A.keep K q⟩, g⟩
def updB (f : Nat → Int32) (j : Nat) (x : Int32) : Nat → Int32 := fun i => if i = j then x else f i
theorem updB_same {f : Nat → Int32} {j : Nat} {x : Int32} : updB f j x j = x := if_pos rfl
theorem updB_ne {f : Nat → Int32} {i j : Nat} {x : Int32} (q : i ≠ j) : updB f j x i = f i := if_neg q
theorem s_ldBA (B : Ctx p s m meth c Z own nm bytes maxL ret) (X : Stand p l e R s m args below meth c T locs cells slots) {b : Addr} {j N : Nat} {f : Nat → Int32} (eT : T.heap = h) (A : BA Z h b N f) (hj6 : j < 64) (hj : j < N) (hd : decode bytes pc = .ok (.baload, 1)) (hp : pc + 1 = pc') (k : Go p e below P (T.setTop (mkF m pc' Ls (.int (f j) :: rest)))) : Go p e below P (T.setTop (mkF m pc Ls (.int (Int32.ofNat j) :: .ref b :: rest))) := by
  obtain ⟨⟨k0, A0⟩, -⟩ := A
  exact s_ldB B X eT A0 (osm hj6).1 (osm hj6).2 hj rfl hd hp k
theorem s_stBA (B : Ctx p s m meth c Z own nm bytes maxL ret) (X : Stand p l e R s m args below meth c T locs cells slots) {b : Addr} {j N : Nat} {x : Int32} {f : Nat → Int32} (eT : T.heap = h) (A : BA Z h b N f) (hj6 : j < 64) (hj : j < N) (hd : decode bytes pc = .ok (.bastore, 1)) (hp : pc + 1 = pc') (k : ∀ T' h', Stand p l e R s m args below meth c T' (locs ++ [⟨b, j⟩]) cells slots → T'.heap = h' → Wr h h' b j (.int (nar .byte x)) → BA Z h' b N (updB f j (nar .byte x)) → Go p e below P (T'.setTop (mkF m pc' Ls (rest)))) : Go p e below P (T.setTop (mkF m pc Ls (.int x :: .int (Int32.ofNat j) :: .ref b :: rest))) := by
  obtain ⟨⟨k0, A0⟩, g⟩ := A
  refine s_stB B X eT A0 (osm hj6).1 (osm hj6).2 hj hd hp (fun T' h' X' e' W A' => k T' h' X' e' W ⟨⟨k0, A'.congr fun i _ => ?_⟩, fun i hi => ?_⟩)
  · by_cases q : i = j <;> simp [upd, updB, q]
  · by_cases q : i = j
    · rw [q, updB_same]; exact fits_nar_byte x
    · rw [updB_ne q]; exact g i hi
theorem BA.arv {b : Addr} {N : Nat} {f : Nat → Int32} (F : BA Z h b N f) (hN : N < 64) : ∃ k, Arv Z h b k .byte (Int32.ofNat N) ((List.range N).map fun i => Value.int (f i)) (.int 0) := by
  obtain ⟨⟨k, c, A, r1, r2, -, r4⟩, g⟩ := F
  have z := osm hN
  have q : ∀ i, i < N → ((List.range N).map fun i => Value.int (f i)).getD i (.int 0) = .int (f i) := fun i hi => by
    rw [List.getD_eq_getElem?_getD, List.getElem?_map, List.getElem?_range hi]; rfl
  exact ⟨k, c, A, r1, r2.trans z.2.symm, z.1, fun i hi => by rw [q i (r2 ▸ hi)]; exact r4 i (r2 ▸ hi), fun i hi => by rw [q i (r2 ▸ hi)]; exact g i (r2 ▸ hi)⟩
/-- n bytes of b from place j on to the front of the array o -/
theorem s_copyB (B : Ctx p s m meth c Z own nm bytes maxL ret) (X : Stand p l e R s m args below meth c T locs cells slots) {i0 W M N j n : Nat} {f g : Nat → Int32} {b o : Addr} (eT : T.heap = h) (w1 : (Jvm.Cond.methodLink own i0 Jvm.Stand.acN).before a0 Z = true) (w2 : (Jvm.Cond.native Jvm.Stand.acN).before a0 Z = true) (w3 : (Jvm.Cond.static Jvm.Stand.acN).before a0 Z = true) (w4 : (Jvm.Cond.initialized "java/lang/System").before a0 Z = true) (A : BA Z h b N f) (A2 : BA Z h o M g) (hjn : j + n ≤ N) (hnM : n ≤ M) (hN : N < 64) (hM : M < 64) (Nf : Fr Z.heap.size locs) (ge : Z.heap.size ≤ o) (hW : (rest.map fun v => v.category).sum = W) (hf : 1 ≤ R.frames) (hlo : W + 18 ≤ R.locals) (hsz : Ls.size = maxL) (hd : decode bytes pc = .ok (.invokestatic i0, 3)) (hp : pc + 3 = pc')
    (k : ∀ T' h' L, Stand p l e R s m args below meth c T' L cells slots → T'.heap = h' → Fr Z.heap.size L → Keep h h' [o] → Go p e below P (T'.setTop (mkF m pc' Ls (rest)))) : Go p e below P (T.setTop (mkF m pc Ls (.int (Int32.ofNat n) :: .int 0 :: .ref o :: .int (Int32.ofNat j) :: .ref b :: rest))) := by
  subst hp
  obtain ⟨ka, V⟩ := A.arv hN
  obtain ⟨kb, V2⟩ := A2.arv hM
  have zn := (osm (x := n) (by omega)).2
  have zj := (osm (x := j) (by omega)).2
  have zN := (osm hN).2
  have zM := (osm hM).2
  obtain ⟨T', h', L, X', e', N', K', -, st⟩ := cpA X B.1 B.2.2.2.2.2.2.2 B.2.2.2.1 w1 w2 w3 w4 eT V V2 (Or.inl ⟨rfl, rfl⟩) (sp := Int32.ofNat j) (dp := 0) (nn := Int32.ofNat n) (osm (by omega)).1 (by decide) (osm (by omega)).1 (by rw [zn, zj, zN]; exact hjn) (by rw [zn, zM]; show 0 + n ≤ M; omega) rfl (by rw [zn, List.length_map, List.length_range]; show 0 + n ≤ M; omega) Nf ge (g := mkF m pc Ls (.int (Int32.ofNat n) :: .int 0 :: .ref o :: .int (Int32.ofNat j) :: .ref b :: rest)) rfl (by rw [B.2.2.1]; exact hsz) rfl (hb B.2.1 hd) hf (W := W) (by show 2 * 0 + _ ≤ _; rw [Nat.mul_zero, Nat.zero_add]; exact Nat.le_of_eq hW) hlo
  exact Go.on st (k T' h' L X' e' N' K')
/-- a reader r over b: at place pp, up to en -/
def RD (Z : State) (h : Heap) (r b : Addr) (N : Nat) (f : Nat → Int32) (pp en : Nat) : Prop := Exa Z h r BRN ∧ (Fld Z h r BRN "bytes" "[B" (.ref b) ∧ Fld Z h r BRN "position" "I" (.int (Int32.ofNat pp)) ∧ Fld Z h r BRN "end" "I" (.int (Int32.ofNat en))) ∧ BA Z h b N f ∧ (Z.heap.size ≤ r ∧ Z.heap.size ≤ b ∧ b ≠ r) ∧ pp ≤ en ∧ en ≤ N ∧ N < 64
variable {r b : Addr} {N pp en : Nat} {f : Nat → Int32}
theorem RD.keep {ws : List Addr} (F : RD Z h r b N f pp en) (K : Keep h h' ws) (q : r ∉ ws) (q2 : b ∉ ws) : RD Z h' r b N f pp en := by
  obtain ⟨E, ⟨f1, f2, f3⟩, A, S⟩ := F
  exact ⟨E.keep K, ⟨f1.keep K q, f2.keep K q, f3.keep K q⟩, A.keep K q2, S⟩
theorem RD.setp {p' : Nat} (F : RD Z h r b N f pp en) (L1 : Laid Z a0 BRN BRN "bytes" "[B") (L2 : Laid Z a0 BRN BRN "position" "I") (L3 : Laid Z a0 BRN BRN "end" "I") (W : Wr h h' r (Jvm.RoadKit.slotOf Z BRN "position" "I") (.int (Int32.ofNat p'))) (hp : p' ≤ en) : RD Z h' r b N f p' en := by
  obtain ⟨E, ⟨f1, f2, f3⟩, A, ⟨s1, s2, s3⟩, -, S⟩ := F
  exact ⟨E.wr W, ⟨f1.other W (Or.inr (slot_ne L1 L2 (by decide) (t := .array .byte) (t' := .int) (by decide) (by decide))), f2.same W, f3.other W (Or.inr (slot_ne L3 L2 (by decide) (t := .int) (t' := .int) (by decide) (by decide)))⟩, A.keep (Keep.of_wr W) (ninS s3 nin0), ⟨s1, s2, s3⟩, hp, S⟩
theorem b_selN (B : Ctx p s m meth c Z own nm bytes maxL ret) (X : Stand p l e R s m args below meth c T locs cells slots) {x : Int32} {na nb J py pn : Nat} {o : Int} (hd : decode bytes pc = .ok (.ifCond .eq o, 3)) (ho : 0 ≤ (pc : Int) + o) (hy : ((pc : Int) + o).toNat = py) (hn : pc + 3 = pn) (kb : Go p e below P (T.setTop (mkF m J Ls (.int (Int32.ofNat nb) :: rest))) → Go p e below P (T.setTop (mkF m py Ls (rest)))) (ka : Go p e below P (T.setTop (mkF m J Ls (.int (Int32.ofNat na) :: rest))) → Go p e below P (T.setTop (mkF m pn Ls (rest)))) (k : ∀ z : Nat, z = nb ∨ z = na → Go p e below P (T.setTop (mkF m J Ls (.int (Int32.ofNat z) :: rest)))) : Go p e below P (T.setTop (mkF m pc Ls (.int x :: rest))) := b_if_eq B X hd ho hy hn (fun _ => kb (k nb (Or.inl rfl))) (fun _ => ka (k na (Or.inr rfl)))
theorem RD.lt (F : RD Z h r b N f pp en) : r < h.size := F.1.lt
end Ber
end Jvm.OwnKit

namespace Jvm.Pilot.@@N@@
open Jvm Jvm.ClassFile Sem Op Lib Jvm.Free Jvm.Stand Jvm.LawKit Jvm.RoadKit Jvm.OwnKit Bundle Jvm.Pilot.@@N@@.Jvm.D
theorem tw0 {Z : State} {a0 : Array Value} (hw : ∀ d ∈ tables_1, d.before a0 Z = true) : (Jvm.Cond.classLink "com/example/waymark/waymark/ber/BerReaderHasRemainingPinLaw" (7 : Nat) "com/example/waymark/waymark/ber/BerReader").before a0 Z = true := hw _ (List.mem_of_getElem? (i := 0) rfl)
theorem tw1 {Z : State} {a0 : Array Value} (hw : ∀ d ∈ tables_1, d.before a0 Z = true) : (Jvm.Cond.instantiable "com/example/waymark/waymark/ber/BerReader" (3 : Nat)).before a0 Z = true := hw _ (List.mem_of_getElem? (i := 1) rfl)
theorem tw2 {Z : State} {a0 : Array Value} (hw : ∀ d ∈ tables_1, d.before a0 Z = true) : (Jvm.Cond.initialized "com/example/waymark/waymark/ber/BerReader").before a0 Z = true := hw _ (List.mem_of_getElem? (i := 2) rfl)
theorem tw3 {Z : State} {a0 : Array Value} (hw : ∀ d ∈ tables_1, d.before a0 Z = true) : (Jvm.Cond.arrayClass Jvm.ClassFile.FieldType.byte).before a0 Z = true := hw _ (List.mem_of_getElem? (i := 3) rfl)
theorem tw4 {Z : State} {a0 : Array Value} (hw : ∀ d ∈ tables_1, d.before a0 Z = true) : (Jvm.Cond.methodLink "com/example/waymark/waymark/ber/BerReaderHasRemainingPinLaw" (9 : Nat) ({ cls := "com/example/waymark/waymark/ber/BerReader", name := "<init>", desc := "([B)V" } : Jvm.MethodName)).before a0 Z = true := hw _ (List.mem_of_getElem? (i := 4) rfl)
theorem tw5 {Z : State} {a0 : Array Value} (hw : ∀ d ∈ tables_1, d.before a0 Z = true) : (Jvm.Cond.instanceMethod ({ cls := "com/example/waymark/waymark/ber/BerReader", name := "<init>", desc := "([B)V" } : Jvm.MethodName)).before a0 Z = true := hw _ (List.mem_of_getElem? (i := 5) rfl)
theorem tw6 {Z : State} {a0 : Array Value} (hw : ∀ d ∈ tables_1, d.before a0 Z = true) : (Jvm.Cond.code ({ cls := "com/example/waymark/waymark/ber/BerReader", name := "<init>", desc := "([B)V" } : Jvm.MethodName) prog_2_method_1_code (2 : Nat) (Option.none : Option Jvm.ClassFile.FieldType)).before a0 Z = true := hw _ (List.mem_of_getElem? (i := 6) rfl)
theorem tw7 {Z : State} {a0 : Array Value} (hw : ∀ d ∈ tables_1, d.before a0 Z = true) : (Jvm.Cond.methodLink "com/example/waymark/waymark/ber/BerReader" (1 : Nat) ({ cls := "com/example/waymark/waymark/ber/BerReader", name := "<init>", desc := "([BII)V" } : Jvm.MethodName)).before a0 Z = true := hw _ (List.mem_of_getElem? (i := 7) rfl)
theorem tw8 {Z : State} {a0 : Array Value} (hw : ∀ d ∈ tables_1, d.before a0 Z = true) : (Jvm.Cond.instanceMethod ({ cls := "com/example/waymark/waymark/ber/BerReader", name := "<init>", desc := "([BII)V" } : Jvm.MethodName)).before a0 Z = true := hw _ (List.mem_of_getElem? (i := 8) rfl)
theorem tw9 {Z : State} {a0 : Array Value} (hw : ∀ d ∈ tables_1, d.before a0 Z = true) : (Jvm.Cond.code ({ cls := "com/example/waymark/waymark/ber/BerReader", name := "<init>", desc := "([BII)V" } : Jvm.MethodName) prog_2_method_2_code (4 : Nat) (Option.none : Option Jvm.ClassFile.FieldType)).before a0 Z = true := hw _ (List.mem_of_getElem? (i := 9) rfl)
theorem tw10 {Z : State} {a0 : Array Value} (hw : ∀ d ∈ tables_1, d.before a0 Z = true) : (Jvm.Cond.methodLink "com/example/waymark/waymark/ber/BerReader" (7 : Nat) ({ cls := "java/lang/Object", name := "<init>", desc := "()V" } : Jvm.MethodName)).before a0 Z = true := hw _ (List.mem_of_getElem? (i := 10) rfl)
theorem tw11 {Z : State} {a0 : Array Value} (hw : ∀ d ∈ tables_1, d.before a0 Z = true) : (Jvm.Cond.instanceMethod ({ cls := "java/lang/Object", name := "<init>", desc := "()V" } : Jvm.MethodName)).before a0 Z = true := hw _ (List.mem_of_getElem? (i := 11) rfl)
theorem tw12 {Z : State} {a0 : Array Value} (hw : ∀ d ∈ tables_1, d.before a0 Z = true) : (Jvm.Cond.code ({ cls := "java/lang/Object", name := "<init>", desc := "()V" } : Jvm.MethodName) object_method_1_code (1 : Nat) (Option.none : Option Jvm.ClassFile.FieldType)).before a0 Z = true := hw _ (List.mem_of_getElem? (i := 12) rfl)
theorem tw13 {Z : State} {a0 : Array Value} (hw : ∀ d ∈ tables_1, d.before a0 Z = true) : (Jvm.Cond.fieldLink "com/example/waymark/waymark/ber/BerReader" (12 : Nat) "com/example/waymark/waymark/ber/BerReader" "bytes" "[B").before a0 Z = true := hw _ (List.mem_of_getElem? (i := 13) rfl)
theorem tw14 {Z : State} {a0 : Array Value} (hw : ∀ d ∈ tables_1, d.before a0 Z = true) : (Jvm.Cond.laysFinal "com/example/waymark/waymark/ber/BerReader" "com/example/waymark/waymark/ber/BerReader" "bytes" "[B").before a0 Z = true := hw _ (List.mem_of_getElem? (i := 14) rfl)
theorem tw15 {Z : State} {a0 : Array Value} (hw : ∀ d ∈ tables_1, d.before a0 Z = true) : (Jvm.Cond.fieldLink "com/example/waymark/waymark/ber/BerReader" (16 : Nat) "com/example/waymark/waymark/ber/BerReader" "position" "I").before a0 Z = true := hw _ (List.mem_of_getElem? (i := 15) rfl)
theorem tw16 {Z : State} {a0 : Array Value} (hw : ∀ d ∈ tables_1, d.before a0 Z = true) : (Jvm.Cond.lays "com/example/waymark/waymark/ber/BerReader" "com/example/waymark/waymark/ber/BerReader" "position" "I").before a0 Z = true := hw _ (List.mem_of_getElem? (i := 16) rfl)
theorem tw17 {Z : State} {a0 : Array Value} (hw : ∀ d ∈ tables_1, d.before a0 Z = true) : (Jvm.Cond.fieldLink "com/example/waymark/waymark/ber/BerReader" (20 : Nat) "com/example/waymark/waymark/ber/BerReader" "end" "I").before a0 Z = true := hw _ (List.mem_of_getElem? (i := 17) rfl)
theorem tw18 {Z : State} {a0 : Array Value} (hw : ∀ d ∈ tables_1, d.before a0 Z = true) : (Jvm.Cond.laysFinal "com/example/waymark/waymark/ber/BerReader" "com/example/waymark/waymark/ber/BerReader" "end" "I").before a0 Z = true := hw _ (List.mem_of_getElem? (i := 18) rfl)
theorem tw19 {Z : State} {a0 : Array Value} (hw : ∀ d ∈ tables_1, d.before a0 Z = true) : (Jvm.Cond.methodLink "com/example/waymark/waymark/ber/BerReaderHasRemainingPinLaw" (12 : Nat) ({ cls := "com/example/waymark/waymark/ber/BerReader", name := "hasRemaining", desc := "()Z" } : Jvm.MethodName)).before a0 Z = true := hw _ (List.mem_of_getElem? (i := 19) rfl)
theorem tw20 {Z : State} {a0 : Array Value} (hw : ∀ d ∈ tables_1, d.before a0 Z = true) : (Jvm.Cond.declares ({ cls := "com/example/waymark/waymark/ber/BerReader", name := "hasRemaining", desc := "()Z" } : Jvm.MethodName)).before a0 Z = true := hw _ (List.mem_of_getElem? (i := 20) rfl)
theorem tw21 {Z : State} {a0 : Array Value} (hw : ∀ d ∈ tables_1, d.before a0 Z = true) : (Jvm.Cond.instanceMethod ({ cls := "com/example/waymark/waymark/ber/BerReader", name := "hasRemaining", desc := "()Z" } : Jvm.MethodName)).before a0 Z = true := hw _ (List.mem_of_getElem? (i := 21) rfl)
theorem tw22 {Z : State} {a0 : Array Value} (hw : ∀ d ∈ tables_1, d.before a0 Z = true) : (Jvm.Cond.selects "com/example/waymark/waymark/ber/BerReader" ({ cls := "com/example/waymark/waymark/ber/BerReader", name := "hasRemaining", desc := "()Z" } : Jvm.MethodName) ({ cls := "com/example/waymark/waymark/ber/BerReader", name := "hasRemaining", desc := "()Z" } : Jvm.MethodName)).before a0 Z = true := hw _ (List.mem_of_getElem? (i := 22) rfl)
theorem tw23 {Z : State} {a0 : Array Value} (hw : ∀ d ∈ tables_1, d.before a0 Z = true) : (Jvm.Cond.code ({ cls := "com/example/waymark/waymark/ber/BerReader", name := "hasRemaining", desc := "()Z" } : Jvm.MethodName) prog_2_method_4_code (1 : Nat) (Option.some Jvm.ClassFile.FieldType.boolean)).before a0 Z = true := hw _ (List.mem_of_getElem? (i := 23) rfl)
theorem tw24 {Z : State} {a0 : Array Value} (hw : ∀ d ∈ tables_1, d.before a0 Z = true) : (Jvm.Cond.methodLink "com/example/waymark/waymark/ber/BerReaderHasRemainingPinLaw" (16 : Nat) ({ cls := "com/example/waymark/waymark/ber/BerReader", name := "readConstructed", desc := "(I)Lcom/example/waymark/waymark/ber/BerReader;" } : Jvm.MethodName)).before a0 Z = true := hw _ (List.mem_of_getElem? (i := 24) rfl)
theorem tw25 {Z : State} {a0 : Array Value} (hw : ∀ d ∈ tables_1, d.before a0 Z = true) : (Jvm.Cond.declares ({ cls := "com/example/waymark/waymark/ber/BerReader", name := "readConstructed", desc := "(I)Lcom/example/waymark/waymark/ber/BerReader;" } : Jvm.MethodName)).before a0 Z = true := hw _ (List.mem_of_getElem? (i := 25) rfl)
theorem tw26 {Z : State} {a0 : Array Value} (hw : ∀ d ∈ tables_1, d.before a0 Z = true) : (Jvm.Cond.instanceMethod ({ cls := "com/example/waymark/waymark/ber/BerReader", name := "readConstructed", desc := "(I)Lcom/example/waymark/waymark/ber/BerReader;" } : Jvm.MethodName)).before a0 Z = true := hw _ (List.mem_of_getElem? (i := 26) rfl)
theorem tw27 {Z : State} {a0 : Array Value} (hw : ∀ d ∈ tables_1, d.before a0 Z = true) : (Jvm.Cond.selects "com/example/waymark/waymark/ber/BerReader" ({ cls := "com/example/waymark/waymark/ber/BerReader", name := "readConstructed", desc := "(I)Lcom/example/waymark/waymark/ber/BerReader;" } : Jvm.MethodName) ({ cls := "com/example/waymark/waymark/ber/BerReader", name := "readConstructed", desc := "(I)Lcom/example/waymark/waymark/ber/BerReader;" } : Jvm.MethodName)).before a0 Z = true := hw _ (List.mem_of_getElem? (i := 27) rfl)
theorem tw28 {Z : State} {a0 : Array Value} (hw : ∀ d ∈ tables_1, d.before a0 Z = true) : (Jvm.Cond.code ({ cls := "com/example/waymark/waymark/ber/BerReader", name := "readConstructed", desc := "(I)Lcom/example/waymark/waymark/ber/BerReader;" } : Jvm.MethodName) prog_2_method_6_code (4 : Nat) (Option.some (Jvm.ClassFile.FieldType.object "com/example/waymark/waymark/ber/BerReader"))).before a0 Z = true := hw _ (List.mem_of_getElem? (i := 28) rfl)
theorem tw29 {Z : State} {a0 : Array Value} (hw : ∀ d ∈ tables_1, d.before a0 Z = true) : (Jvm.Cond.methodLink "com/example/waymark/waymark/ber/BerReader" (62 : Nat) ({ cls := "com/example/waymark/waymark/ber/BerReader", name := "header", desc := "(I)I" } : Jvm.MethodName)).before a0 Z = true := hw _ (List.mem_of_getElem? (i := 29) rfl)
theorem tw30 {Z : State} {a0 : Array Value} (hw : ∀ d ∈ tables_1, d.before a0 Z = true) : (Jvm.Cond.instanceMethod ({ cls := "com/example/waymark/waymark/ber/BerReader", name := "header", desc := "(I)I" } : Jvm.MethodName)).before a0 Z = true := hw _ (List.mem_of_getElem? (i := 30) rfl)
theorem tw31 {Z : State} {a0 : Array Value} (hw : ∀ d ∈ tables_1, d.before a0 Z = true) : (Jvm.Cond.privateMethod ({ cls := "com/example/waymark/waymark/ber/BerReader", name := "header", desc := "(I)I" } : Jvm.MethodName)).before a0 Z = true := hw _ (List.mem_of_getElem? (i := 31) rfl)
theorem tw32 {Z : State} {a0 : Array Value} (hw : ∀ d ∈ tables_1, d.before a0 Z = true) : (Jvm.Cond.code ({ cls := "com/example/waymark/waymark/ber/BerReader", name := "header", desc := "(I)I" } : Jvm.MethodName) prog_2_method_11_code (5 : Nat) (Option.some Jvm.ClassFile.FieldType.int)).before a0 Z = true := hw _ (List.mem_of_getElem? (i := 32) rfl)
theorem tw33 {Z : State} {a0 : Array Value} (hw : ∀ d ∈ tables_1, d.before a0 Z = true) : (Jvm.Cond.methodLink "com/example/waymark/waymark/ber/BerReader" (99 : Nat) ({ cls := "com/example/waymark/waymark/ber/BerReader", name := "peekTag", desc := "()I" } : Jvm.MethodName)).before a0 Z = true := hw _ (List.mem_of_getElem? (i := 33) rfl)
theorem tw34 {Z : State} {a0 : Array Value} (hw : ∀ d ∈ tables_1, d.before a0 Z = true) : (Jvm.Cond.declares ({ cls := "com/example/waymark/waymark/ber/BerReader", name := "peekTag", desc := "()I" } : Jvm.MethodName)).before a0 Z = true := hw _ (List.mem_of_getElem? (i := 34) rfl)
theorem tw35 {Z : State} {a0 : Array Value} (hw : ∀ d ∈ tables_1, d.before a0 Z = true) : (Jvm.Cond.instanceMethod ({ cls := "com/example/waymark/waymark/ber/BerReader", name := "peekTag", desc := "()I" } : Jvm.MethodName)).before a0 Z = true := hw _ (List.mem_of_getElem? (i := 35) rfl)
theorem tw36 {Z : State} {a0 : Array Value} (hw : ∀ d ∈ tables_1, d.before a0 Z = true) : (Jvm.Cond.selects "com/example/waymark/waymark/ber/BerReader" ({ cls := "com/example/waymark/waymark/ber/BerReader", name := "peekTag", desc := "()I" } : Jvm.MethodName) ({ cls := "com/example/waymark/waymark/ber/BerReader", name := "peekTag", desc := "()I" } : Jvm.MethodName)).before a0 Z = true := hw _ (List.mem_of_getElem? (i := 36) rfl)
theorem tw37 {Z : State} {a0 : Array Value} (hw : ∀ d ∈ tables_1, d.before a0 Z = true) : (Jvm.Cond.code ({ cls := "com/example/waymark/waymark/ber/BerReader", name := "peekTag", desc := "()I" } : Jvm.MethodName) prog_2_method_5_code (1 : Nat) (Option.some Jvm.ClassFile.FieldType.int)).before a0 Z = true := hw _ (List.mem_of_getElem? (i := 37) rfl)
theorem tw38 {Z : State} {a0 : Array Value} (hw : ∀ d ∈ tables_1, d.before a0 Z = true) : (Jvm.Cond.lambdaSite ({ cls := "com/example/waymark/waymark/ber/BerReader", name := "header", desc := "(I)I" } : Jvm.MethodName) (27 : Nat) (102 : Nat) (Jvm.Lambda.Shape.mk "com/example/waymark/waymark/ber/BerReader$ByteSource" "next" (Jvm.ClassFile.MethodDescriptor.mk ([] : List Jvm.ClassFile.FieldType) (Option.some Jvm.ClassFile.FieldType.int)) ([(Jvm.ClassFile.FieldType.object "com/example/waymark/waymark/ber/BerReader")] : List Jvm.ClassFile.FieldType) (5 : Nat) "com/example/waymark/waymark/ber/BerReader" "lambda$header$1" (Jvm.ClassFile.MethodDescriptor.mk ([] : List Jvm.ClassFile.FieldType) (Option.some Jvm.ClassFile.FieldType.int)) false (Jvm.ClassFile.MethodDescriptor.mk ([] : List Jvm.ClassFile.FieldType) (Option.some Jvm.ClassFile.FieldType.int)))).before a0 Z = true := hw _ (List.mem_of_getElem? (i := 38) rfl)
theorem tw41 {Z : State} {a0 : Array Value} (hw : ∀ d ∈ tables_1, d.before a0 Z = true) : (Jvm.Cond.instantiable "java/lang/Object" (0 : Nat)).before a0 Z = true := hw _ (List.mem_of_getElem? (i := 41) rfl)
theorem tw42 {Z : State} {a0 : Array Value} (hw : ∀ d ∈ tables_1, d.before a0 Z = true) : (Jvm.Cond.methodLink "com/example/waymark/waymark/ber/BerReader" (37 : Nat) ({ cls := "com/example/waymark/waymark/ber/BerReader", name := "readLength", desc := "(Lcom/example/waymark/waymark/ber/BerReader$ByteSource;)J" } : Jvm.MethodName)).before a0 Z = true := hw _ (List.mem_of_getElem? (i := 42) rfl)
theorem tw43 {Z : State} {a0 : Array Value} (hw : ∀ d ∈ tables_1, d.before a0 Z = true) : (Jvm.Cond.static ({ cls := "com/example/waymark/waymark/ber/BerReader", name := "readLength", desc := "(Lcom/example/waymark/waymark/ber/BerReader$ByteSource;)J" } : Jvm.MethodName)).before a0 Z = true := hw _ (List.mem_of_getElem? (i := 43) rfl)
theorem tw44 {Z : State} {a0 : Array Value} (hw : ∀ d ∈ tables_1, d.before a0 Z = true) : (Jvm.Cond.code ({ cls := "com/example/waymark/waymark/ber/BerReader", name := "readLength", desc := "(Lcom/example/waymark/waymark/ber/BerReader$ByteSource;)J" } : Jvm.MethodName) prog_2_method_13_code (6 : Nat) (Option.some Jvm.ClassFile.FieldType.long)).before a0 Z = true := hw _ (List.mem_of_getElem? (i := 44) rfl)
theorem tw45 {Z : State} {a0 : Array Value} (hw : ∀ d ∈ tables_1, d.before a0 Z = true) : (Jvm.Cond.methodLink "com/example/waymark/waymark/ber/BerReader" (108 : Nat) ({ cls := "com/example/waymark/waymark/ber/BerReader$ByteSource", name := "next", desc := "()I" } : Jvm.MethodName)).before a0 Z = true := hw _ (List.mem_of_getElem? (i := 45) rfl)
theorem tw46 {Z : State} {a0 : Array Value} (hw : ∀ d ∈ tables_1, d.before a0 Z = true) : (Jvm.Cond.declares ({ cls := "com/example/waymark/waymark/ber/BerReader$ByteSource", name := "next", desc := "()I" } : Jvm.MethodName)).before a0 Z = true := hw _ (List.mem_of_getElem? (i := 46) rfl)
theorem tw47 {Z : State} {a0 : Array Value} (hw : ∀ d ∈ tables_1, d.before a0 Z = true) : (Jvm.Cond.interfaceMethod "com/example/waymark/waymark/ber/BerReader$ByteSource" "com/example/waymark/waymark/ber/BerReader$ByteSource" "next" "()I").before a0 Z = true := hw _ (List.mem_of_getElem? (i := 47) rfl)
theorem tw48 {Z : State} {a0 : Array Value} (hw : ∀ d ∈ tables_1, d.before a0 Z = true) : (Jvm.Cond.instanceMethod ({ cls := "com/example/waymark/waymark/ber/BerReader", name := "lambda$header$1", desc := "()I" } : Jvm.MethodName)).before a0 Z = true := hw _ (List.mem_of_getElem? (i := 48) rfl)
theorem tw49 {Z : State} {a0 : Array Value} (hw : ∀ d ∈ tables_1, d.before a0 Z = true) : (Jvm.Cond.privateMethod ({ cls := "com/example/waymark/waymark/ber/BerReader", name := "lambda$header$1", desc := "()I" } : Jvm.MethodName)).before a0 Z = true := hw _ (List.mem_of_getElem? (i := 49) rfl)
theorem tw50 {Z : State} {a0 : Array Value} (hw : ∀ d ∈ tables_1, d.before a0 Z = true) : (Jvm.Cond.code ({ cls := "com/example/waymark/waymark/ber/BerReader", name := "lambda$header$1", desc := "()I" } : Jvm.MethodName) prog_2_method_14_code (1 : Nat) (Option.some Jvm.ClassFile.FieldType.int)).before a0 Z = true := hw _ (List.mem_of_getElem? (i := 50) rfl)
theorem tw51 {Z : State} {a0 : Array Value} (hw : ∀ d ∈ tables_1, d.before a0 Z = true) : (Jvm.Cond.classLink "com/example/waymark/waymark/ber/BerReader" (2 : Nat) "com/example/waymark/waymark/ber/BerReader").before a0 Z = true := hw _ (List.mem_of_getElem? (i := 51) rfl)
theorem tw52 {Z : State} {a0 : Array Value} (hw : ∀ d ∈ tables_1, d.before a0 Z = true) : (Jvm.Cond.methodLink "com/example/waymark/waymark/ber/BerReaderHasRemainingPinLaw" (20 : Nat) ({ cls := "com/example/waymark/waymark/ber/BerReader", name := "readOctets", desc := "(I)[B" } : Jvm.MethodName)).before a0 Z = true := hw _ (List.mem_of_getElem? (i := 52) rfl)
theorem tw53 {Z : State} {a0 : Array Value} (hw : ∀ d ∈ tables_1, d.before a0 Z = true) : (Jvm.Cond.declares ({ cls := "com/example/waymark/waymark/ber/BerReader", name := "readOctets", desc := "(I)[B" } : Jvm.MethodName)).before a0 Z = true := hw _ (List.mem_of_getElem? (i := 53) rfl)
theorem tw54 {Z : State} {a0 : Array Value} (hw : ∀ d ∈ tables_1, d.before a0 Z = true) : (Jvm.Cond.instanceMethod ({ cls := "com/example/waymark/waymark/ber/BerReader", name := "readOctets", desc := "(I)[B" } : Jvm.MethodName)).before a0 Z = true := hw _ (List.mem_of_getElem? (i := 54) rfl)
theorem tw55 {Z : State} {a0 : Array Value} (hw : ∀ d ∈ tables_1, d.before a0 Z = true) : (Jvm.Cond.selects "com/example/waymark/waymark/ber/BerReader" ({ cls := "com/example/waymark/waymark/ber/BerReader", name := "readOctets", desc := "(I)[B" } : Jvm.MethodName) ({ cls := "com/example/waymark/waymark/ber/BerReader", name := "readOctets", desc := "(I)[B" } : Jvm.MethodName)).before a0 Z = true := hw _ (List.mem_of_getElem? (i := 55) rfl)
theorem tw56 {Z : State} {a0 : Array Value} (hw : ∀ d ∈ tables_1, d.before a0 Z = true) : (Jvm.Cond.code ({ cls := "com/example/waymark/waymark/ber/BerReader", name := "readOctets", desc := "(I)[B" } : Jvm.MethodName) prog_2_method_7_code (4 : Nat) (Option.some (Jvm.ClassFile.FieldType.array Jvm.ClassFile.FieldType.byte))).before a0 Z = true := hw _ (List.mem_of_getElem? (i := 56) rfl)
theorem tw57 {Z : State} {a0 : Array Value} (hw : ∀ d ∈ tables_1, d.before a0 Z = true) : (Jvm.Cond.methodLink "com/example/waymark/waymark/ber/BerReader" (66 : Nat) ({ cls := "java/lang/System", name := "arraycopy", desc := "(Ljava/lang/Object;ILjava/lang/Object;II)V" } : Jvm.MethodName)).before a0 Z = true := hw _ (List.mem_of_getElem? (i := 57) rfl)
theorem tw58 {Z : State} {a0 : Array Value} (hw : ∀ d ∈ tables_1, d.before a0 Z = true) : (Jvm.Cond.static ({ cls := "java/lang/System", name := "arraycopy", desc := "(Ljava/lang/Object;ILjava/lang/Object;II)V" } : Jvm.MethodName)).before a0 Z = true := hw _ (List.mem_of_getElem? (i := 58) rfl)
theorem tw59 {Z : State} {a0 : Array Value} (hw : ∀ d ∈ tables_1, d.before a0 Z = true) : (Jvm.Cond.initialized "java/lang/System").before a0 Z = true := hw _ (List.mem_of_getElem? (i := 59) rfl)
theorem tw60 {Z : State} {a0 : Array Value} (hw : ∀ d ∈ tables_1, d.before a0 Z = true) : (Jvm.Cond.native ({ cls := "java/lang/System", name := "arraycopy", desc := "(Ljava/lang/Object;ILjava/lang/Object;II)V" } : Jvm.MethodName)).before a0 Z = true := hw _ (List.mem_of_getElem? (i := 60) rfl)
theorem tw61 {Z : State} {a0 : Array Value} (hw : ∀ d ∈ tables_1, d.before a0 Z = true) : (Jvm.Cond.methodLink "com/example/waymark/waymark/ber/BerReaderHasRemainingPinLaw" (24 : Nat) ({ cls := "com/example/waymark/waymark/ber/BerReader", name := "readBoolean", desc := "(I)Z" } : Jvm.MethodName)).before a0 Z = true := hw _ (List.mem_of_getElem? (i := 61) rfl)
theorem tw62 {Z : State} {a0 : Array Value} (hw : ∀ d ∈ tables_1, d.before a0 Z = true) : (Jvm.Cond.declares ({ cls := "com/example/waymark/waymark/ber/BerReader", name := "readBoolean", desc := "(I)Z" } : Jvm.MethodName)).before a0 Z = true := hw _ (List.mem_of_getElem? (i := 62) rfl)
theorem tw63 {Z : State} {a0 : Array Value} (hw : ∀ d ∈ tables_1, d.before a0 Z = true) : (Jvm.Cond.instanceMethod ({ cls := "com/example/waymark/waymark/ber/BerReader", name := "readBoolean", desc := "(I)Z" } : Jvm.MethodName)).before a0 Z = true := hw _ (List.mem_of_getElem? (i := 63) rfl)
theorem tw64 {Z : State} {a0 : Array Value} (hw : ∀ d ∈ tables_1, d.before a0 Z = true) : (Jvm.Cond.selects "com/example/waymark/waymark/ber/BerReader" ({ cls := "com/example/waymark/waymark/ber/BerReader", name := "readBoolean", desc := "(I)Z" } : Jvm.MethodName) ({ cls := "com/example/waymark/waymark/ber/BerReader", name := "readBoolean", desc := "(I)Z" } : Jvm.MethodName)).before a0 Z = true := hw _ (List.mem_of_getElem? (i := 64) rfl)
theorem tw65 {Z : State} {a0 : Array Value} (hw : ∀ d ∈ tables_1, d.before a0 Z = true) : (Jvm.Cond.code ({ cls := "com/example/waymark/waymark/ber/BerReader", name := "readBoolean", desc := "(I)Z" } : Jvm.MethodName) prog_2_method_10_code (3 : Nat) (Option.some Jvm.ClassFile.FieldType.boolean)).before a0 Z = true := hw _ (List.mem_of_getElem? (i := 65) rfl)
abbrev mn0 : MethodName := ⟨"com/example/waymark/waymark/ber/BerReader", "hasRemaining", "()Z"⟩
abbrev mn1 : MethodName := ⟨"com/example/waymark/waymark/ber/BerReader", "peekTag", "()I"⟩
abbrev mn2 : MethodName := ⟨"com/example/waymark/waymark/ber/BerReader", "lambda$header$1", "()I"⟩
abbrev mn3 : MethodName := ⟨"com/example/waymark/waymark/ber/BerReader$ByteSource", "next", "()I"⟩
abbrev mn4 : MethodName := ⟨"com/example/waymark/waymark/ber/BerReader", "readLength", "(Lcom/example/waymark/waymark/ber/BerReader$ByteSource;)J"⟩
abbrev mn5 : MethodName := ⟨"com/example/waymark/waymark/ber/BerReader", "header", "(I)I"⟩
abbrev mn6 : MethodName := ⟨"com/example/waymark/waymark/ber/BerReader", "<init>", "([BII)V"⟩
abbrev mn7 : MethodName := ⟨"com/example/waymark/waymark/ber/BerReader", "<init>", "([B)V"⟩
abbrev mn8 : MethodName := ⟨"com/example/waymark/waymark/ber/BerReader", "readConstructed", "(I)Lcom/example/waymark/waymark/ber/BerReader;"⟩
abbrev mn9 : MethodName := ⟨"com/example/waymark/waymark/ber/BerReader", "readOctets", "(I)[B"⟩
abbrev mn10 : MethodName := ⟨"com/example/waymark/waymark/ber/BerReader", "readBoolean", "(I)Z"⟩
theorem pd_8 : parseMethodDescriptor "(I)[B" = some ⟨[.int], some (.array .byte)⟩ := by decide +kernel
theorem pd_7 : parseMethodDescriptor "(I)Z" = some ⟨[.int], some .boolean⟩ := by decide +kernel
theorem pd_6 : parseMethodDescriptor "(I)Lcom/example/waymark/waymark/ber/BerReader;" = some ⟨[.int], some (.object "com/example/waymark/waymark/ber/BerReader")⟩ := by decide +kernel
theorem pd_5 : parseMethodDescriptor "()Z" = some ⟨[], some .boolean⟩ := by decide +kernel
theorem pd_4 : parseMethodDescriptor "([B)V" = some ⟨[(.array .byte)], none⟩ := by decide +kernel
theorem pd_3 : parseMethodDescriptor "(I)I" = some ⟨[.int], some .int⟩ := by decide +kernel
theorem pd_2 : parseMethodDescriptor "([BII)V" = some ⟨[(.array .byte), .int, .int], none⟩ := by decide +kernel
theorem pd_1 : parseMethodDescriptor "(Lcom/example/waymark/waymark/ber/BerReader$ByteSource;)J" = some ⟨[(.object "com/example/waymark/waymark/ber/BerReader$ByteSource")], some .long⟩ := by decide +kernel
theorem pd_0 : parseMethodDescriptor "()I" = some ⟨[], some .int⟩ := by decide +kernel
theorem own_rng4 {v : Int32} (h0 : 0 ≤ v.toInt) (h1 : v.toInt < 4) : v = 0 ∨ v = 1 ∨ v = 2 ∨ v = 3 := by
  rcases (by omega : v.toInt = 0 ∨ v.toInt = 1 ∨ v.toInt = 2 ∨ v.toInt = 3) with h | h | h | h
  · exact Or.inl (Int32.toInt_inj.mp (h.trans (by decide)))
  · exact Or.inr (Or.inl (Int32.toInt_inj.mp (h.trans (by decide))))
  · exact Or.inr (Or.inr (Or.inl (Int32.toInt_inj.mp (h.trans (by decide)))))
  · exact Or.inr (Or.inr (Or.inr ((Int32.toInt_inj.mp (h.trans (by decide))))))
theorem own_and3 (x : Int32) : x &&& 3 = 0 ∨ x &&& 3 = 1 ∨ x &&& 3 = 2 ∨ x &&& 3 = 3 := by
  have e := c_mask x 3 2 (by decide) (by decide)
  exact own_rng4 (by rw [e]; omega) (by rw [e]; omega)
theorem own_rng3 {v : Int32} (h0 : 0 ≤ v.toInt) (h1 : v.toInt < 3) : v = 0 ∨ v = 1 ∨ v = 2 := by
  rcases (by omega : v.toInt = 0 ∨ v.toInt = 1 ∨ v.toInt = 2) with h | h | h
  · exact Or.inl (Int32.toInt_inj.mp (h.trans (by decide)))
  · exact Or.inr (Or.inl (Int32.toInt_inj.mp (h.trans (by decide))))
  · exact Or.inr (Or.inr ((Int32.toInt_inj.mp (h.trans (by decide)))))
theorem d4_0 : decode prog_2_method_4_code 0 = .ok (.aload_n 0, 1) := by decide +kernel
theorem d4_1 : decode prog_2_method_4_code 1 = .ok (.getfield 16, 3) := by decide +kernel
theorem d4_4 : decode prog_2_method_4_code 4 = .ok (.aload_n 0, 1) := by decide +kernel
theorem d4_5 : decode prog_2_method_4_code 5 = .ok (.getfield 20, 3) := by decide +kernel
theorem d4_8 : decode prog_2_method_4_code 8 = .ok (.if_icmp .ge 7, 3) := by decide +kernel
theorem d4_11 : decode prog_2_method_4_code 11 = .ok (.iconst 1, 1) := by decide +kernel
theorem d4_12 : decode prog_2_method_4_code 12 = .ok (.goto 4, 3) := by decide +kernel
theorem d4_15 : decode prog_2_method_4_code 15 = .ok (.iconst 0, 1) := by decide +kernel
theorem d4_16 : decode prog_2_method_4_code 16 = .ok (.ireturn, 1) := by decide +kernel
theorem pn_rm_has : plainFor mn0 = true := plainFor_of_name (show plainName "com/example/waymark/waymark/ber/BerReader" = true by first | (simp [plainName, overriddenIn]; done) | decide +kernel)
set_option maxRecDepth 65536 in
set_option maxHeartbeats 40000000 in
theorem rm_has (l : Launch) (Z : State) (a0 : Array Value) (hw : ∀ d ∈ tables_1, d.before a0 Z = true) (r b : Addr) (N : Nat) (f : Nat → Int32) (pp en : Nat) (x : Int32) (h0 : Heap) (F0 : RD Z h0 r b N f pp en) (hx : (if pp < en then 1 else 0) = x) :
    OMeets l Z mn0 prog_2_method_4_code 1 (some .boolean) [] ({ frames := 0, cells := 0, slots := 0, locals := 0 } : Room) #[(.ref r)] h0 (PureQ (some (.int x)) h0) := by
  refine OMeets.of pn_rm_has #[.val (.ref r)] (fun m => by first | rfl | (simp [entryFrame, mkF, argsToLocals, Value.category, maxLocals]; done)) ?_
  intro p e s m below meth c s₁ B X0 e0
  have hS := F0.2.2.2.2
  refine s_aloadN B X0 (pc' := 1) d4_0 rfl rfl rfl ?_
  refine s_getF B X0 (pc' := 4) e0 (host := "") (Or.inl (tw15 hw)) Via.refl F0.2.1.2.1 d4_1 rfl (fun T1 X1 e1 => ?_)
  refine s_aloadN B X1 (pc' := 5) d4_4 rfl rfl rfl ?_
  refine s_getF B X1 (pc' := 8) e1 (host := "") (Or.inl (tw17 hw)) Via.refl F0.2.1.2.2 d4_5 rfl (fun T2 X2 e2 => ?_)
  refine b_icmp_ge B X2 (py := 15) (pn := 11) d4_8 (by decide) (by decide) rfl (fun hc8_3 => ?_) (fun hc8_3 => ?_)
  · refine s_iconst B X2 (pc' := 16) (v := (0 : Int32)) d4_15 rfl rfl ?_
    exact r_nar B X2 (t := .boolean) (by simp) rfl d4_16 ⟨congrArg (fun z => some (Value.int z)) ((if_neg (mt (sm_lt (x := pp) (y := en) (by omega) (by omega)).mpr hc8_3)).symm.trans hx), rfl, e2⟩ (by decide) (by decide)
  · refine s_iconst B X2 (pc' := 12) (v := (1 : Int32)) d4_11 rfl rfl ?_
    refine s_goto B X2 (pc' := 16) d4_12 (by decide) (by decide) ?_
    exact r_nar B X2 (t := .boolean) (by simp) rfl d4_16 ⟨congrArg (fun z => some (Value.int z)) ((if_pos ((sm_lt (x := pp) (y := en) (by omega) (by omega)).mp hc8_3)).symm.trans hx), rfl, e2⟩ (by decide) (by decide)
theorem d7_0 : decode prog_2_method_5_code 0 = .ok (.aload_n 0, 1) := by decide +kernel
theorem d7_1 : decode prog_2_method_5_code 1 = .ok (.getfield 16, 3) := by decide +kernel
theorem d7_4 : decode prog_2_method_5_code 4 = .ok (.aload_n 0, 1) := by decide +kernel
theorem d7_5 : decode prog_2_method_5_code 5 = .ok (.getfield 20, 3) := by decide +kernel
theorem d7_8 : decode prog_2_method_5_code 8 = .ok (.if_icmp .lt 13, 3) := by decide +kernel
theorem d7_21 : decode prog_2_method_5_code 21 = .ok (.aload_n 0, 1) := by decide +kernel
theorem d7_22 : decode prog_2_method_5_code 22 = .ok (.getfield 12, 3) := by decide +kernel
theorem d7_25 : decode prog_2_method_5_code 25 = .ok (.aload_n 0, 1) := by decide +kernel
theorem d7_26 : decode prog_2_method_5_code 26 = .ok (.getfield 16, 3) := by decide +kernel
theorem d7_29 : decode prog_2_method_5_code 29 = .ok (.baload, 1) := by decide +kernel
theorem d7_30 : decode prog_2_method_5_code 30 = .ok (.sipush 255, 3) := by decide +kernel
theorem d7_33 : decode prog_2_method_5_code 33 = .ok (.iand, 1) := by decide +kernel
theorem d7_34 : decode prog_2_method_5_code 34 = .ok (.ireturn, 1) := by decide +kernel
theorem pn_rm_peek : plainFor mn1 = true := plainFor_of_name (show plainName "com/example/waymark/waymark/ber/BerReader" = true by first | (simp [plainName, overriddenIn]; done) | decide +kernel)
set_option maxRecDepth 65536 in
set_option maxHeartbeats 40000000 in
theorem rm_peek (l : Launch) (Z : State) (a0 : Array Value) (hw : ∀ d ∈ tables_1, d.before a0 Z = true) (r b : Addr) (N : Nat) (f : Nat → Int32) (pp en : Nat) (n : Nat) (h0 : Heap) (F0 : RD Z h0 r b N f pp en) (hlt : pp < en) (hv : f pp &&& 255 = Int32.ofNat n) :
    OMeets l Z mn1 prog_2_method_5_code 1 (some .int) [] ({ frames := 0, cells := 0, slots := 0, locals := 0 } : Room) #[(.ref r)] h0 (PureQ (some (.int (Int32.ofNat n))) h0) := by
  refine OMeets.of pn_rm_peek #[.val (.ref r)] (fun m => by first | rfl | (simp [entryFrame, mkF, argsToLocals, Value.category, maxLocals]; done)) ?_
  intro p e s m below meth c s₁ B X0 e0
  have hS := F0.2.2.2.2
  refine s_aloadN B X0 (pc' := 1) d7_0 rfl rfl rfl ?_
  refine s_getF B X0 (pc' := 4) e0 (host := "") (Or.inl (tw15 hw)) Via.refl F0.2.1.2.1 d7_1 rfl (fun T1 X1 e1 => ?_)
  refine s_aloadN B X1 (pc' := 5) d7_4 rfl rfl rfl ?_
  refine s_getF B X1 (pc' := 8) e1 (host := "") (Or.inl (tw17 hw)) Via.refl F0.2.1.2.2 d7_5 rfl (fun T2 X2 e2 => ?_)
  refine b_icmp_lt B X2 (py := 21) (pn := 11) d7_8 (by decide) (by decide) rfl (fun _ => ?_) (fun q => absurd ((sm_lt (by omega) (by omega)).mpr hlt) q)
  refine s_aloadN B X2 (pc' := 22) d7_21 rfl rfl rfl ?_
  refine s_getF B X2 (pc' := 25) e2 (host := "") (Or.inl (tw13 hw)) Via.refl F0.2.1.1 d7_22 rfl (fun T3 X3 e3 => ?_)
  refine s_aloadN B X3 (pc' := 26) d7_25 rfl rfl rfl ?_
  refine s_getF B X3 (pc' := 29) e3 (host := "") (Or.inl (tw15 hw)) Via.refl F0.2.1.2.1 d7_26 rfl (fun T4 X4 e4 => ?_)
  refine s_ldBA B X4 (pc' := 30) (j := pp) e4 F0.2.2.1 (by omega) (by omega) d7_29 rfl ?_
  refine s_sipush B X4 (pc' := 33) (v := (255 : Int32)) d7_30 rfl rfl ?_
  refine s_iand B X4 (pc' := 34) (v := (Int32.ofNat n)) d7_33 (hv) rfl ?_
  exact r_int B X4 rfl d7_34 ⟨rfl, rfl, e4⟩ (by decide) (by decide)
theorem d9_0 : decode prog_2_method_14_code 0 = .ok (.aload_n 0, 1) := by decide +kernel
theorem d9_1 : decode prog_2_method_14_code 1 = .ok (.getfield 16, 3) := by decide +kernel
theorem d9_4 : decode prog_2_method_14_code 4 = .ok (.aload_n 0, 1) := by decide +kernel
theorem d9_5 : decode prog_2_method_14_code 5 = .ok (.getfield 20, 3) := by decide +kernel
theorem d9_8 : decode prog_2_method_14_code 8 = .ok (.if_icmp .lt 13, 3) := by decide +kernel
theorem d9_21 : decode prog_2_method_14_code 21 = .ok (.aload_n 0, 1) := by decide +kernel
theorem d9_22 : decode prog_2_method_14_code 22 = .ok (.getfield 12, 3) := by decide +kernel
theorem d9_25 : decode prog_2_method_14_code 25 = .ok (.aload_n 0, 1) := by decide +kernel
theorem d9_26 : decode prog_2_method_14_code 26 = .ok (.dup, 1) := by decide +kernel
theorem d9_27 : decode prog_2_method_14_code 27 = .ok (.getfield 16, 3) := by decide +kernel
theorem d9_30 : decode prog_2_method_14_code 30 = .ok (.dup_x1, 1) := by decide +kernel
theorem d9_31 : decode prog_2_method_14_code 31 = .ok (.iconst 1, 1) := by decide +kernel
theorem d9_32 : decode prog_2_method_14_code 32 = .ok (.iadd, 1) := by decide +kernel
theorem d9_33 : decode prog_2_method_14_code 33 = .ok (.putfield 16, 3) := by decide +kernel
theorem d9_36 : decode prog_2_method_14_code 36 = .ok (.baload, 1) := by decide +kernel
theorem d9_37 : decode prog_2_method_14_code 37 = .ok (.sipush 255, 3) := by decide +kernel
theorem d9_40 : decode prog_2_method_14_code 40 = .ok (.iand, 1) := by decide +kernel
theorem d9_41 : decode prog_2_method_14_code 41 = .ok (.ireturn, 1) := by decide +kernel
theorem pn_rm_next : plainFor mn2 = true := plainFor_of_name (show plainName "com/example/waymark/waymark/ber/BerReader" = true by first | (simp [plainName, overriddenIn]; done) | decide +kernel)
set_option maxRecDepth 65536 in
set_option maxHeartbeats 40000000 in
theorem rm_next (l : Launch) (Z : State) (a0 : Array Value) (hw : ∀ d ∈ tables_1, d.before a0 Z = true) (r b : Addr) (N : Nat) (f : Nat → Int32) (pp en : Nat) (n : Nat) (h0 : Heap) (F0 : RD Z h0 r b N f pp en) (hlt : pp < en) (hv : f pp &&& 255 = Int32.ofNat n) :
    OMeets l Z mn2 prog_2_method_14_code 1 (some .int) [] ({ frames := 0, cells := 0, slots := 0, locals := 0 } : Room) #[(.ref r)] h0 (fun v h L => v = some (.int (Int32.ofNat n)) ∧ Fr Z.heap.size L ∧ Keep h0 h [r] ∧ RD Z h r b N f (pp + 1) en) := by
  refine OMeets.of pn_rm_next #[.val (.ref r)] (fun m => by first | rfl | (simp [entryFrame, mkF, argsToLocals, Value.category, maxLocals]; done)) ?_
  intro p e s m below meth c s₁ B X0 e0
  have hS := F0.2.2.2.2
  refine s_aloadN B X0 (pc' := 1) d9_0 rfl rfl rfl ?_
  refine s_getF B X0 (pc' := 4) e0 (host := "") (Or.inl (tw15 hw)) Via.refl F0.2.1.2.1 d9_1 rfl (fun T1 X1 e1 => ?_)
  refine s_aloadN B X1 (pc' := 5) d9_4 rfl rfl rfl ?_
  refine s_getF B X1 (pc' := 8) e1 (host := "") (Or.inl (tw17 hw)) Via.refl F0.2.1.2.2 d9_5 rfl (fun T2 X2 e2 => ?_)
  refine b_icmp_lt B X2 (py := 21) (pn := 11) d9_8 (by decide) (by decide) rfl (fun _ => ?_) (fun q => absurd ((sm_lt (by omega) (by omega)).mpr hlt) q)
  refine s_aloadN B X2 (pc' := 22) d9_21 rfl rfl rfl ?_
  refine s_getF B X2 (pc' := 25) e2 (host := "") (Or.inl (tw13 hw)) Via.refl F0.2.1.1 d9_22 rfl (fun T3 X3 e3 => ?_)
  refine s_aloadN B X3 (pc' := 26) d9_25 rfl rfl rfl ?_
  refine s_dup B X3 (pc' := 27) d9_26 rfl rfl ?_
  refine s_getF B X3 (pc' := 30) e3 (host := "") (Or.inl (tw15 hw)) Via.refl F0.2.1.2.1 d9_27 rfl (fun T4 X4 e4 => ?_)
  refine s_dup_x1 B X4 (pc' := 31) d9_30 rfl rfl rfl ?_
  refine s_iconst B X4 (pc' := 32) (v := (1 : Int32)) d9_31 rfl rfl ?_
  refine s_iadd B X4 (pc' := 33) (v := (Int32.ofNat (pp + 1))) d9_32 (sm_succ (by omega)) rfl ?_
  refine s_putF B X4 (pc' := 36) (ty := .int) e4 (host := "") (Or.inl (tw15 hw)) Via.refl F0.2.1.2.1 F0.1 (Or.inl (tw16 hw)) (tw1 hw) (by decide) rfl rfl d9_33 rfl (fun T5 h5 X5 e5 W5 => ?_)
  have N5 := Fr.snoc X5 (Fr.nil _) F0.2.2.2.1.1
  have F5 := F0.setp (Or.inr (tw14 hw)) (Or.inl (tw16 hw)) (Or.inr (tw18 hw)) W5 (p' := (pp + 1)) (by omega)
  have K5 := ((Keep.refl h0 [r])).wr W5 (Or.inl (List.mem_of_getElem? (i := 0) rfl))
  show Go p e below _ (T5.setTop (mkF m 36 #[.val (.ref r)] [(.int (Int32.ofNat pp)), (.ref b)]))
  refine s_ldBA B X5 (pc' := 37) (j := pp) e5 F5.2.2.1 (by omega) (by omega) d9_36 rfl ?_
  refine s_sipush B X5 (pc' := 40) (v := (255 : Int32)) d9_37 rfl rfl ?_
  refine s_iand B X5 (pc' := 41) (v := (Int32.ofNat n)) d9_40 (hv) rfl ?_
  exact r_int B X5 rfl d9_41 (by rw [e5]; exact ⟨rfl, N5, K5, F5⟩) (by decide) (by decide)
def sg : Lambda.Shape := (Jvm.Lambda.Shape.mk "com/example/waymark/waymark/ber/BerReader$ByteSource" "next" (Jvm.ClassFile.MethodDescriptor.mk ([] : List Jvm.ClassFile.FieldType) (Option.some Jvm.ClassFile.FieldType.int)) ([(Jvm.ClassFile.FieldType.object "com/example/waymark/waymark/ber/BerReader")] : List Jvm.ClassFile.FieldType) (5 : Nat) "com/example/waymark/waymark/ber/BerReader" "lambda$header$1" (Jvm.ClassFile.MethodDescriptor.mk ([] : List Jvm.ClassFile.FieldType) (Option.some Jvm.ClassFile.FieldType.int)) false (Jvm.ClassFile.MethodDescriptor.mk ([] : List Jvm.ClassFile.FieldType) (Option.some Jvm.ClassFile.FieldType.int)))
def fwd : ByteArray := ⟨#[0x2a, 0xb4, 0, 15, 0xb6, 0, 22, 0xac]⟩
abbrev fwd_fi : Nat := 15
theorem fwd_ok : Jvm.LamKit.fwdOK sg "com/example/waymark/waymark/ber/BerReader" fwd 1 (some .int) 22 19 = true := by decide +kernel
theorem fwd_cap : Jvm.LamKit.capOK sg "com/example/waymark/waymark/ber/BerReader" 15 0 = true := by decide +kernel
theorem fwd_0 : decode fwd 0 = .ok (.aload_n 0, 1) := by decide +kernel
theorem fwd_1 : decode fwd 1 = .ok (.getfield 15, 3) := by decide +kernel
theorem fwd_4 : decode fwd 4 = .ok (.invokevirtual 22, 3) := by decide +kernel
theorem fwd_7 : decode fwd 7 = .ok (.ireturn, 1) := by decide +kernel
theorem d8_0 : decode prog_2_method_13_code 0 = .ok (.aload_n 0, 1) := by decide +kernel
theorem d8_1 : decode prog_2_method_13_code 1 = .ok (.invokeinterface 108 1, 5) := by decide +kernel
theorem d8_6 : decode prog_2_method_13_code 6 = .ok (.istore_n 1, 1) := by decide +kernel
theorem d8_7 : decode prog_2_method_13_code 7 = .ok (.iload_n 1, 1) := by decide +kernel
theorem d8_8 : decode prog_2_method_13_code 8 = .ok (.sipush 128, 3) := by decide +kernel
theorem d8_11 : decode prog_2_method_13_code 11 = .ok (.if_icmp .ge 6, 3) := by decide +kernel
theorem d8_14 : decode prog_2_method_13_code 14 = .ok (.iload_n 1, 1) := by decide +kernel
theorem d8_15 : decode prog_2_method_13_code 15 = .ok (.i2l, 1) := by decide +kernel
theorem d8_16 : decode prog_2_method_13_code 16 = .ok (.lreturn, 1) := by decide +kernel
theorem pn_rm_readLength : plainFor mn4 = true := plainFor_of_name (show plainName "com/example/waymark/waymark/ber/BerReader" = true by first | (simp [plainName, overriddenIn]; done) | decide +kernel)
set_option maxRecDepth 65536 in
set_option maxHeartbeats 40000000 in
theorem rm_readLength (l : Launch) (Z : State) (a0 : Array Value) (hw : ∀ d ∈ tables_1, d.before a0 Z = true) (fn : Addr) (cK : ClassId) (r b : Addr) (N : Nat) (f : Nat → Int32) (pp en : Nat) (n : Nat) (h0 : Heap) (hmd : Jvm.LamKit.Made Z "com/example/waymark/waymark/ber/BerReader" sg cK) (FN0 : FN h0 fn cK r) (F0 : RD Z h0 r b N f pp en) (hlt : pp < en) (hn : n < 64) (hv : f pp &&& 255 = Int32.ofNat n) :
    OMeets l Z mn4 prog_2_method_13_code 6 (some .long) [] ({ frames := 2, cells := 0, slots := 0, locals := 24 } : Room) #[(.ref fn)] h0 (fun v h L => v = some (.long (Int32.ofNat n).toInt64) ∧ Fr Z.heap.size L ∧ Keep h0 h [r] ∧ RD Z h r b N f (pp + 1) en) := by
  refine OMeets.of pn_rm_readLength #[.val (.ref fn), .unset, .unset, .unset, .unset, .unset] (fun m => by first | rfl | (simp [entryFrame, mkF, argsToLocals, Value.category, maxLocals]; done)) ?_
  intro p e s m below meth c s₁ B X0 e0
  have hS := F0.2.2.2.2
  have hn128 : Int32.ofNat n < 128 := (by decide +kernel : ∀ x : Fin 64, Int32.ofNat x.1 < 128) ⟨n, hn⟩
  refine s_aloadN B X0 (pc' := 1) d8_0 rfl rfl rfl ?_
  refine c_lam B X0 (xi := mn3) (y := mn2) (pc' := 6) (under := []) (W := 0) (fcode := fwd) e0 (tw45 hw) (tw46 hw) (tw47 hw) (tw49 hw) (tw48 hw) (tw50 hw) (tw2 hw) (tw1 hw) (tw41 hw) hmd FN0 F0.1 ⟨rfl, rfl, rfl⟩ ⟨rfl, rfl, rfl⟩ (by decide) (by decide) fwd_ok fwd_cap fwd_0 fwd_1 fwd_4 fwd_7 (lenOf pd_0 rfl) (lenOf pd_0 rfl) (rm_next l Z a0 hw r b N f pp en n h0 F0 hlt hv) (fun _ _ _ q => ⟨_, q.1⟩) rfl rfl (by decide) (by decide) (by decide) (by decide) rfl d8_1 rfl (fun v1 T1 L1 X1 hQ1 => ?_)
  obtain ⟨rfl, Nq1, Kq1, Fq1⟩ := hQ1
  obtain ⟨h1, e1⟩ : ∃ z, T1.heap = z := ⟨_, rfl⟩
  rw [e1] at Kq1 Fq1
  have N1 := Fr.app (Fr.nil _) Nq1
  show Go p e below _ (T1.setTop (mkF m 6 #[.val (.ref fn), .unset, .unset, .unset, .unset, .unset] [(.int (Int32.ofNat n))]))
  refine s_istoreN B X1 (pc' := 7) (Ls' := #[.val (.ref fn), .val (.int (Int32.ofNat n)), .unset, .unset, .unset, .unset]) d8_6 rfl rfl ?_
  refine s_iloadN B X1 (pc' := 8) d8_7 rfl rfl ?_
  refine s_sipush B X1 (pc' := 11) (v := (128 : Int32)) d8_8 rfl rfl ?_
  refine b_icmp_ge B X1 (py := 17) (pn := 14) d8_11 (by decide) (by decide) rfl (fun q => absurd hn128 q) (fun _ => ?_)
  refine s_iloadN B X1 (pc' := 15) d8_14 rfl rfl ?_
  refine s_i2l B X1 (pc' := 16) (v := (Int32.ofNat n).toInt64) d8_15 rfl rfl ?_
  exact r_long B X1 rfl d8_16 (by rw [e1]; exact ⟨rfl, N1, Kq1, Fq1⟩) (by decide) (by decide)
theorem d6_0 : decode prog_2_method_11_code 0 = .ok (.aload_n 0, 1) := by decide +kernel
theorem d6_1 : decode prog_2_method_11_code 1 = .ok (.invokevirtual 99, 3) := by decide +kernel
theorem d6_4 : decode prog_2_method_11_code 4 = .ok (.istore_n 2, 1) := by decide +kernel
theorem d6_5 : decode prog_2_method_11_code 5 = .ok (.iload_n 2, 1) := by decide +kernel
theorem d6_6 : decode prog_2_method_11_code 6 = .ok (.iload_n 1, 1) := by decide +kernel
theorem d6_7 : decode prog_2_method_11_code 7 = .ok (.if_icmp .eq 9, 3) := by decide +kernel
theorem d6_16 : decode prog_2_method_11_code 16 = .ok (.aload_n 0, 1) := by decide +kernel
theorem d6_17 : decode prog_2_method_11_code 17 = .ok (.dup, 1) := by decide +kernel
theorem d6_18 : decode prog_2_method_11_code 18 = .ok (.getfield 16, 3) := by decide +kernel
theorem d6_21 : decode prog_2_method_11_code 21 = .ok (.iconst 1, 1) := by decide +kernel
theorem d6_22 : decode prog_2_method_11_code 22 = .ok (.iadd, 1) := by decide +kernel
theorem d6_23 : decode prog_2_method_11_code 23 = .ok (.putfield 16, 3) := by decide +kernel
theorem d6_26 : decode prog_2_method_11_code 26 = .ok (.aload_n 0, 1) := by decide +kernel
theorem d6_27 : decode prog_2_method_11_code 27 = .ok (.invokedynamic 102, 5) := by decide +kernel
theorem d6_32 : decode prog_2_method_11_code 32 = .ok (.invokestatic 37, 3) := by decide +kernel
theorem d6_35 : decode prog_2_method_11_code 35 = .ok (.lstore_n 3, 1) := by decide +kernel
theorem d6_36 : decode prog_2_method_11_code 36 = .ok (.lload_n 3, 1) := by decide +kernel
theorem d6_37 : decode prog_2_method_11_code 37 = .ok (.aload_n 0, 1) := by decide +kernel
theorem d6_38 : decode prog_2_method_11_code 38 = .ok (.getfield 20, 3) := by decide +kernel
theorem d6_41 : decode prog_2_method_11_code 41 = .ok (.aload_n 0, 1) := by decide +kernel
theorem d6_42 : decode prog_2_method_11_code 42 = .ok (.getfield 16, 3) := by decide +kernel
theorem d6_45 : decode prog_2_method_11_code 45 = .ok (.isub, 1) := by decide +kernel
theorem d6_46 : decode prog_2_method_11_code 46 = .ok (.i2l, 1) := by decide +kernel
theorem d6_47 : decode prog_2_method_11_code 47 = .ok (.lcmp, 1) := by decide +kernel
theorem d6_48 : decode prog_2_method_11_code 48 = .ok (.ifCond .le 26, 3) := by decide +kernel
theorem d6_74 : decode prog_2_method_11_code 74 = .ok (.lload_n 3, 1) := by decide +kernel
theorem d6_75 : decode prog_2_method_11_code 75 = .ok (.l2i, 1) := by decide +kernel
theorem d6_76 : decode prog_2_method_11_code 76 = .ok (.ireturn, 1) := by decide +kernel
theorem pn_rm_header : plainFor mn5 = true := plainFor_of_name (show plainName "com/example/waymark/waymark/ber/BerReader" = true by first | (simp [plainName, overriddenIn]; done) | decide +kernel)
set_option maxRecDepth 65536 in
set_option maxHeartbeats 40000000 in
theorem rm_header (l : Launch) (Z : State) (a0 : Array Value) (hw : ∀ d ∈ tables_1, d.before a0 Z = true) (r b : Addr) (N : Nat) (f : Nat → Int32) (pp en : Nat) (tg n : Nat) (h0 : Heap) (F0 : RD Z h0 r b N f pp en) (hn : n < 64) (hen : pp + 2 + n ≤ en) (ht : f pp &&& 255 = Int32.ofNat tg) (hv : f (pp + 1) &&& 255 = Int32.ofNat n) :
    OMeets l Z mn5 prog_2_method_11_code 5 (some .int) [] ({ frames := 3, cells := 1, slots := 1, locals := 3073 } : Room) #[(.ref r), (.int (Int32.ofNat tg))] h0 (fun v h L => v = some (.int (Int32.ofNat n)) ∧ Fr Z.heap.size L ∧ Keep h0 h [r] ∧ RD Z h r b N f (pp + 1 + 1) en) := by
  refine OMeets.ofN pn_rm_header #[.val (.ref r), .val (.int (Int32.ofNat tg)), .unset, .unset, .unset] (fun m => by first | rfl | (simp [entryFrame, mkF, argsToLocals, Value.category, maxLocals]; done)) ?_
  intro p e s m below meth c s₁ B hnm X0 e0
  have hS := F0.2.2.2.2
  refine s_aloadN B X0 (pc' := 1) d6_0 rfl rfl rfl ?_
  refine p_virtual B X0 (y := mn1) (pc' := 4) (argsL := []) (under := []) (W := 0) e0 (tw33 hw) (tw34 hw) (tw36 hw) (tw35 hw) (tw37 hw) (tw2 hw) (by decide) (rm_peek l Z a0 hw r b N f pp en tg h0 F0 (by omega) ht) F0.1 (lenOf pd_0 rfl) rfl rfl (by decide) (by decide) rfl rfl (by decide) (by decide) rfl d6_1 rfl (fun T1 X1 e1 => ?_)
  show Go p e below _ (T1.setTop (mkF m 4 #[.val (.ref r), .val (.int (Int32.ofNat tg)), .unset, .unset, .unset] [(.int (Int32.ofNat tg))]))
  refine s_istoreN B X1 (pc' := 5) (Ls' := #[.val (.ref r), .val (.int (Int32.ofNat tg)), .val (.int (Int32.ofNat tg)), .unset, .unset]) d6_4 rfl rfl ?_
  refine s_iloadN B X1 (pc' := 6) d6_5 rfl rfl ?_
  refine s_iloadN B X1 (pc' := 7) d6_6 rfl rfl ?_
  refine b_icmp_eq B X1 (py := 16) (pn := 10) d6_7 (by decide) (by decide) rfl (fun _ => ?_) (fun q => absurd rfl q)
  refine s_aloadN B X1 (pc' := 17) d6_16 rfl rfl rfl ?_
  refine s_dup B X1 (pc' := 18) d6_17 rfl rfl ?_
  refine s_getF B X1 (pc' := 21) e1 (host := "") (Or.inl (tw15 hw)) Via.refl F0.2.1.2.1 d6_18 rfl (fun T2 X2 e2 => ?_)
  refine s_iconst B X2 (pc' := 22) (v := (1 : Int32)) d6_21 rfl rfl ?_
  refine s_iadd B X2 (pc' := 23) (v := (Int32.ofNat (pp + 1))) d6_22 (sm_succ (by omega)) rfl ?_
  refine s_putF B X2 (pc' := 26) (ty := .int) e2 (host := "") (Or.inl (tw15 hw)) Via.refl F0.2.1.2.1 F0.1 (Or.inl (tw16 hw)) (tw1 hw) (by decide) rfl rfl d6_23 rfl (fun T3 h3 X3 e3 W3 => ?_)
  have N3 := Fr.snoc X3 (Fr.nil _) F0.2.2.2.1.1
  have F3 := F0.setp (Or.inr (tw14 hw)) (Or.inl (tw16 hw)) (Or.inr (tw18 hw)) W3 (p' := (pp + 1)) (by omega)
  have K3 := ((Keep.refl h0 [r])).wr W3 (Or.inl (List.mem_of_getElem? (i := 0) rfl))
  show Go p e below _ (T3.setTop (mkF m 26 #[.val (.ref r), .val (.int (Int32.ofNat tg)), .val (.int (Int32.ofNat tg)), .unset, .unset] []))
  refine s_aloadN B X3 (pc' := 27) d6_26 rfl rfl rfl ?_
  refine s_site B X3 (x := mn5) (pc' := 32) (W := 0) (C := "com/example/waymark/waymark/ber/BerReader") (fi := fwd_fi) e3 hnm (tw38 hw) rfl fwd_cap (tw41 hw) rfl (by decide) (by decide) (by decide) rfl d6_27 rfl (fun T4 h4 fn cK g4 X4 e4 E4 hmd FN0 => ?_)
  have Kx4 := (Keep.refl h3 []).ext E4
  have F4 := F3.keep Kx4 nin0 nin0
  have K4 := (K3).ext E4
  replace hmd : Jvm.LamKit.Made Z "com/example/waymark/waymark/ber/BerReader" sg cK := hmd
  show Go p e below _ (T4.setTop (mkF m 32 #[.val (.ref r), .val (.int (Int32.ofNat tg)), .val (.int (Int32.ofNat tg)), .unset, .unset] [(.ref fn)]))
  refine c_static B X4 (y := mn4) (pc' := 35) (argsL := [(.ref fn)]) (under := []) (W := 0) e4 (tw42 hw) (tw43 hw) (tw44 hw) (tw2 hw) (by decide) (rm_readLength l Z a0 hw fn cK r b N f (pp + 1) en n h4 hmd FN0 F4 (by omega) hn hv)  (lenOf pd_1 rfl) rfl rfl (by decide) (by decide) (by decide) (by decide) rfl d6_32 rfl (fun v5 T5 L5 X5 hQ5 => ?_)
  obtain ⟨rfl, Nq5, Kq5, Fq5⟩ := hQ5
  obtain ⟨h5, e5⟩ : ∃ z, T5.heap = z := ⟨_, rfl⟩
  rw [e5] at Kq5 Fq5
  have N5 := Fr.app N3 Nq5
  have K5 := (K4).trans Kq5 (allS (Or.inl (List.mem_of_getElem? (i := 0) rfl)) all0)
  show Go p e below _ (T5.setTop (mkF m 35 #[.val (.ref r), .val (.int (Int32.ofNat tg)), .val (.int (Int32.ofNat tg)), .unset, .unset] [(.long (Int32.ofNat n).toInt64)]))
  refine s_lstoreN B X5 (pc' := 36) (Ls' := #[.val (.ref r), .val (.int (Int32.ofNat tg)), .val (.int (Int32.ofNat tg)), .val (.long (Int32.ofNat n).toInt64), .second]) d6_35 rfl rfl ?_
  refine s_lloadN B X5 (pc' := 37) d6_36 rfl rfl ?_
  refine s_aloadN B X5 (pc' := 38) d6_37 rfl rfl rfl ?_
  refine s_getF B X5 (pc' := 41) e5 (host := "") (Or.inl (tw17 hw)) Via.refl Fq5.2.1.2.2 d6_38 rfl (fun T6 X6 e6 => ?_)
  refine s_aloadN B X6 (pc' := 42) d6_41 rfl rfl rfl ?_
  refine s_getF B X6 (pc' := 45) e6 (host := "") (Or.inl (tw15 hw)) Via.refl Fq5.2.1.2.1 d6_42 rfl (fun T7 X7 e7 => ?_)
  refine s_isub B X7 (pc' := 46) (v := (Int32.ofNat (en - ((pp + 1) + 1)))) d6_45 (sm_subB (by omega) (by omega)) rfl ?_
  refine s_i2l B X7 (pc' := 47) (v := (Int32.ofNat (en - ((pp + 1) + 1))).toInt64) d6_46 rfl rfl ?_
  refine b_lcmp_le B X7 (py := 74) (pn := 51) d6_47 rfl d6_48 (by decide) (by decide) rfl (fun _ => ?_) (fun q => absurd q (fun z => by have := (sm_ltL (by omega) hn).mp z; omega))
  refine s_lloadN B X7 (pc' := 75) d6_74 rfl rfl ?_
  refine s_l2i B X7 (pc' := 76) (v := (Int32.ofNat n)) d6_75 (sm_l2i hn) rfl ?_
  exact r_int B X7 rfl d6_76 (by rw [e7]; exact ⟨rfl, N5, K5, Fq5⟩) (by decide) (by decide)
theorem d2_0 : decode prog_2_method_2_code 0 = .ok (.aload_n 0, 1) := by decide +kernel
theorem d2_1 : decode prog_2_method_2_code 1 = .ok (.invokespecial 7, 3) := by decide +kernel
theorem d2_4 : decode prog_2_method_2_code 4 = .ok (.aload_n 0, 1) := by decide +kernel
theorem d2_5 : decode prog_2_method_2_code 5 = .ok (.aload_n 1, 1) := by decide +kernel
theorem d2_6 : decode prog_2_method_2_code 6 = .ok (.putfield 12, 3) := by decide +kernel
theorem d2_9 : decode prog_2_method_2_code 9 = .ok (.aload_n 0, 1) := by decide +kernel
theorem d2_10 : decode prog_2_method_2_code 10 = .ok (.iload_n 2, 1) := by decide +kernel
theorem d2_11 : decode prog_2_method_2_code 11 = .ok (.putfield 16, 3) := by decide +kernel
theorem d2_14 : decode prog_2_method_2_code 14 = .ok (.aload_n 0, 1) := by decide +kernel
theorem d2_15 : decode prog_2_method_2_code 15 = .ok (.iload_n 3, 1) := by decide +kernel
theorem d2_16 : decode prog_2_method_2_code 16 = .ok (.putfield 20, 3) := by decide +kernel
theorem d2_19 : decode prog_2_method_2_code 19 = .ok (.return_, 1) := by decide +kernel
theorem pn_rm_init3 : plainFor mn6 = true := plainFor_of_name (show plainName "com/example/waymark/waymark/ber/BerReader" = true by first | (simp [plainName, overriddenIn]; done) | decide +kernel)
set_option maxRecDepth 65536 in
set_option maxHeartbeats 40000000 in
theorem rm_init3 (l : Launch) (Z : State) (a0 : Array Value) (hw : ∀ d ∈ tables_1, d.before a0 Z = true) (c0 b : Addr) (s0 e0_ : Int32) (h0 : Heap) (ge : Z.heap.size ≤ c0) (E0 : Exa Z h0 c0 "com/example/waymark/waymark/ber/BerReader") (D1 : Fld Z h0 c0 "com/example/waymark/waymark/ber/BerReader" "bytes" "[B" .null) (D2 : Fld Z h0 c0 "com/example/waymark/waymark/ber/BerReader" "position" "I" (.int (0 : Int32))) (D3 : Fld Z h0 c0 "com/example/waymark/waymark/ber/BerReader" "end" "I" (.int (0 : Int32))) :
    OMeets l Z mn6 prog_2_method_2_code 4 none [] ({ frames := 1, cells := 0, slots := 0, locals := 12 } : Room) #[(.ref c0), (.ref b), (.int s0), (.int e0_)] h0 (fun v h L => v = none ∧ Fr Z.heap.size L ∧ Keep h0 h [c0] ∧ Exa Z h c0 "com/example/waymark/waymark/ber/BerReader" ∧ Fld Z h c0 "com/example/waymark/waymark/ber/BerReader" "bytes" "[B" (.ref b) ∧ Fld Z h c0 "com/example/waymark/waymark/ber/BerReader" "position" "I" (.int s0) ∧ Fld Z h c0 "com/example/waymark/waymark/ber/BerReader" "end" "I" (.int e0_)) := by
  refine OMeets.of pn_rm_init3 #[.val (.ref c0), .val (.ref b), .val (.int s0), .val (.int e0_)] (fun m => by first | rfl | (simp [entryFrame, mkF, argsToLocals, Value.category, maxLocals]; done)) ?_
  intro p e s m below meth c s₁ B X0 e0
  refine s_aloadN B X0 (pc' := 1) d2_0 rfl rfl rfl ?_
  refine s_initO B X0 (pc' := 4) (W := 0) e0 (tw10 hw) (tw11 hw) (tw12 hw) rfl (by decide) (by decide) rfl d2_1 rfl (fun T1 X1 e1 => ?_)
  refine s_aloadN B X1 (pc' := 5) d2_4 rfl rfl rfl ?_
  refine s_aloadN B X1 (pc' := 6) d2_5 rfl rfl rfl ?_
  refine s_putF B X1 (pc' := 9) (ty := (.array .byte)) e1 (host := "") (Or.inl (tw13 hw)) Via.refl D1 E0 (Or.inr ⟨(tw14 hw), rfl, rfl⟩) (tw1 hw) (by decide) rfl rfl d2_6 rfl (fun T2 h2 X2 e2 W2 => ?_)
  have D2_bytes := D1.same W2
  have D2_position := D2.other W2 (Or.inr (slot_ne (Or.inl (tw16 hw)) (Or.inr (tw14 hw)) (by decide) (t := .int) (t' := (.array .byte)) (by decide) (by decide)))
  have D2_end := D3.other W2 (Or.inr (slot_ne (Or.inr (tw18 hw)) (Or.inr (tw14 hw)) (by decide) (t := .int) (t' := (.array .byte)) (by decide) (by decide)))
  have Ex2 := E0.wr W2
  have N2 := Fr.snoc X2 (Fr.nil _) ge
  have K2 := ((Keep.refl h0 [c0])).wr W2 (Or.inl (List.mem_of_getElem? (i := 0) rfl))
  show Go p e below _ (T2.setTop (mkF m 9 #[.val (.ref c0), .val (.ref b), .val (.int s0), .val (.int e0_)] []))
  refine s_aloadN B X2 (pc' := 10) d2_9 rfl rfl rfl ?_
  refine s_iloadN B X2 (pc' := 11) d2_10 rfl rfl ?_
  refine s_putF B X2 (pc' := 14) (ty := .int) e2 (host := "") (Or.inl (tw15 hw)) Via.refl D2_position Ex2 (Or.inl (tw16 hw)) (tw1 hw) (by decide) rfl rfl d2_11 rfl (fun T3 h3 X3 e3 W3 => ?_)
  have D3_bytes := D2_bytes.other W3 (Or.inr (slot_ne (Or.inr (tw14 hw)) (Or.inl (tw16 hw)) (by decide) (t := (.array .byte)) (t' := .int) (by decide) (by decide)))
  have D3_position := D2_position.same W3
  have D3_end := D2_end.other W3 (Or.inr (slot_ne (Or.inr (tw18 hw)) (Or.inl (tw16 hw)) (by decide) (t := .int) (t' := .int) (by decide) (by decide)))
  have Ex3 := Ex2.wr W3
  have N3 := Fr.snoc X3 N2 ge
  have K3 := (K2).wr W3 (Or.inl (List.mem_of_getElem? (i := 0) rfl))
  show Go p e below _ (T3.setTop (mkF m 14 #[.val (.ref c0), .val (.ref b), .val (.int s0), .val (.int e0_)] []))
  refine s_aloadN B X3 (pc' := 15) d2_14 rfl rfl rfl ?_
  refine s_iloadN B X3 (pc' := 16) d2_15 rfl rfl ?_
  refine s_putF B X3 (pc' := 19) (ty := .int) e3 (host := "") (Or.inl (tw17 hw)) Via.refl D3_end Ex3 (Or.inr ⟨(tw18 hw), rfl, rfl⟩) (tw1 hw) (by decide) rfl rfl d2_16 rfl (fun T4 h4 X4 e4 W4 => ?_)
  have D4_bytes := D3_bytes.other W4 (Or.inr (slot_ne (Or.inr (tw14 hw)) (Or.inr (tw18 hw)) (by decide) (t := (.array .byte)) (t' := .int) (by decide) (by decide)))
  have D4_position := D3_position.other W4 (Or.inr (slot_ne (Or.inl (tw16 hw)) (Or.inr (tw18 hw)) (by decide) (t := .int) (t' := .int) (by decide) (by decide)))
  have D4_end := D3_end.same W4
  have Ex4 := Ex3.wr W4
  have N4 := Fr.snoc X4 N3 ge
  have K4 := (K3).wr W4 (Or.inl (List.mem_of_getElem? (i := 0) rfl))
  show Go p e below _ (T4.setTop (mkF m 19 #[.val (.ref c0), .val (.ref b), .val (.int s0), .val (.int e0_)] []))
  exact r_void B X4 rfl d2_19 (by rw [e4]; exact ⟨rfl, N4, K4, Ex4, D4_bytes, D4_position, D4_end⟩) (by decide) (by decide)
theorem d1_0 : decode prog_2_method_1_code 0 = .ok (.aload_n 0, 1) := by decide +kernel
theorem d1_1 : decode prog_2_method_1_code 1 = .ok (.aload_n 1, 1) := by decide +kernel
theorem d1_2 : decode prog_2_method_1_code 2 = .ok (.iconst 0, 1) := by decide +kernel
theorem d1_3 : decode prog_2_method_1_code 3 = .ok (.aload_n 1, 1) := by decide +kernel
theorem d1_4 : decode prog_2_method_1_code 4 = .ok (.arraylength, 1) := by decide +kernel
theorem d1_5 : decode prog_2_method_1_code 5 = .ok (.invokespecial 1, 3) := by decide +kernel
theorem d1_8 : decode prog_2_method_1_code 8 = .ok (.return_, 1) := by decide +kernel
theorem pn_rm_init1 : plainFor mn7 = true := plainFor_of_name (show plainName "com/example/waymark/waymark/ber/BerReader" = true by first | (simp [plainName, overriddenIn]; done) | decide +kernel)
set_option maxRecDepth 65536 in
set_option maxHeartbeats 40000000 in
theorem rm_init1 (l : Launch) (Z : State) (a0 : Array Value) (hw : ∀ d ∈ tables_1, d.before a0 Z = true) (c0 b : Addr) (N : Nat) (f : Nat → Int32) (h0 : Heap) (ge : Z.heap.size ≤ c0) (E0 : Exa Z h0 c0 "com/example/waymark/waymark/ber/BerReader") (D1 : Fld Z h0 c0 "com/example/waymark/waymark/ber/BerReader" "bytes" "[B" .null) (D2 : Fld Z h0 c0 "com/example/waymark/waymark/ber/BerReader" "position" "I" (.int (0 : Int32))) (D3 : Fld Z h0 c0 "com/example/waymark/waymark/ber/BerReader" "end" "I" (.int (0 : Int32))) (A0 : BA Z h0 b N f) :
    OMeets l Z mn7 prog_2_method_1_code 2 none [] ({ frames := 2, cells := 0, slots := 0, locals := 27 } : Room) #[(.ref c0), (.ref b)] h0 (fun v h L => v = none ∧ Fr Z.heap.size L ∧ Keep h0 h [c0] ∧ Exa Z h c0 "com/example/waymark/waymark/ber/BerReader" ∧ Fld Z h c0 "com/example/waymark/waymark/ber/BerReader" "bytes" "[B" (.ref b) ∧ Fld Z h c0 "com/example/waymark/waymark/ber/BerReader" "position" "I" (.int (0 : Int32)) ∧ Fld Z h c0 "com/example/waymark/waymark/ber/BerReader" "end" "I" (.int (Int32.ofNat N))) := by
  refine OMeets.of pn_rm_init1 #[.val (.ref c0), .val (.ref b)] (fun m => by first | rfl | (simp [entryFrame, mkF, argsToLocals, Value.category, maxLocals]; done)) ?_
  intro p e s m below meth c s₁ B X0 e0
  refine s_aloadN B X0 (pc' := 1) d1_0 rfl rfl rfl ?_
  refine s_aloadN B X0 (pc' := 2) d1_1 rfl rfl rfl ?_
  refine s_iconst B X0 (pc' := 3) (v := (0 : Int32)) d1_2 rfl rfl ?_
  refine s_aloadN B X0 (pc' := 4) d1_3 rfl rfl rfl ?_
  obtain ⟨kB, AB⟩ := A0.1
  refine s_len B X0 (pc' := 5) (v := (Int32.ofNat N)) e0 AB rfl d1_4 rfl ?_
  refine c_init B X0 (y := mn6) (pc' := 8) (argsL := [(.ref b), (.int (0 : Int32)), (.int (Int32.ofNat N))]) (under := []) (W := 0) e0 rfl (tw7 hw) (tw8 hw) (tw9 hw) (tw2 hw) (by decide) (rm_init3 l Z a0 hw c0 b 0 (Int32.ofNat N) h0 ge E0 D1 D2 D3)  (lenOf pd_2 rfl) rfl rfl (by decide) (by decide) (by decide) (by decide) rfl d1_5 rfl (fun v1 T1 L1 X1 hQ1 => ?_)
  obtain ⟨rfl, hq1⟩ := hQ1
  show Go p e below _ (T1.setTop (mkF m 8 #[.val (.ref c0), .val (.ref b)] []))
  exact r_void B X1 rfl d1_8 ⟨rfl, hq1⟩ (by decide) (by decide)
theorem d5_0 : decode prog_2_method_6_code 0 = .ok (.aload_n 0, 1) := by decide +kernel
theorem d5_1 : decode prog_2_method_6_code 1 = .ok (.iload_n 1, 1) := by decide +kernel
theorem d5_2 : decode prog_2_method_6_code 2 = .ok (.invokevirtual 62, 3) := by decide +kernel
theorem d5_5 : decode prog_2_method_6_code 5 = .ok (.istore_n 2, 1) := by decide +kernel
theorem d5_6 : decode prog_2_method_6_code 6 = .ok (.new 2, 3) := by decide +kernel
theorem d5_9 : decode prog_2_method_6_code 9 = .ok (.dup, 1) := by decide +kernel
theorem d5_10 : decode prog_2_method_6_code 10 = .ok (.aload_n 0, 1) := by decide +kernel
theorem d5_11 : decode prog_2_method_6_code 11 = .ok (.getfield 12, 3) := by decide +kernel
theorem d5_14 : decode prog_2_method_6_code 14 = .ok (.aload_n 0, 1) := by decide +kernel
theorem d5_15 : decode prog_2_method_6_code 15 = .ok (.getfield 16, 3) := by decide +kernel
theorem d5_18 : decode prog_2_method_6_code 18 = .ok (.aload_n 0, 1) := by decide +kernel
theorem d5_19 : decode prog_2_method_6_code 19 = .ok (.getfield 16, 3) := by decide +kernel
theorem d5_22 : decode prog_2_method_6_code 22 = .ok (.iload_n 2, 1) := by decide +kernel
theorem d5_23 : decode prog_2_method_6_code 23 = .ok (.iadd, 1) := by decide +kernel
theorem d5_24 : decode prog_2_method_6_code 24 = .ok (.invokespecial 1, 3) := by decide +kernel
theorem d5_27 : decode prog_2_method_6_code 27 = .ok (.astore_n 3, 1) := by decide +kernel
theorem d5_28 : decode prog_2_method_6_code 28 = .ok (.aload_n 0, 1) := by decide +kernel
theorem d5_29 : decode prog_2_method_6_code 29 = .ok (.dup, 1) := by decide +kernel
theorem d5_30 : decode prog_2_method_6_code 30 = .ok (.getfield 16, 3) := by decide +kernel
theorem d5_33 : decode prog_2_method_6_code 33 = .ok (.iload_n 2, 1) := by decide +kernel
theorem d5_34 : decode prog_2_method_6_code 34 = .ok (.iadd, 1) := by decide +kernel
theorem d5_35 : decode prog_2_method_6_code 35 = .ok (.putfield 16, 3) := by decide +kernel
theorem d5_38 : decode prog_2_method_6_code 38 = .ok (.aload_n 3, 1) := by decide +kernel
theorem d5_39 : decode prog_2_method_6_code 39 = .ok (.areturn, 1) := by decide +kernel
theorem pn_rm_readConstructed : plainFor mn8 = true := plainFor_of_name (show plainName "com/example/waymark/waymark/ber/BerReader" = true by first | (simp [plainName, overriddenIn]; done) | decide +kernel)
set_option maxRecDepth 65536 in
set_option maxHeartbeats 40000000 in
theorem rm_readConstructed (l : Launch) (Z : State) (a0 : Array Value) (hw : ∀ d ∈ tables_1, d.before a0 Z = true) (r b : Addr) (N : Nat) (f : Nat → Int32) (pp en : Nat) (tg n : Nat) (h0 : Heap) (F0 : RD Z h0 r b N f pp en) (hn : n < 64) (hen : pp + 2 + n ≤ en) (ht : f pp &&& 255 = Int32.ofNat tg) (hv : f (pp + 1) &&& 255 = Int32.ofNat n) :
    OMeets l Z mn8 prog_2_method_6_code 4 (some (.object "com/example/waymark/waymark/ber/BerReader")) [] ({ frames := 4, cells := 2, slots := 4, locals := 3089 } : Room) #[(.ref r), (.int (Int32.ofNat tg))] h0 (fun v h L => ∃ c0, v = some (.ref c0) ∧ Fr Z.heap.size L ∧ Keep h0 h [r] ∧ h0.size ≤ c0 ∧ RD Z h r b N f (pp + 1 + 1 + n) en ∧ RD Z h c0 b N f (pp + 1 + 1) (pp + 1 + 1 + n)) := by
  refine OMeets.of pn_rm_readConstructed #[.val (.ref r), .val (.int (Int32.ofNat tg)), .unset, .unset] (fun m => by first | rfl | (simp [entryFrame, mkF, argsToLocals, Value.category, maxLocals]; done)) ?_
  intro p e s m below meth c s₁ B X0 e0
  have hS := F0.2.2.2.2
  refine s_aloadN B X0 (pc' := 1) d5_0 rfl rfl rfl ?_
  refine s_iloadN B X0 (pc' := 2) d5_1 rfl rfl ?_
  refine c_private B X0 (y := mn5) (pc' := 5) (argsL := [(.int (Int32.ofNat tg))]) (under := []) (W := 0) e0 (tw29 hw) (tw1 hw) (tw31 hw) (tw30 hw) (tw32 hw) (tw2 hw) (by decide) (rm_header l Z a0 hw r b N f pp en tg n h0 F0 hn hen ht hv) F0.1 (lenOf pd_3 rfl) rfl rfl (by decide) (by decide) (by decide) (by decide) rfl d5_2 rfl (fun v1 T1 L1 X1 hQ1 => ?_)
  obtain ⟨rfl, Nq1, Kq1, Fq1⟩ := hQ1
  obtain ⟨h1, e1⟩ : ∃ z, T1.heap = z := ⟨_, rfl⟩
  rw [e1] at Kq1 Fq1
  have N1 := Fr.app (Fr.nil _) Nq1
  show Go p e below _ (T1.setTop (mkF m 5 #[.val (.ref r), .val (.int (Int32.ofNat tg)), .unset, .unset] [(.int (Int32.ofNat n))]))
  refine s_istoreN B X1 (pc' := 6) (Ls' := #[.val (.ref r), .val (.int (Int32.ofNat tg)), .val (.int (Int32.ofNat n)), .unset]) d5_5 rfl rfl ?_
  refine s_new B X1 (pc' := 9) (n0 := 3) e1 (tw51 hw) (tw1 hw) (tw2 hw) (by decide) (by decide) d5_6 rfl (fun T2 h2 c0 g2 X2 e2 E2 A2 D2 => ?_)
  have Kx2 := (Keep.refl h1 []).ext E2
  have lc : h1.size ≤ c0 := Nat.le_of_eq g2.symm
  have gc : Z.heap.size ≤ c0 := Nat.le_trans (Nat.le_trans Fq1.2.2.2.1.1 (Nat.le_of_lt Fq1.lt)) lc
  have rc : r ≠ c0 := Nat.ne_of_lt (Nat.lt_of_lt_of_le Fq1.lt lc)
  have bc : b ≠ c0 := Nat.ne_of_lt (Nat.lt_of_lt_of_le Fq1.2.2.1.lt lc)
  have l0 : h0.size ≤ c0 := Nat.le_trans (Kq1).1 lc
  have F2 := Fq1.keep Kx2 nin0 nin0
  have K2 := (Kq1).ext E2
  have D2_bytes : Fld Z h2 c0 "com/example/waymark/waymark/ber/BerReader" "bytes" "[B" .null := D2 (Or.inr (tw14 hw)) (ty := (.array .byte)) (by decide)
  have D2_position : Fld Z h2 c0 "com/example/waymark/waymark/ber/BerReader" "position" "I" (.int (0 : Int32)) := D2 (Or.inl (tw16 hw)) (ty := .int) (by decide)
  have D2_end : Fld Z h2 c0 "com/example/waymark/waymark/ber/BerReader" "end" "I" (.int (0 : Int32)) := D2 (Or.inr (tw18 hw)) (ty := .int) (by decide)
  show Go p e below _ (T2.setTop (mkF m 9 #[.val (.ref r), .val (.int (Int32.ofNat tg)), .val (.int (Int32.ofNat n)), .unset] [(.ref c0)]))
  refine s_dup B X2 (pc' := 10) d5_9 rfl rfl ?_
  refine s_aloadN B X2 (pc' := 11) d5_10 rfl rfl rfl ?_
  refine s_getF B X2 (pc' := 14) e2 (host := "") (Or.inl (tw13 hw)) Via.refl F2.2.1.1 d5_11 rfl (fun T3 X3 e3 => ?_)
  refine s_aloadN B X3 (pc' := 15) d5_14 rfl rfl rfl ?_
  refine s_getF B X3 (pc' := 18) e3 (host := "") (Or.inl (tw15 hw)) Via.refl F2.2.1.2.1 d5_15 rfl (fun T4 X4 e4 => ?_)
  refine s_aloadN B X4 (pc' := 19) d5_18 rfl rfl rfl ?_
  refine s_getF B X4 (pc' := 22) e4 (host := "") (Or.inl (tw15 hw)) Via.refl F2.2.1.2.1 d5_19 rfl (fun T5 X5 e5 => ?_)
  refine s_iloadN B X5 (pc' := 23) d5_22 rfl rfl ?_
  refine s_iadd B X5 (pc' := 24) (v := (Int32.ofNat ((pp + 1 + 1) + n))) d5_23 (sm_add (by omega) (by omega)) rfl ?_
  refine c_init B X5 (y := mn6) (pc' := 27) (argsL := [(.ref b), (.int (Int32.ofNat (pp + 1 + 1))), (.int (Int32.ofNat ((pp + 1 + 1) + n)))]) (under := [(.ref c0)]) (W := 1) e5 rfl (tw7 hw) (tw8 hw) (tw9 hw) (tw2 hw) (by decide) (rm_init3 l Z a0 hw c0 b (Int32.ofNat (pp + 1 + 1)) (Int32.ofNat ((pp + 1 + 1) + n)) h2 gc A2 D2_bytes D2_position D2_end)  (lenOf pd_2 rfl) rfl rfl (by decide) (by decide) (by decide) (by decide) rfl d5_24 rfl (fun v6 T6 L6 X6 hQ6 => ?_)
  obtain ⟨rfl, Nq6, Kq6, Ec, C1, C2, C3⟩ := hQ6
  obtain ⟨h6, e6⟩ : ∃ z, T6.heap = z := ⟨_, rfl⟩
  rw [e6] at Kq6 Ec C1 C2 C3
  have N6 := Fr.app N1 Nq6
  have F6 := F2.keep Kq6 (ninS rc nin0) (ninS bc nin0)
  have K6 := (K2).trans Kq6 (allS (Or.inr l0) all0)
  have R6 : RD Z h6 c0 b N f (pp + 1 + 1) ((pp + 1 + 1) + n) := ⟨Ec, ⟨C1, C2, C3⟩, F6.2.2.1, ⟨gc, F6.2.2.2.1.2.1, bc⟩, by omega, by omega, by omega⟩
  show Go p e below _ (T6.setTop (mkF m 27 #[.val (.ref r), .val (.int (Int32.ofNat tg)), .val (.int (Int32.ofNat n)), .unset] [(.ref c0)]))
  refine s_astoreN B X6 (pc' := 28) (Ls' := #[.val (.ref r), .val (.int (Int32.ofNat tg)), .val (.int (Int32.ofNat n)), .val (.ref c0)]) d5_27 rfl rfl rfl ?_
  refine s_aloadN B X6 (pc' := 29) d5_28 rfl rfl rfl ?_
  refine s_dup B X6 (pc' := 30) d5_29 rfl rfl ?_
  refine s_getF B X6 (pc' := 33) e6 (host := "") (Or.inl (tw15 hw)) Via.refl F6.2.1.2.1 d5_30 rfl (fun T7 X7 e7 => ?_)
  refine s_iloadN B X7 (pc' := 34) d5_33 rfl rfl ?_
  refine s_iadd B X7 (pc' := 35) (v := (Int32.ofNat ((pp + 1 + 1) + n))) d5_34 (sm_add (by omega) (by omega)) rfl ?_
  refine s_putF B X7 (pc' := 38) (ty := .int) e7 (host := "") (Or.inl (tw15 hw)) Via.refl F6.2.1.2.1 F6.1 (Or.inl (tw16 hw)) (tw1 hw) (by decide) rfl rfl d5_35 rfl (fun T8 h8 X8 e8 W8 => ?_)
  have N8 := Fr.snoc X8 N6 F6.2.2.2.1.1
  have F8 := F6.setp (Or.inr (tw14 hw)) (Or.inl (tw16 hw)) (Or.inr (tw18 hw)) W8 (p' := ((pp + 1 + 1) + n)) (by omega)
  have K8 := (K6).wr W8 (Or.inl (List.mem_of_getElem? (i := 0) rfl))
  show Go p e below _ (T8.setTop (mkF m 38 #[.val (.ref r), .val (.int (Int32.ofNat tg)), .val (.int (Int32.ofNat n)), .val (.ref c0)] []))
  have R8 := R6.keep (Keep.of_wr W8) (ninS rc.symm nin0) (ninS F8.2.2.2.1.2.2 nin0)
  refine s_aloadN B X8 (pc' := 39) d5_38 rfl rfl rfl ?_
  exact r_ref B X8 (t := (.object "com/example/waymark/waymark/ber/BerReader")) rfl rfl rfl rfl d5_39 (by rw [e8]; exact ⟨c0, rfl, N8, K8, l0, F8, R8⟩) (by decide) (by decide)
theorem d10_0 : decode prog_2_method_7_code 0 = .ok (.aload_n 0, 1) := by decide +kernel
theorem d10_1 : decode prog_2_method_7_code 1 = .ok (.iload_n 1, 1) := by decide +kernel
theorem d10_2 : decode prog_2_method_7_code 2 = .ok (.invokevirtual 62, 3) := by decide +kernel
theorem d10_5 : decode prog_2_method_7_code 5 = .ok (.istore_n 2, 1) := by decide +kernel
theorem d10_6 : decode prog_2_method_7_code 6 = .ok (.iload_n 2, 1) := by decide +kernel
theorem d10_7 : decode prog_2_method_7_code 7 = .ok (.newarray .byte, 2) := by decide +kernel
theorem d10_9 : decode prog_2_method_7_code 9 = .ok (.astore_n 3, 1) := by decide +kernel
theorem d10_10 : decode prog_2_method_7_code 10 = .ok (.aload_n 0, 1) := by decide +kernel
theorem d10_11 : decode prog_2_method_7_code 11 = .ok (.getfield 12, 3) := by decide +kernel
theorem d10_14 : decode prog_2_method_7_code 14 = .ok (.aload_n 0, 1) := by decide +kernel
theorem d10_15 : decode prog_2_method_7_code 15 = .ok (.getfield 16, 3) := by decide +kernel
theorem d10_18 : decode prog_2_method_7_code 18 = .ok (.aload_n 3, 1) := by decide +kernel
theorem d10_19 : decode prog_2_method_7_code 19 = .ok (.iconst 0, 1) := by decide +kernel
theorem d10_20 : decode prog_2_method_7_code 20 = .ok (.iload_n 2, 1) := by decide +kernel
theorem d10_21 : decode prog_2_method_7_code 21 = .ok (.invokestatic 66, 3) := by decide +kernel
theorem d10_24 : decode prog_2_method_7_code 24 = .ok (.aload_n 0, 1) := by decide +kernel
theorem d10_25 : decode prog_2_method_7_code 25 = .ok (.dup, 1) := by decide +kernel
theorem d10_26 : decode prog_2_method_7_code 26 = .ok (.getfield 16, 3) := by decide +kernel
theorem d10_29 : decode prog_2_method_7_code 29 = .ok (.iload_n 2, 1) := by decide +kernel
theorem d10_30 : decode prog_2_method_7_code 30 = .ok (.iadd, 1) := by decide +kernel
theorem d10_31 : decode prog_2_method_7_code 31 = .ok (.putfield 16, 3) := by decide +kernel
theorem d10_34 : decode prog_2_method_7_code 34 = .ok (.aload_n 3, 1) := by decide +kernel
theorem d10_35 : decode prog_2_method_7_code 35 = .ok (.areturn, 1) := by decide +kernel
theorem pn_rm_readOctets : plainFor mn9 = true := plainFor_of_name (show plainName "com/example/waymark/waymark/ber/BerReader" = true by first | (simp [plainName, overriddenIn]; done) | decide +kernel)
set_option maxRecDepth 65536 in
set_option maxHeartbeats 40000000 in
theorem rm_readOctets (l : Launch) (Z : State) (a0 : Array Value) (hw : ∀ d ∈ tables_1, d.before a0 Z = true) (r b : Addr) (N : Nat) (f : Nat → Int32) (pp en : Nat) (tg n : Nat) (h0 : Heap) (F0 : RD Z h0 r b N f pp en) (hn : n < 64) (hen : pp + 2 + n ≤ en) (ht : f pp &&& 255 = Int32.ofNat tg) (hv : f (pp + 1) &&& 255 = Int32.ofNat n) (hn16 : n ≤ 16) :
    OMeets l Z mn9 prog_2_method_7_code 4 (some (.array .byte)) [] ({ frames := 4, cells := 2, slots := 17, locals := 3089 } : Room) #[(.ref r), (.int (Int32.ofNat tg))] h0 (fun v h L => (∃ o, v = some (.ref o)) ∧ Fr Z.heap.size L ∧ Keep h0 h [r] ∧ RD Z h r b N f (pp + 1 + 1 + n) en) := by
  refine OMeets.of pn_rm_readOctets #[.val (.ref r), .val (.int (Int32.ofNat tg)), .unset, .unset] (fun m => by first | rfl | (simp [entryFrame, mkF, argsToLocals, Value.category, maxLocals]; done)) ?_
  intro p e s m below meth c s₁ B X0 e0
  have hS := F0.2.2.2.2
  refine s_aloadN B X0 (pc' := 1) d10_0 rfl rfl rfl ?_
  refine s_iloadN B X0 (pc' := 2) d10_1 rfl rfl ?_
  refine c_private B X0 (y := mn5) (pc' := 5) (argsL := [(.int (Int32.ofNat tg))]) (under := []) (W := 0) e0 (tw29 hw) (tw1 hw) (tw31 hw) (tw30 hw) (tw32 hw) (tw2 hw) (by decide) (rm_header l Z a0 hw r b N f pp en tg n h0 F0 hn hen ht hv) F0.1 (lenOf pd_3 rfl) rfl rfl (by decide) (by decide) (by decide) (by decide) rfl d10_2 rfl (fun v1 T1 L1 X1 hQ1 => ?_)
  obtain ⟨rfl, Nq1, Kq1, Fq1⟩ := hQ1
  obtain ⟨h1, e1⟩ : ∃ z, T1.heap = z := ⟨_, rfl⟩
  rw [e1] at Kq1 Fq1
  have N1 := Fr.app (Fr.nil _) Nq1
  show Go p e below _ (T1.setTop (mkF m 5 #[.val (.ref r), .val (.int (Int32.ofNat tg)), .unset, .unset] [(.int (Int32.ofNat n))]))
  refine s_istoreN B X1 (pc' := 6) (Ls' := #[.val (.ref r), .val (.int (Int32.ofNat tg)), .val (.int (Int32.ofNat n)), .unset]) d10_5 rfl rfl ?_
  refine s_iloadN B X1 (pc' := 7) d10_6 rfl rfl ?_
  refine s_newP B X1 (pc' := 9) (aty := .byte) (N := n) (cap := 16) e1 (tw3 hw) (osm hn).1 (osm hn).2 hn16 (by decide) (by decide) (by decide) d10_7 rfl (fun T2 h2 o k2 g2 X2 e2 E2 A2 => ?_)
  have Kx2 := (Keep.refl h1 []).ext E2
  have lo : h1.size ≤ o := Nat.le_of_eq g2.symm
  have go : Z.heap.size ≤ o := Nat.le_trans (Nat.le_trans Fq1.2.2.2.1.1 (Nat.le_of_lt Fq1.lt)) lo
  have ro : r ≠ o := Nat.ne_of_lt (Nat.lt_of_lt_of_le Fq1.lt lo)
  have bo : b ≠ o := Nat.ne_of_lt (Nat.lt_of_lt_of_le Fq1.2.2.1.lt lo)
  have l0 : h0.size ≤ o := Nat.le_trans (Kq1).1 lo
  have F2 := Fq1.keep Kx2 nin0 nin0
  have K2 := (Kq1).ext E2
  have Ao : BA Z h2 o n (fun _ => 0) := ⟨⟨k2, A2.congr fun i _ => rfl⟩, fun _ _ => rfl⟩
  show Go p e below _ (T2.setTop (mkF m 9 #[.val (.ref r), .val (.int (Int32.ofNat tg)), .val (.int (Int32.ofNat n)), .unset] [(.ref o)]))
  refine s_astoreN B X2 (pc' := 10) (Ls' := #[.val (.ref r), .val (.int (Int32.ofNat tg)), .val (.int (Int32.ofNat n)), .val (.ref o)]) d10_9 rfl rfl rfl ?_
  refine s_aloadN B X2 (pc' := 11) d10_10 rfl rfl rfl ?_
  refine s_getF B X2 (pc' := 14) e2 (host := "") (Or.inl (tw13 hw)) Via.refl F2.2.1.1 d10_11 rfl (fun T3 X3 e3 => ?_)
  refine s_aloadN B X3 (pc' := 15) d10_14 rfl rfl rfl ?_
  refine s_getF B X3 (pc' := 18) e3 (host := "") (Or.inl (tw15 hw)) Via.refl F2.2.1.2.1 d10_15 rfl (fun T4 X4 e4 => ?_)
  refine s_aloadN B X4 (pc' := 19) d10_18 rfl rfl rfl ?_
  refine s_iconst B X4 (pc' := 20) (v := (0 : Int32)) d10_19 rfl rfl ?_
  refine s_iloadN B X4 (pc' := 21) d10_20 rfl rfl ?_
  refine s_copyB B X4 (pc' := 24) (W := 0) e4 (tw57 hw) (tw60 hw) (tw58 hw) (tw59 hw) F2.2.2.1 Ao (j := (pp + 1 + 1)) (n := n) (by omega) (Nat.le_refl _) (by omega) hn N1 go rfl (by decide) (by decide) rfl d10_21 rfl (fun T5 h5 L5 X5 e5 N5 Kq5 => ?_)
  have F5 := F2.keep Kq5 (ninS ro nin0) (ninS bo nin0)
  have K5 := (K2).trans Kq5 (allS (Or.inr l0) all0)
  show Go p e below _ (T5.setTop (mkF m 24 #[.val (.ref r), .val (.int (Int32.ofNat tg)), .val (.int (Int32.ofNat n)), .val (.ref o)] []))
  refine s_aloadN B X5 (pc' := 25) d10_24 rfl rfl rfl ?_
  refine s_dup B X5 (pc' := 26) d10_25 rfl rfl ?_
  refine s_getF B X5 (pc' := 29) e5 (host := "") (Or.inl (tw15 hw)) Via.refl F5.2.1.2.1 d10_26 rfl (fun T6 X6 e6 => ?_)
  refine s_iloadN B X6 (pc' := 30) d10_29 rfl rfl ?_
  refine s_iadd B X6 (pc' := 31) (v := (Int32.ofNat ((pp + 1 + 1) + n))) d10_30 (sm_add (by omega) (by omega)) rfl ?_
  refine s_putF B X6 (pc' := 34) (ty := .int) e6 (host := "") (Or.inl (tw15 hw)) Via.refl F5.2.1.2.1 F5.1 (Or.inl (tw16 hw)) (tw1 hw) (by decide) rfl rfl d10_31 rfl (fun T7 h7 X7 e7 W7 => ?_)
  have N7 := Fr.snoc X7 N5 F5.2.2.2.1.1
  have F7 := F5.setp (Or.inr (tw14 hw)) (Or.inl (tw16 hw)) (Or.inr (tw18 hw)) W7 (p' := ((pp + 1 + 1) + n)) (by omega)
  have K7 := (K5).wr W7 (Or.inl (List.mem_of_getElem? (i := 0) rfl))
  show Go p e below _ (T7.setTop (mkF m 34 #[.val (.ref r), .val (.int (Int32.ofNat tg)), .val (.int (Int32.ofNat n)), .val (.ref o)] []))
  refine s_aloadN B X7 (pc' := 35) d10_34 rfl rfl rfl ?_
  exact r_ref B X7 (t := (.array .byte)) rfl rfl rfl rfl d10_35 (by rw [e7]; exact ⟨⟨o, rfl⟩, N7, K7, F7⟩) (by decide) (by decide)
theorem d11_0 : decode prog_2_method_10_code 0 = .ok (.aload_n 0, 1) := by decide +kernel
theorem d11_1 : decode prog_2_method_10_code 1 = .ok (.iload_n 1, 1) := by decide +kernel
theorem d11_2 : decode prog_2_method_10_code 2 = .ok (.invokevirtual 62, 3) := by decide +kernel
theorem d11_5 : decode prog_2_method_10_code 5 = .ok (.istore_n 2, 1) := by decide +kernel
theorem d11_6 : decode prog_2_method_10_code 6 = .ok (.iload_n 2, 1) := by decide +kernel
theorem d11_7 : decode prog_2_method_10_code 7 = .ok (.iconst 1, 1) := by decide +kernel
theorem d11_8 : decode prog_2_method_10_code 8 = .ok (.if_icmp .eq 17, 3) := by decide +kernel
theorem d11_25 : decode prog_2_method_10_code 25 = .ok (.aload_n 0, 1) := by decide +kernel
theorem d11_26 : decode prog_2_method_10_code 26 = .ok (.getfield 12, 3) := by decide +kernel
theorem d11_29 : decode prog_2_method_10_code 29 = .ok (.aload_n 0, 1) := by decide +kernel
theorem d11_30 : decode prog_2_method_10_code 30 = .ok (.dup, 1) := by decide +kernel
theorem d11_31 : decode prog_2_method_10_code 31 = .ok (.getfield 16, 3) := by decide +kernel
theorem d11_34 : decode prog_2_method_10_code 34 = .ok (.dup_x1, 1) := by decide +kernel
theorem d11_35 : decode prog_2_method_10_code 35 = .ok (.iconst 1, 1) := by decide +kernel
theorem d11_36 : decode prog_2_method_10_code 36 = .ok (.iadd, 1) := by decide +kernel
theorem d11_37 : decode prog_2_method_10_code 37 = .ok (.putfield 16, 3) := by decide +kernel
theorem d11_40 : decode prog_2_method_10_code 40 = .ok (.baload, 1) := by decide +kernel
theorem d11_41 : decode prog_2_method_10_code 41 = .ok (.ifCond .eq 7, 3) := by decide +kernel
theorem d11_44 : decode prog_2_method_10_code 44 = .ok (.iconst 1, 1) := by decide +kernel
theorem d11_45 : decode prog_2_method_10_code 45 = .ok (.goto 4, 3) := by decide +kernel
theorem d11_48 : decode prog_2_method_10_code 48 = .ok (.iconst 0, 1) := by decide +kernel
theorem d11_49 : decode prog_2_method_10_code 49 = .ok (.ireturn, 1) := by decide +kernel
theorem pn_rm_readBoolean : plainFor mn10 = true := plainFor_of_name (show plainName "com/example/waymark/waymark/ber/BerReader" = true by first | (simp [plainName, overriddenIn]; done) | decide +kernel)
set_option maxRecDepth 65536 in
set_option maxHeartbeats 40000000 in
theorem rm_readBoolean (l : Launch) (Z : State) (a0 : Array Value) (hw : ∀ d ∈ tables_1, d.before a0 Z = true) (r b : Addr) (N : Nat) (f : Nat → Int32) (pp en : Nat) (tg : Nat) (h0 : Heap) (F0 : RD Z h0 r b N f pp en) (hen : pp + 2 + 1 ≤ en) (ht : f pp &&& 255 = Int32.ofNat tg) (hv : f (pp + 1) &&& 255 = Int32.ofNat 1) :
    OMeets l Z mn10 prog_2_method_10_code 3 (some .boolean) [] ({ frames := 4, cells := 1, slots := 1, locals := 3089 } : Room) #[(.ref r), (.int (Int32.ofNat tg))] h0 (fun v h L => (∃ x, v = some (.int x)) ∧ Fr Z.heap.size L ∧ Keep h0 h [r] ∧ RD Z h r b N f (pp + 1 + 1 + 1) en) := by
  refine OMeets.of pn_rm_readBoolean #[.val (.ref r), .val (.int (Int32.ofNat tg)), .unset] (fun m => by first | rfl | (simp [entryFrame, mkF, argsToLocals, Value.category, maxLocals]; done)) ?_
  intro p e s m below meth c s₁ B X0 e0
  have hS := F0.2.2.2.2
  refine s_aloadN B X0 (pc' := 1) d11_0 rfl rfl rfl ?_
  refine s_iloadN B X0 (pc' := 2) d11_1 rfl rfl ?_
  refine c_private B X0 (y := mn5) (pc' := 5) (argsL := [(.int (Int32.ofNat tg))]) (under := []) (W := 0) e0 (tw29 hw) (tw1 hw) (tw31 hw) (tw30 hw) (tw32 hw) (tw2 hw) (by decide) (rm_header l Z a0 hw r b N f pp en tg 1 h0 F0 (by decide) hen ht hv) F0.1 (lenOf pd_3 rfl) rfl rfl (by decide) (by decide) (by decide) (by decide) rfl d11_2 rfl (fun v1 T1 L1 X1 hQ1 => ?_)
  obtain ⟨rfl, Nq1, Kq1, Fq1⟩ := hQ1
  obtain ⟨h1, e1⟩ : ∃ z, T1.heap = z := ⟨_, rfl⟩
  rw [e1] at Kq1 Fq1
  have N1 := Fr.app (Fr.nil _) Nq1
  show Go p e below _ (T1.setTop (mkF m 5 #[.val (.ref r), .val (.int (Int32.ofNat tg)), .unset] [(.int (1 : Int32))]))
  refine s_istoreN B X1 (pc' := 6) (Ls' := #[.val (.ref r), .val (.int (Int32.ofNat tg)), .val (.int (1 : Int32))]) d11_5 rfl rfl ?_
  refine s_iloadN B X1 (pc' := 7) d11_6 rfl rfl ?_
  refine s_iconst B X1 (pc' := 8) (v := (1 : Int32)) d11_7 rfl rfl ?_
  refine s_icmpY B X1 (pc' := 25) d11_8 (by decide) (by decide) (by decide) ?_
  refine s_aloadN B X1 (pc' := 26) d11_25 rfl rfl rfl ?_
  refine s_getF B X1 (pc' := 29) e1 (host := "") (Or.inl (tw13 hw)) Via.refl Fq1.2.1.1 d11_26 rfl (fun T2 X2 e2 => ?_)
  refine s_aloadN B X2 (pc' := 30) d11_29 rfl rfl rfl ?_
  refine s_dup B X2 (pc' := 31) d11_30 rfl rfl ?_
  refine s_getF B X2 (pc' := 34) e2 (host := "") (Or.inl (tw15 hw)) Via.refl Fq1.2.1.2.1 d11_31 rfl (fun T3 X3 e3 => ?_)
  refine s_dup_x1 B X3 (pc' := 35) d11_34 rfl rfl rfl ?_
  refine s_iconst B X3 (pc' := 36) (v := (1 : Int32)) d11_35 rfl rfl ?_
  refine s_iadd B X3 (pc' := 37) (v := (Int32.ofNat ((pp + 1 + 1) + 1))) d11_36 (sm_succ (by omega)) rfl ?_
  refine s_putF B X3 (pc' := 40) (ty := .int) e3 (host := "") (Or.inl (tw15 hw)) Via.refl Fq1.2.1.2.1 Fq1.1 (Or.inl (tw16 hw)) (tw1 hw) (by decide) rfl rfl d11_37 rfl (fun T4 h4 X4 e4 W4 => ?_)
  have N4 := Fr.snoc X4 N1 Fq1.2.2.2.1.1
  have F4 := Fq1.setp (Or.inr (tw14 hw)) (Or.inl (tw16 hw)) (Or.inr (tw18 hw)) W4 (p' := ((pp + 1 + 1) + 1)) (by omega)
  have K4 := (Kq1).wr W4 (Or.inl (List.mem_of_getElem? (i := 0) rfl))
  show Go p e below _ (T4.setTop (mkF m 40 #[.val (.ref r), .val (.int (Int32.ofNat tg)), .val (.int (1 : Int32))] [(.int (Int32.ofNat (pp + 1 + 1))), (.ref b)]))
  refine s_ldBA B X4 (pc' := 41) (j := (pp + 1 + 1)) e4 F4.2.2.1 (by omega) (by omega) d11_40 rfl ?_
  refine b_if_eq B X4 (py := 48) (pn := 44) d11_41 (by decide) (by decide) rfl (fun hc41_5 => ?_) (fun hc41_5 => ?_)
  · refine s_iconst B X4 (pc' := 49) (v := (0 : Int32)) d11_48 rfl rfl ?_
    exact r_nar B X4 (t := .boolean) (by simp) rfl d11_49 (by rw [e4]; exact ⟨⟨_, rfl⟩, N4, K4, F4⟩) (by decide) (by decide)
  · refine s_iconst B X4 (pc' := 45) (v := (1 : Int32)) d11_44 rfl rfl ?_
    refine s_goto B X4 (pc' := 49) d11_45 (by decide) (by decide) ?_
    exact r_nar B X4 (t := .boolean) (by simp) rfl d11_49 (by rw [e4]; exact ⟨⟨_, rfl⟩, N4, K4, F4⟩) (by decide) (by decide)
theorem own_a4 (x : Int32) : ∃ a : Nat, x &&& 3 = Int32.ofNat a ∧ a < 4 := by
  rcases own_and3 x with h | h | h | h
  · exact ⟨0, h, by decide⟩
  · exact ⟨1, h, by decide⟩
  · exact ⟨2, h, by decide⟩
  · exact ⟨3, h, by decide⟩
theorem own_c3 (x : Int32) : ∃ a : Nat, (x &&& 255) % 3 = Int32.ofNat a ∧ a < 3 := by
  have e := c_mask x 255 8 (by decide) (by decide)
  have e2 := (c_irem (x &&& 255) 3 3 (by decide)).1 (by rw [e]; omega)
  rcases own_rng3 (v := (x &&& 255) % 3) (by rw [e2]; omega) (by rw [e2]; omega) with h | h | h
  · exact ⟨0, h, by decide⟩
  · exact ⟨1, h, by decide⟩
  · exact ⟨2, h, by decide⟩
theorem own_nb {x : Nat} (hx : x < 64) : nar .byte (Int32.ofNat x) &&& 255 = Int32.ofNat x := by
  show (Int32.ofNat x).toInt8.toInt32 &&& 255 = _
  rw [(sm_b hx).1]; exact (sm_b hx).2

theorem pn_rm_law : plainFor x = true := plainFor_of_name (show plainName "com/example/waymark/waymark/ber/BerReaderHasRemainingPinLaw" = true by first | (simp [plainName, overriddenIn]; done) | decide +kernel)
set_option maxRecDepth 65536 in
set_option maxHeartbeats 40000000 in
theorem rm_law (l : Launch) (Z : State) (a0 : Array Value) (hw : ∀ d ∈ tables_1, d.before a0 Z = true) (i0 i1 : Int32) :
    OMeets l Z x code maxLocals ret tables_1 room_1 #[(.int i0), (.int i1)] Z.heap (fun v h L => v = some (.int 1) ∧ Fr Z.heap.size L) := by
  refine OMeets.of pn_rm_law #[.val (.int i0), .val (.int i1), .unset, .unset, .unset, .unset, .unset, .unset, .unset, .unset, .unset, .unset, .unset, .unset] (fun m => by first | rfl | (simp [entryFrame, mkF, argsToLocals, Value.category, maxLocals]; done)) ?_
  intro p e s m below meth c s₁ B X0 e0
  obtain ⟨n1, hx1, hn1⟩ := own_a4 i0
  obtain ⟨n2, hx2, hn2⟩ := own_a4 ((i0.toUInt32 >>> ((2 : Int32) &&& 31).toUInt32).toInt32)
  obtain ⟨cn, hx3, hcn⟩ := own_c3 ((i0.toUInt32 >>> ((4 : Int32) &&& 31).toUInt32).toInt32)
  obtain ⟨tl, hx4, htl⟩ := own_a4 ((i0.toUInt32 >>> ((12 : Int32) &&& 31).toUInt32).toInt32)
  refine s_iloadN B X0 (pc' := 1) at_0 rfl rfl ?_
  refine s_bipush B X0 (pc' := 3) (v := (15 : Int32)) at_1 rfl rfl ?_
  refine s_iushr B X0 (pc' := 4) (v := ((i0.toUInt32 >>> ((15 : Int32) &&& 31).toUInt32).toInt32)) at_3 rfl rfl ?_
  refine s_iconst B X0 (pc' := 5) (v := (3 : Int32)) at_4 rfl rfl ?_
  refine s_iand B X0 (pc' := 6) (v := (((i0.toUInt32 >>> ((15 : Int32) &&& 31).toUInt32).toInt32) &&& (3 : Int32))) at_5 rfl rfl ?_
  refine b_if_ne B X0 (py := 33) (pn := 9) at_6 (by decide) (by decide) rfl (fun hc6_1 => ?_) (fun hc6_1 => ?_)
  · refine s_iloadN B X0 (pc' := 34) at_33 rfl rfl ?_
    refine s_iconst B X0 (pc' := 35) (v := (3 : Int32)) at_34 rfl rfl ?_
    refine s_iand B X0 (pc' := 36) (v := (Int32.ofNat n1)) at_35 (hx1) rfl ?_
    refine s_istoreN B X0 (pc' := 37) (Ls' := #[.val (.int i0), .val (.int i1), .val (.int (Int32.ofNat n1)), .unset, .unset, .unset, .unset, .unset, .unset, .unset, .unset, .unset, .unset, .unset]) at_36 rfl rfl ?_
    refine s_iloadN B X0 (pc' := 38) at_37 rfl rfl ?_
    refine s_iconst B X0 (pc' := 39) (v := (2 : Int32)) at_38 rfl rfl ?_
    refine s_iushr B X0 (pc' := 40) (v := ((i0.toUInt32 >>> ((2 : Int32) &&& 31).toUInt32).toInt32)) at_39 rfl rfl ?_
    refine s_iconst B X0 (pc' := 41) (v := (3 : Int32)) at_40 rfl rfl ?_
    refine s_iand B X0 (pc' := 42) (v := (Int32.ofNat n2)) at_41 (hx2) rfl ?_
    refine s_istoreN B X0 (pc' := 43) (Ls' := #[.val (.int i0), .val (.int i1), .val (.int (Int32.ofNat n1)), .val (.int (Int32.ofNat n2)), .unset, .unset, .unset, .unset, .unset, .unset, .unset, .unset, .unset, .unset]) at_42 rfl rfl ?_
    refine s_iloadN B X0 (pc' := 44) at_43 rfl rfl ?_
    refine s_iconst B X0 (pc' := 45) (v := (4 : Int32)) at_44 rfl rfl ?_
    refine s_iushr B X0 (pc' := 46) (v := ((i0.toUInt32 >>> ((4 : Int32) &&& 31).toUInt32).toInt32)) at_45 rfl rfl ?_
    refine s_sipush B X0 (pc' := 49) (v := (255 : Int32)) at_46 rfl rfl ?_
    refine s_iand B X0 (pc' := 50) (v := (((i0.toUInt32 >>> ((4 : Int32) &&& 31).toUInt32).toInt32) &&& (255 : Int32))) at_49 rfl rfl ?_
    refine s_iconst B X0 (pc' := 51) (v := (3 : Int32)) at_50 rfl rfl ?_
    refine s_irem B X0 (pc' := 52) (v := (Int32.ofNat cn)) at_51 (hx3) (by decide) rfl ?_
    refine s_istore B X0 (pc' := 54) (Ls' := #[.val (.int i0), .val (.int i1), .val (.int (Int32.ofNat n1)), .val (.int (Int32.ofNat n2)), .val (.int (Int32.ofNat cn)), .unset, .unset, .unset, .unset, .unset, .unset, .unset, .unset, .unset]) at_52 rfl rfl ?_
    refine s_iloadN B X0 (pc' := 55) at_54 rfl rfl ?_
    refine s_bipush B X0 (pc' := 57) (v := (12 : Int32)) at_55 rfl rfl ?_
    refine s_iushr B X0 (pc' := 58) (v := ((i0.toUInt32 >>> ((12 : Int32) &&& 31).toUInt32).toInt32)) at_57 rfl rfl ?_
    refine s_iconst B X0 (pc' := 59) (v := (3 : Int32)) at_58 rfl rfl ?_
    refine s_iand B X0 (pc' := 60) (v := (Int32.ofNat tl)) at_59 (hx4) rfl ?_
    refine s_istore B X0 (pc' := 62) (Ls' := #[.val (.int i0), .val (.int i1), .val (.int (Int32.ofNat n1)), .val (.int (Int32.ofNat n2)), .val (.int (Int32.ofNat cn)), .val (.int (Int32.ofNat tl)), .unset, .unset, .unset, .unset, .unset, .unset, .unset, .unset]) at_60 rfl rfl ?_
    refine s_iloadN B X0 (pc' := 63) at_62 rfl rfl ?_
    refine s_bipush B X0 (pc' := 65) (v := (14 : Int32)) at_63 rfl rfl ?_
    refine s_iushr B X0 (pc' := 66) (v := ((i0.toUInt32 >>> ((14 : Int32) &&& 31).toUInt32).toInt32)) at_65 rfl rfl ?_
    refine s_iconst B X0 (pc' := 67) (v := (1 : Int32)) at_66 rfl rfl ?_
    refine s_iand B X0 (pc' := 68) (v := (((i0.toUInt32 >>> ((14 : Int32) &&& 31).toUInt32).toInt32) &&& (1 : Int32))) at_67 rfl rfl ?_
    refine b_selN B X0 (na := 1) (nb := 0) (J := 76) (py := 75) (pn := 71) at_68 (by decide) (by decide) rfl (fun G => s_iconst B X0 (pc' := 76) (v := (Int32.ofNat 0)) at_75 rfl rfl (G)) (fun G => s_iconst B X0 (pc' := 72) (v := (Int32.ofNat 1)) at_71 rfl rfl (s_goto B X0 (pc' := 76) at_72 (by decide) (by decide) G)) (fun jk hjk => ?_)
    replace hjk : jk ≤ 1 := by omega
    show Go p e below _ (s₁.setTop (mkF m 76 #[.val (.int i0), .val (.int i1), .val (.int (Int32.ofNat n1)), .val (.int (Int32.ofNat n2)), .val (.int (Int32.ofNat cn)), .val (.int (Int32.ofNat tl)), .unset, .unset, .unset, .unset, .unset, .unset, .unset, .unset] [(.int (Int32.ofNat jk))]))
    refine s_istore B X0 (pc' := 78) (Ls' := #[.val (.int i0), .val (.int i1), .val (.int (Int32.ofNat n1)), .val (.int (Int32.ofNat n2)), .val (.int (Int32.ofNat cn)), .val (.int (Int32.ofNat tl)), .val (.int (Int32.ofNat jk)), .unset, .unset, .unset, .unset, .unset, .unset, .unset]) at_76 rfl rfl ?_
    refine s_iconst B X0 (pc' := 79) (v := (0 : Int32)) at_78 rfl rfl ?_
    refine s_istore B X0 (pc' := 81) (Ls' := #[.val (.int i0), .val (.int i1), .val (.int (Int32.ofNat n1)), .val (.int (Int32.ofNat n2)), .val (.int (Int32.ofNat cn)), .val (.int (Int32.ofNat tl)), .val (.int (Int32.ofNat jk)), .val (.int (0 : Int32)), .unset, .unset, .unset, .unset, .unset, .unset]) at_79 rfl rfl ?_
    rcases (by omega : cn = 0 ∨ cn = 1 ∨ cn = 2) with rfl | rfl | rfl
    · show Go p e below _ (s₁.setTop (mkF m 81 #[.val (.int i0), .val (.int i1), .val (.int (Int32.ofNat n1)), .val (.int (Int32.ofNat n2)), .val (.int (0 : Int32)), .val (.int (Int32.ofNat tl)), .val (.int (Int32.ofNat jk)), .val (.int (Int32.ofNat 0)), .unset, .unset, .unset, .unset, .unset, .unset] []))
      refine s_iload B X0 (pc' := 83) at_81 rfl rfl ?_
      refine s_iconst B X0 (pc' := 84) (v := (1 : Int32)) at_83 rfl rfl ?_
      refine s_icmpY B X0 (pc' := 95) at_84 (by decide) (by decide) (by decide) ?_
      refine s_iload B X0 (pc' := 97) at_95 rfl rfl ?_
      refine s_iconst B X0 (pc' := 98) (v := (2 : Int32)) at_97 rfl rfl ?_
      refine s_icmpY B X0 (pc' := 109) at_98 (by decide) (by decide) (by decide) ?_
      have jn117 : ∀ ln : Nat, ln = 0 + jk → Go p e below (OEnds s (fun v h L => v = some (.int 1) ∧ Fr Z.heap.size L) room_1.cells room_1.slots) (s₁.setTop (mkF m 117 #[.val (.int i0), .val (.int i1), .val (.int (Int32.ofNat n1)), .val (.int (Int32.ofNat n2)), .val (.int (0 : Int32)), .val (.int (Int32.ofNat tl)), .val (.int (Int32.ofNat jk)), .val (.int (Int32.ofNat ln)), .unset, .unset, .unset, .unset, .unset, .unset] [])) := by
        intro ln hln
        have jn147 : ∀ ex : Nat, ((tl = 0 ∧ ex = 0) ∨ (tl = 1 ∧ ex = 1) ∨ (tl = 2 ∧ ex = 3) ∨ (tl = 3 ∧ ex = 2)) → Go p e below (OEnds s (fun v h L => v = some (.int 1) ∧ Fr Z.heap.size L) room_1.cells room_1.slots) (s₁.setTop (mkF m 147 #[.val (.int i0), .val (.int i1), .val (.int (Int32.ofNat n1)), .val (.int (Int32.ofNat n2)), .val (.int (0 : Int32)), .val (.int (Int32.ofNat tl)), .val (.int (Int32.ofNat jk)), .val (.int (Int32.ofNat ln)), .unset, .unset, .unset, .unset, .unset, .unset] [.int (Int32.ofNat ex)])) := by
          intro ex hex
          have hex3 : ex ≤ 3 := by omega
          refine s_istore B X0 (pc' := 149) (Ls' := #[.val (.int i0), .val (.int i1), .val (.int (Int32.ofNat n1)), .val (.int (Int32.ofNat n2)), .val (.int (0 : Int32)), .val (.int (Int32.ofNat tl)), .val (.int (Int32.ofNat jk)), .val (.int (Int32.ofNat ln)), .val (.int (Int32.ofNat ex)), .unset, .unset, .unset, .unset, .unset]) at_147 rfl rfl ?_
          refine s_iconst B X0 (pc' := 150) (v := (2 : Int32)) at_149 rfl rfl ?_
          refine s_iload B X0 (pc' := 152) at_150 rfl rfl ?_
          refine s_iadd B X0 (pc' := 153) (v := (Int32.ofNat (2 + ln))) at_152 (sm_add (x := 2) (y := ln) (by omega) (by omega)) rfl ?_
          refine s_iload B X0 (pc' := 155) at_153 rfl rfl ?_
          refine s_iadd B X0 (pc' := 156) (v := (Int32.ofNat ((2 + ln) + ex))) at_155 (sm_add (x := (2 + ln)) (y := ex) (by omega) (by omega)) rfl ?_
          refine s_newP B X0 (pc' := 158) (aty := .byte) (N := ((2 + ln) + ex)) (cap := 18) e0 (tw3 hw) (osm (by omega)).1 (osm (by omega)).2 (by omega) (by decide) (by decide) (by decide) at_156 rfl (fun T2 h2 a k2 g2 X2 e2 E2 A2 => ?_)
          have ga : Z.heap.size ≤ a := Nat.le_of_eq g2.symm
          have Ab2 : BA Z h2 a (((2 + ln) + ex)) (fun _ => 0) := ⟨⟨k2, A2.congr fun i _ => rfl⟩, fun _ _ => rfl⟩
          show Go p e below _ (T2.setTop (mkF m 158 #[.val (.int i0), .val (.int i1), .val (.int (Int32.ofNat n1)), .val (.int (Int32.ofNat n2)), .val (.int (0 : Int32)), .val (.int (Int32.ofNat tl)), .val (.int (Int32.ofNat jk)), .val (.int (Int32.ofNat ln)), .val (.int (Int32.ofNat ex)), .unset, .unset, .unset, .unset, .unset] [(.ref a)]))
          refine s_astore B X2 (pc' := 160) (Ls' := #[.val (.int i0), .val (.int i1), .val (.int (Int32.ofNat n1)), .val (.int (Int32.ofNat n2)), .val (.int (0 : Int32)), .val (.int (Int32.ofNat tl)), .val (.int (Int32.ofNat jk)), .val (.int (Int32.ofNat ln)), .val (.int (Int32.ofNat ex)), .val (.ref a), .unset, .unset, .unset, .unset]) at_158 rfl rfl rfl ?_
          refine s_aload B X2 (pc' := 162) at_160 rfl rfl rfl ?_
          refine s_iconst B X2 (pc' := 163) (v := (0 : Int32)) at_162 rfl rfl ?_
          refine s_bipush B X2 (pc' := 165) (v := (48 : Int32)) at_163 rfl rfl ?_
          refine s_stBA B X2 (pc' := 166) (j := 0) (x := (48 : Int32)) e2 Ab2 (by omega) (by omega) at_165 rfl (fun T3 h3 X3 e3 W3 Ab3 => ?_)
          have N3 := Fr.snoc X3 (Fr.nil _) ga
          have p3_n : (updB (fun _ => 0) (0) (nar .byte (48 : Int32))) (0) &&& 255 = Int32.ofNat (48) := by rw [updB_same]; exact own_nb (x := 48) (by decide)
          show Go p e below _ (T3.setTop (mkF m 166 #[.val (.int i0), .val (.int i1), .val (.int (Int32.ofNat n1)), .val (.int (Int32.ofNat n2)), .val (.int (0 : Int32)), .val (.int (Int32.ofNat tl)), .val (.int (Int32.ofNat jk)), .val (.int (Int32.ofNat ln)), .val (.int (Int32.ofNat ex)), .val (.ref a), .unset, .unset, .unset, .unset] []))
          refine s_aload B X3 (pc' := 168) at_166 rfl rfl rfl ?_
          refine s_iconst B X3 (pc' := 169) (v := (1 : Int32)) at_168 rfl rfl ?_
          refine s_iload B X3 (pc' := 171) at_169 rfl rfl ?_
          refine s_i2b B X3 (pc' := 172) (v := (Int32.ofNat ln)) at_171 ((sm_b (by omega)).1) rfl ?_
          refine s_stBA B X3 (pc' := 173) (j := 1) (x := (Int32.ofNat ln)) e3 Ab3 (by omega) (by omega) at_172 rfl (fun T4 h4 X4 e4 W4 Ab4 => ?_)
          have N4 := Fr.snoc X4 N3 ga
          have p4_0 : (updB (updB (fun _ => 0) (0) (nar .byte (48 : Int32))) (1) (nar .byte (Int32.ofNat ln))) (0) &&& 255 = Int32.ofNat (48) := by rw [updB_ne (by omega)]; exact p3_n
          have p4_n : (updB (updB (fun _ => 0) (0) (nar .byte (48 : Int32))) (1) (nar .byte (Int32.ofNat ln))) (1) &&& 255 = Int32.ofNat (ln) := by rw [updB_same]; exact own_nb (x := ln) (by omega)
          show Go p e below _ (T4.setTop (mkF m 173 #[.val (.int i0), .val (.int i1), .val (.int (Int32.ofNat n1)), .val (.int (Int32.ofNat n2)), .val (.int (0 : Int32)), .val (.int (Int32.ofNat tl)), .val (.int (Int32.ofNat jk)), .val (.int (Int32.ofNat ln)), .val (.int (Int32.ofNat ex)), .val (.ref a), .unset, .unset, .unset, .unset] []))
          refine s_iconst B X4 (pc' := 174) (v := (2 : Int32)) at_173 rfl rfl ?_
          refine s_istore B X4 (pc' := 176) (Ls' := #[.val (.int i0), .val (.int i1), .val (.int (Int32.ofNat n1)), .val (.int (Int32.ofNat n2)), .val (.int (0 : Int32)), .val (.int (Int32.ofNat tl)), .val (.int (Int32.ofNat jk)), .val (.int (Int32.ofNat ln)), .val (.int (Int32.ofNat ex)), .val (.ref a), .val (.int (2 : Int32)), .unset, .unset, .unset]) at_174 rfl rfl ?_
          refine s_iload B X4 (pc' := 178) at_176 rfl rfl ?_
          refine s_iconst B X4 (pc' := 179) (v := (1 : Int32)) at_178 rfl rfl ?_
          refine s_icmpY B X4 (pc' := 219) at_179 (by decide) (by decide) (by decide) ?_
          refine s_iload B X4 (pc' := 221) at_219 rfl rfl ?_
          refine s_iconst B X4 (pc' := 222) (v := (2 : Int32)) at_221 rfl rfl ?_
          refine s_icmpY B X4 (pc' := 265) at_222 (by decide) (by decide) (by decide) ?_
          have hix : 2 + jk = 2 + ln := by omega
          have jn283 : ∀ (T : State) (h : Heap) (Lc : List Loc) (f : Nat → Int32) (ix : Nat), Stand p l e room_1 s m #[(.int i0), (.int i1)] below meth c T Lc 1 18 → T.heap = h → Fr Z.heap.size Lc → BA Z h a (((2 + ln) + ex)) f → f (0) &&& 255 = Int32.ofNat (48) → f (1) &&& 255 = Int32.ofNat (ln) → ix = 2 + ln → Go p e below (OEnds s (fun v h L => v = some (.int 1) ∧ Fr Z.heap.size L) room_1.cells room_1.slots) (T.setTop (mkF m 283 #[.val (.int i0), .val (.int i1), .val (.int (Int32.ofNat n1)), .val (.int (Int32.ofNat n2)), .val (.int (0 : Int32)), .val (.int (Int32.ofNat tl)), .val (.int (Int32.ofNat jk)), .val (.int (Int32.ofNat ln)), .val (.int (Int32.ofNat ex)), .val (.ref a), .val (.int (Int32.ofNat ix)), .unset, .unset, .unset] [])) := by
            intro Tj283 hj283 Lj283 f ix Xj283 ej283 Nj283 Aj283 y283_0 y283_1 hixx
            subst hixx
            show Go p e below _ (Tj283.setTop (mkF m 283 #[.val (.int i0), .val (.int i1), .val (.int (Int32.ofNat n1)), .val (.int (Int32.ofNat n2)), .val (.int (0 : Int32)), .val (.int (Int32.ofNat tl)), .val (.int (Int32.ofNat jk)), .val (.int (Int32.ofNat ln)), .val (.int (Int32.ofNat ex)), .val (.ref a), .val (.int (Int32.ofNat (2 + ln))), .unset, .unset, .unset] []))
            have jn361 : ∀ (T : State) (h : Heap) (Lc : List Loc) (f : Nat → Int32), Stand p l e room_1 s m #[(.int i0), (.int i1)] below meth c T Lc 1 18 → T.heap = h → Fr Z.heap.size Lc → BA Z h a (((2 + ln) + ex)) f → f (0) &&& 255 = Int32.ofNat (48) → f (1) &&& 255 = Int32.ofNat (ln) → (tl = 2 → f (2 + ln) &&& 255 = Int32.ofNat 1 ∧ f (2 + ln + 1) &&& 255 = Int32.ofNat 1) → Go p e below (OEnds s (fun v h L => v = some (.int 1) ∧ Fr Z.heap.size L) room_1.cells room_1.slots) (T.setTop (mkF m 361 #[.val (.int i0), .val (.int i1), .val (.int (Int32.ofNat n1)), .val (.int (Int32.ofNat n2)), .val (.int (0 : Int32)), .val (.int (Int32.ofNat tl)), .val (.int (Int32.ofNat jk)), .val (.int (Int32.ofNat ln)), .val (.int (Int32.ofNat ex)), .val (.ref a), .val (.int (Int32.ofNat (2 + ln))), .unset, .unset, .unset] [])) := by
              intro Tj361 hj361 Lj361 f Xj361 ej361 Nj361 Aj361 y361_0 y361_1 hb2
              refine s_new B Xj361 (pc' := 364) (n0 := 3) ej361 (tw0 hw) (tw1 hw) (tw2 hw) (by decide) (by decide) at_361 rfl (fun T5 h5 r g5 X5 e5 E5 A5 D5 => ?_)
              have Kx5 := (Keep.refl hj361 []).ext E5
              have lr : hj361.size ≤ r := Nat.le_of_eq g5.symm
              have gr : Z.heap.size ≤ r := Nat.le_trans (Nat.le_trans ga (Nat.le_of_lt Aj361.lt)) lr
              have ar : a ≠ r := Nat.ne_of_lt (Nat.lt_of_lt_of_le Aj361.lt lr)
              have A5' := Aj361.keep Kx5 nin0
              have D5_bytes : Fld Z h5 r "com/example/waymark/waymark/ber/BerReader" "bytes" "[B" .null := D5 (Or.inr (tw14 hw)) (ty := (.array .byte)) (by decide)
              have D5_position : Fld Z h5 r "com/example/waymark/waymark/ber/BerReader" "position" "I" (.int (0 : Int32)) := D5 (Or.inl (tw16 hw)) (ty := .int) (by decide)
              have D5_end : Fld Z h5 r "com/example/waymark/waymark/ber/BerReader" "end" "I" (.int (0 : Int32)) := D5 (Or.inr (tw18 hw)) (ty := .int) (by decide)
              show Go p e below _ (T5.setTop (mkF m 364 #[.val (.int i0), .val (.int i1), .val (.int (Int32.ofNat n1)), .val (.int (Int32.ofNat n2)), .val (.int (0 : Int32)), .val (.int (Int32.ofNat tl)), .val (.int (Int32.ofNat jk)), .val (.int (Int32.ofNat ln)), .val (.int (Int32.ofNat ex)), .val (.ref a), .val (.int (Int32.ofNat (2 + ln))), .unset, .unset, .unset] [(.ref r)]))
              refine s_dup B X5 (pc' := 365) at_364 rfl rfl ?_
              refine s_aload B X5 (pc' := 367) at_365 rfl rfl rfl ?_
              refine c_init B X5 (y := mn7) (pc' := 370) (argsL := [(.ref a)]) (under := [(.ref r)]) (W := 1) e5 rfl (tw4 hw) (tw5 hw) (tw6 hw) (tw2 hw) (by decide) (rm_init1 l Z a0 hw r a (((2 + ln) + ex)) _ h5 gr A5 D5_bytes D5_position D5_end A5')  (lenOf pd_4 rfl) rfl rfl (by decide) (by decide) (by decide) (by decide) rfl at_367 rfl (fun v6 T6 L6 X6 hQ6 => ?_)
              obtain ⟨rfl, Nq6, Kq6, Er, C1, C2, C3⟩ := hQ6
              obtain ⟨h6, e6⟩ : ∃ z, T6.heap = z := ⟨_, rfl⟩
              rw [e6] at Kq6 Er C1 C2 C3
              have N6 := Fr.app Nj361 Nq6
              have Ab6 := A5'.keep Kq6 (ninS ar nin0)
              have R6 : RD Z h6 r a (((2 + ln) + ex)) f 0 (((2 + ln) + ex)) := ⟨Er, ⟨C1, C2, C3⟩, Ab6, ⟨gr, ga, ar⟩, Nat.zero_le _, Nat.le_refl _, by omega⟩
              show Go p e below _ (T6.setTop (mkF m 370 #[.val (.int i0), .val (.int i1), .val (.int (Int32.ofNat n1)), .val (.int (Int32.ofNat n2)), .val (.int (0 : Int32)), .val (.int (Int32.ofNat tl)), .val (.int (Int32.ofNat jk)), .val (.int (Int32.ofNat ln)), .val (.int (Int32.ofNat ex)), .val (.ref a), .val (.int (Int32.ofNat (2 + ln))), .unset, .unset, .unset] [(.ref r)]))
              refine s_astore B X6 (pc' := 372) (Ls' := #[.val (.int i0), .val (.int i1), .val (.int (Int32.ofNat n1)), .val (.int (Int32.ofNat n2)), .val (.int (0 : Int32)), .val (.int (Int32.ofNat tl)), .val (.int (Int32.ofNat jk)), .val (.int (Int32.ofNat ln)), .val (.int (Int32.ofNat ex)), .val (.ref a), .val (.int (Int32.ofNat (2 + ln))), .val (.ref r), .unset, .unset]) at_370 rfl rfl rfl ?_
              refine s_aload B X6 (pc' := 374) at_372 rfl rfl rfl ?_
              refine p_virtual B X6 (y := mn0) (pc' := 377) (argsL := []) (under := []) (W := 0) e6 (tw19 hw) (tw20 hw) (tw22 hw) (tw21 hw) (tw23 hw) (tw2 hw) (by decide) (rm_has l Z a0 hw r a (((2 + ln) + ex)) _ (0) (((2 + ln) + ex)) 1 h6 R6 (if_pos (by omega))) R6.1 (lenOf pd_5 rfl) rfl rfl (by decide) (by decide) rfl rfl (by decide) (by decide) rfl at_374 rfl (fun T7 X7 e7 => ?_)
              show Go p e below _ (T7.setTop (mkF m 377 #[.val (.int i0), .val (.int i1), .val (.int (Int32.ofNat n1)), .val (.int (Int32.ofNat n2)), .val (.int (0 : Int32)), .val (.int (Int32.ofNat tl)), .val (.int (Int32.ofNat jk)), .val (.int (Int32.ofNat ln)), .val (.int (Int32.ofNat ex)), .val (.ref a), .val (.int (Int32.ofNat (2 + ln))), .val (.ref r), .unset, .unset] [(.int (1 : Int32))]))
              refine s_istore B X7 (pc' := 379) (Ls' := #[.val (.int i0), .val (.int i1), .val (.int (Int32.ofNat n1)), .val (.int (Int32.ofNat n2)), .val (.int (0 : Int32)), .val (.int (Int32.ofNat tl)), .val (.int (Int32.ofNat jk)), .val (.int (Int32.ofNat ln)), .val (.int (Int32.ofNat ex)), .val (.ref a), .val (.int (Int32.ofNat (2 + ln))), .val (.ref r), .val (.int (1 : Int32)), .unset]) at_377 rfl rfl ?_
              refine s_aload B X7 (pc' := 381) at_379 rfl rfl rfl ?_
              refine s_bipush B X7 (pc' := 383) (v := (48 : Int32)) at_381 rfl rfl ?_
              refine c_virtual B X7 (y := mn8) (pc' := 386) (argsL := [(.int (48 : Int32))]) (under := []) (W := 0) e7 (tw24 hw) (tw25 hw) (tw27 hw) (tw26 hw) (tw28 hw) (tw2 hw) (by decide) (rm_readConstructed l Z a0 hw r a (((2 + ln) + ex)) f 0 (((2 + ln) + ex)) 48 ln h6 R6 (by omega) (by omega) y361_0 y361_1) R6.1 (lenOf pd_6 rfl) rfl rfl (by decide) (by decide) (by decide) (by decide) rfl at_383 rfl (fun v8 T8 L8 X8 hQ8 => ?_)
              obtain ⟨c0, rfl, Nq8, Kq8, lc, R8, C8⟩ := hQ8
              obtain ⟨h8, e8⟩ : ∃ z, T8.heap = z := ⟨_, rfl⟩
              rw [e8] at Kq8 R8 C8
              have N8 := Fr.app N6 Nq8
              have rc : r ≠ c0 := Nat.ne_of_lt (Nat.lt_of_lt_of_le R6.lt lc)
              show Go p e below _ (T8.setTop (mkF m 386 #[.val (.int i0), .val (.int i1), .val (.int (Int32.ofNat n1)), .val (.int (Int32.ofNat n2)), .val (.int (0 : Int32)), .val (.int (Int32.ofNat tl)), .val (.int (Int32.ofNat jk)), .val (.int (Int32.ofNat ln)), .val (.int (Int32.ofNat ex)), .val (.ref a), .val (.int (Int32.ofNat (2 + ln))), .val (.ref r), .val (.int (1 : Int32)), .unset] [(.ref c0)]))
              refine s_astore B X8 (pc' := 388) (Ls' := #[.val (.int i0), .val (.int i1), .val (.int (Int32.ofNat n1)), .val (.int (Int32.ofNat n2)), .val (.int (0 : Int32)), .val (.int (Int32.ofNat tl)), .val (.int (Int32.ofNat jk)), .val (.int (Int32.ofNat ln)), .val (.int (Int32.ofNat ex)), .val (.ref a), .val (.int (Int32.ofNat (2 + ln))), .val (.ref r), .val (.int (1 : Int32)), .val (.ref c0)]) at_386 rfl rfl rfl ?_
              refine s_iload B X8 (pc' := 390) at_388 rfl rfl ?_
              refine s_ifN B X8 (pc' := 393) at_390 (by decide) rfl ?_
              have jn416 : ∀ (T : State) (Lc : List Loc), Stand p l e room_1 s m #[(.int i0), (.int i1)] below meth c T Lc 4 25 → T.heap = h8 → Fr Z.heap.size Lc → Go p e below (OEnds s (fun v h L => v = some (.int 1) ∧ Fr Z.heap.size L) room_1.cells room_1.slots) (T.setTop (mkF m 416 #[.val (.int i0), .val (.int i1), .val (.int (Int32.ofNat n1)), .val (.int (Int32.ofNat n2)), .val (.int (0 : Int32)), .val (.int (Int32.ofNat tl)), .val (.int (Int32.ofNat jk)), .val (.int (Int32.ofNat ln)), .val (.int (Int32.ofNat ex)), .val (.ref a), .val (.int (Int32.ofNat (2 + ln))), .val (.ref r), .val (.int (1 : Int32)), .val (.ref c0)] [.int 1])) := by
                intro Tk416 Lk416 Xk416 ek416 Nk416
                refine s_istore B Xk416 (pc' := 418) (Ls' := #[.val (.int i0), .val (.int i1), .val (.int (Int32.ofNat n1)), .val (.int (Int32.ofNat n2)), .val (.int (0 : Int32)), .val (.int (Int32.ofNat tl)), .val (.int (Int32.ofNat jk)), .val (.int (Int32.ofNat ln)), .val (.int (Int32.ofNat ex)), .val (.ref a), .val (.int (Int32.ofNat (2 + ln))), .val (.ref r), .val (.int (1 : Int32)), .val (.ref c0)]) at_416 rfl rfl ?_
                refine s_iload B Xk416 (pc' := 420) at_418 rfl rfl ?_
                refine s_ifN B Xk416 (pc' := 423) at_420 (by decide) rfl ?_
                have jn446 : ∀ (T : State) (Lc : List Loc), Stand p l e room_1 s m #[(.int i0), (.int i1)] below meth c T Lc 4 25 → T.heap = h8 → Fr Z.heap.size Lc → Go p e below (OEnds s (fun v h L => v = some (.int 1) ∧ Fr Z.heap.size L) room_1.cells room_1.slots) (T.setTop (mkF m 446 #[.val (.int i0), .val (.int i1), .val (.int (Int32.ofNat n1)), .val (.int (Int32.ofNat n2)), .val (.int (0 : Int32)), .val (.int (Int32.ofNat tl)), .val (.int (Int32.ofNat jk)), .val (.int (Int32.ofNat ln)), .val (.int (Int32.ofNat ex)), .val (.ref a), .val (.int (Int32.ofNat (2 + ln))), .val (.ref r), .val (.int (1 : Int32)), .val (.ref c0)] [.int 1])) := by
                  intro Tk446 Lk446 Xk446 ek446 Nk446
                  refine s_istore B Xk446 (pc' := 448) (Ls' := #[.val (.int i0), .val (.int i1), .val (.int (Int32.ofNat n1)), .val (.int (Int32.ofNat n2)), .val (.int (0 : Int32)), .val (.int (Int32.ofNat tl)), .val (.int (Int32.ofNat jk)), .val (.int (Int32.ofNat ln)), .val (.int (Int32.ofNat ex)), .val (.ref a), .val (.int (Int32.ofNat (2 + ln))), .val (.ref r), .val (.int (1 : Int32)), .val (.ref c0)]) at_446 rfl rfl ?_
                  refine s_iload B Xk446 (pc' := 450) at_448 rfl rfl ?_
                  refine s_iconst B Xk446 (pc' := 451) (v := (1 : Int32)) at_450 rfl rfl ?_
                  refine s_icmpY B Xk446 (pc' := 497) at_451 (by decide) (by decide) (by decide) ?_
                  refine s_iload B Xk446 (pc' := 499) at_497 rfl rfl ?_
                  refine s_iconst B Xk446 (pc' := 500) (v := (2 : Int32)) at_499 rfl rfl ?_
                  refine s_icmpY B Xk446 (pc' := 532) at_500 (by decide) (by decide) (by decide) ?_
                  have jn545 : ∀ (T : State) (h : Heap) (Lc : List Loc) (pr : Nat), Stand p l e room_1 s m #[(.int i0), (.int i1)] below meth c T Lc 9 60 → T.heap = h → Fr Z.heap.size Lc → RD Z h r a (((2 + ln) + ex)) f pr (((2 + ln) + ex)) → (tl = 2 → pr = ((2 + ln) + ex)) → (tl ≠ 2 → pr = 2 + ln) → Go p e below (OEnds s (fun v h L => v = some (.int 1) ∧ Fr Z.heap.size L) room_1.cells room_1.slots) (T.setTop (mkF m 545 #[.val (.int i0), .val (.int i1), .val (.int (Int32.ofNat n1)), .val (.int (Int32.ofNat n2)), .val (.int (0 : Int32)), .val (.int (Int32.ofNat tl)), .val (.int (Int32.ofNat jk)), .val (.int (Int32.ofNat ln)), .val (.int (Int32.ofNat ex)), .val (.ref a), .val (.int (Int32.ofNat (2 + ln))), .val (.ref r), .val (.int (1 : Int32)), .val (.ref c0)] [])) := by
                    intro Tk545 hk545 Lk545 pr Xk545 ek545 Nk545 Rk545 hp2 hp0
                    refine s_iload B Xk545 (pc' := 547) at_545 rfl rfl ?_
                    refine s_ifN B Xk545 (pc' := 550) at_547 (by decide) rfl ?_
                    rcases (by omega : tl = 0 ∨ tl = 1 ∨ tl = 2 ∨ tl = 3) with q9 | q9 | q9 | q9
                    · refine s_aload B Xk545 (pc' := 552) at_550 rfl rfl rfl ?_
                      refine p_virtual B Xk545 (y := mn0) (pc' := 555) (argsL := []) (under := []) (W := 0) ek545 (tw19 hw) (tw20 hw) (tw22 hw) (tw21 hw) (tw23 hw) (tw2 hw) (by decide) (rm_has l Z a0 hw r a (((2 + ln) + ex)) _ (pr) (((2 + ln) + ex)) 0 hk545 Rk545 (if_neg (by omega))) Rk545.1 (lenOf pd_5 rfl) rfl rfl (by decide) (by decide) rfl rfl (by decide) (by decide) rfl at_552 rfl (fun T10 X10 e10 => ?_)
                      show Go p e below _ (T10.setTop (mkF m 555 #[.val (.int i0), .val (.int i1), .val (.int (Int32.ofNat n1)), .val (.int (Int32.ofNat n2)), .val (.int (0 : Int32)), .val (.int (Int32.ofNat tl)), .val (.int (Int32.ofNat jk)), .val (.int (Int32.ofNat ln)), .val (.int (Int32.ofNat ex)), .val (.ref a), .val (.int (Int32.ofNat (2 + ln))), .val (.ref r), .val (.int (1 : Int32)), .val (.ref c0)] [(.int (0 : Int32))]))
                      refine s_iload B X10 (pc' := 557) at_555 rfl rfl ?_
                      refine s_iconst B X10 (pc' := 558) (v := (1 : Int32)) at_557 rfl rfl ?_
                      refine b_icmp_eq B X10 (py := 567) (pn := 561) at_558 (by decide) (by decide) rfl (fun q => absurd q (fun z => by have := sm_inj (y := 1) (by omega) (by decide) z; omega)) (fun _ => ?_)
                      refine s_iload B X10 (pc' := 563) at_561 rfl rfl ?_
                      refine s_iconst B X10 (pc' := 564) (v := (3 : Int32)) at_563 rfl rfl ?_
                      refine b_icmp_ne B X10 (py := 571) (pn := 567) at_564 (by decide) (by decide) rfl (fun _ => ?_) (fun q => absurd q (fun z => by have := sm_inj (y := 3) (by omega) (by decide) z; omega))
                      refine s_iconst B X10 (pc' := 572) (v := (0 : Int32)) at_571 rfl rfl ?_
                      refine s_icmpN B X10 (pc' := 575) at_572 (by decide) rfl ?_
                      refine s_iconst B X10 (pc' := 576) (v := (1 : Int32)) at_575 rfl rfl ?_
                      refine s_goto B X10 (pc' := 580) at_576 (by decide) (by decide) ?_
                      refine s_istore B X10 (pc' := 582) (Ls' := #[.val (.int i0), .val (.int i1), .val (.int (Int32.ofNat n1)), .val (.int (Int32.ofNat n2)), .val (.int (0 : Int32)), .val (.int (Int32.ofNat tl)), .val (.int (Int32.ofNat jk)), .val (.int (Int32.ofNat ln)), .val (.int (Int32.ofNat ex)), .val (.ref a), .val (.int (Int32.ofNat (2 + ln))), .val (.ref r), .val (.int (1 : Int32)), .val (.ref c0)]) at_580 rfl rfl ?_
                      refine s_iload B X10 (pc' := 584) at_582 rfl rfl ?_
                      exact r_nar B X10 (t := .boolean) (by simp) rfl at_584 ⟨rfl, Nk545⟩ (by decide) (by decide)
                    · refine s_aload B Xk545 (pc' := 552) at_550 rfl rfl rfl ?_
                      refine p_virtual B Xk545 (y := mn0) (pc' := 555) (argsL := []) (under := []) (W := 0) ek545 (tw19 hw) (tw20 hw) (tw22 hw) (tw21 hw) (tw23 hw) (tw2 hw) (by decide) (rm_has l Z a0 hw r a (((2 + ln) + ex)) _ (pr) (((2 + ln) + ex)) 1 hk545 Rk545 (if_pos (by omega))) Rk545.1 (lenOf pd_5 rfl) rfl rfl (by decide) (by decide) rfl rfl (by decide) (by decide) rfl at_552 rfl (fun T11 X11 e11 => ?_)
                      show Go p e below _ (T11.setTop (mkF m 555 #[.val (.int i0), .val (.int i1), .val (.int (Int32.ofNat n1)), .val (.int (Int32.ofNat n2)), .val (.int (0 : Int32)), .val (.int (Int32.ofNat tl)), .val (.int (Int32.ofNat jk)), .val (.int (Int32.ofNat ln)), .val (.int (Int32.ofNat ex)), .val (.ref a), .val (.int (Int32.ofNat (2 + ln))), .val (.ref r), .val (.int (1 : Int32)), .val (.ref c0)] [(.int (1 : Int32))]))
                      refine s_iload B X11 (pc' := 557) at_555 rfl rfl ?_
                      refine s_iconst B X11 (pc' := 558) (v := (1 : Int32)) at_557 rfl rfl ?_
                      refine b_icmp_eq B X11 (py := 567) (pn := 561) at_558 (by decide) (by decide) rfl (fun _ => ?_) (fun q => absurd (congrArg Int32.ofNat q9) q)
                      refine s_iconst B X11 (pc' := 568) (v := (1 : Int32)) at_567 rfl rfl ?_
                      refine s_goto B X11 (pc' := 572) at_568 (by decide) (by decide) ?_
                      refine s_icmpN B X11 (pc' := 575) at_572 (by decide) rfl ?_
                      refine s_iconst B X11 (pc' := 576) (v := (1 : Int32)) at_575 rfl rfl ?_
                      refine s_goto B X11 (pc' := 580) at_576 (by decide) (by decide) ?_
                      refine s_istore B X11 (pc' := 582) (Ls' := #[.val (.int i0), .val (.int i1), .val (.int (Int32.ofNat n1)), .val (.int (Int32.ofNat n2)), .val (.int (0 : Int32)), .val (.int (Int32.ofNat tl)), .val (.int (Int32.ofNat jk)), .val (.int (Int32.ofNat ln)), .val (.int (Int32.ofNat ex)), .val (.ref a), .val (.int (Int32.ofNat (2 + ln))), .val (.ref r), .val (.int (1 : Int32)), .val (.ref c0)]) at_580 rfl rfl ?_
                      refine s_iload B X11 (pc' := 584) at_582 rfl rfl ?_
                      exact r_nar B X11 (t := .boolean) (by simp) rfl at_584 ⟨rfl, Nk545⟩ (by decide) (by decide)
                    · refine s_aload B Xk545 (pc' := 552) at_550 rfl rfl rfl ?_
                      refine p_virtual B Xk545 (y := mn0) (pc' := 555) (argsL := []) (under := []) (W := 0) ek545 (tw19 hw) (tw20 hw) (tw22 hw) (tw21 hw) (tw23 hw) (tw2 hw) (by decide) (rm_has l Z a0 hw r a (((2 + ln) + ex)) _ (pr) (((2 + ln) + ex)) 0 hk545 Rk545 (if_neg (by omega))) Rk545.1 (lenOf pd_5 rfl) rfl rfl (by decide) (by decide) rfl rfl (by decide) (by decide) rfl at_552 rfl (fun T12 X12 e12 => ?_)
                      show Go p e below _ (T12.setTop (mkF m 555 #[.val (.int i0), .val (.int i1), .val (.int (Int32.ofNat n1)), .val (.int (Int32.ofNat n2)), .val (.int (0 : Int32)), .val (.int (Int32.ofNat tl)), .val (.int (Int32.ofNat jk)), .val (.int (Int32.ofNat ln)), .val (.int (Int32.ofNat ex)), .val (.ref a), .val (.int (Int32.ofNat (2 + ln))), .val (.ref r), .val (.int (1 : Int32)), .val (.ref c0)] [(.int (0 : Int32))]))
                      refine s_iload B X12 (pc' := 557) at_555 rfl rfl ?_
                      refine s_iconst B X12 (pc' := 558) (v := (1 : Int32)) at_557 rfl rfl ?_
                      refine b_icmp_eq B X12 (py := 567) (pn := 561) at_558 (by decide) (by decide) rfl (fun q => absurd q (fun z => by have := sm_inj (y := 1) (by omega) (by decide) z; omega)) (fun _ => ?_)
                      refine s_iload B X12 (pc' := 563) at_561 rfl rfl ?_
                      refine s_iconst B X12 (pc' := 564) (v := (3 : Int32)) at_563 rfl rfl ?_
                      refine b_icmp_ne B X12 (py := 571) (pn := 567) at_564 (by decide) (by decide) rfl (fun _ => ?_) (fun q => absurd q (fun z => by have := sm_inj (y := 3) (by omega) (by decide) z; omega))
                      refine s_iconst B X12 (pc' := 572) (v := (0 : Int32)) at_571 rfl rfl ?_
                      refine s_icmpN B X12 (pc' := 575) at_572 (by decide) rfl ?_
                      refine s_iconst B X12 (pc' := 576) (v := (1 : Int32)) at_575 rfl rfl ?_
                      refine s_goto B X12 (pc' := 580) at_576 (by decide) (by decide) ?_
                      refine s_istore B X12 (pc' := 582) (Ls' := #[.val (.int i0), .val (.int i1), .val (.int (Int32.ofNat n1)), .val (.int (Int32.ofNat n2)), .val (.int (0 : Int32)), .val (.int (Int32.ofNat tl)), .val (.int (Int32.ofNat jk)), .val (.int (Int32.ofNat ln)), .val (.int (Int32.ofNat ex)), .val (.ref a), .val (.int (Int32.ofNat (2 + ln))), .val (.ref r), .val (.int (1 : Int32)), .val (.ref c0)]) at_580 rfl rfl ?_
                      refine s_iload B X12 (pc' := 584) at_582 rfl rfl ?_
                      exact r_nar B X12 (t := .boolean) (by simp) rfl at_584 ⟨rfl, Nk545⟩ (by decide) (by decide)
                    · refine s_aload B Xk545 (pc' := 552) at_550 rfl rfl rfl ?_
                      refine p_virtual B Xk545 (y := mn0) (pc' := 555) (argsL := []) (under := []) (W := 0) ek545 (tw19 hw) (tw20 hw) (tw22 hw) (tw21 hw) (tw23 hw) (tw2 hw) (by decide) (rm_has l Z a0 hw r a (((2 + ln) + ex)) _ (pr) (((2 + ln) + ex)) 1 hk545 Rk545 (if_pos (by omega))) Rk545.1 (lenOf pd_5 rfl) rfl rfl (by decide) (by decide) rfl rfl (by decide) (by decide) rfl at_552 rfl (fun T13 X13 e13 => ?_)
                      show Go p e below _ (T13.setTop (mkF m 555 #[.val (.int i0), .val (.int i1), .val (.int (Int32.ofNat n1)), .val (.int (Int32.ofNat n2)), .val (.int (0 : Int32)), .val (.int (Int32.ofNat tl)), .val (.int (Int32.ofNat jk)), .val (.int (Int32.ofNat ln)), .val (.int (Int32.ofNat ex)), .val (.ref a), .val (.int (Int32.ofNat (2 + ln))), .val (.ref r), .val (.int (1 : Int32)), .val (.ref c0)] [(.int (1 : Int32))]))
                      refine s_iload B X13 (pc' := 557) at_555 rfl rfl ?_
                      refine s_iconst B X13 (pc' := 558) (v := (1 : Int32)) at_557 rfl rfl ?_
                      refine b_icmp_eq B X13 (py := 567) (pn := 561) at_558 (by decide) (by decide) rfl (fun q => absurd q (fun z => by have := sm_inj (y := 1) (by omega) (by decide) z; omega)) (fun _ => ?_)
                      refine s_iload B X13 (pc' := 563) at_561 rfl rfl ?_
                      refine s_iconst B X13 (pc' := 564) (v := (3 : Int32)) at_563 rfl rfl ?_
                      refine b_icmp_ne B X13 (py := 571) (pn := 567) at_564 (by decide) (by decide) rfl (fun q => absurd (congrArg Int32.ofNat q9) q) (fun _ => ?_)
                      refine s_iconst B X13 (pc' := 568) (v := (1 : Int32)) at_567 rfl rfl ?_
                      refine s_goto B X13 (pc' := 572) at_568 (by decide) (by decide) ?_
                      refine s_icmpN B X13 (pc' := 575) at_572 (by decide) rfl ?_
                      refine s_iconst B X13 (pc' := 576) (v := (1 : Int32)) at_575 rfl rfl ?_
                      refine s_goto B X13 (pc' := 580) at_576 (by decide) (by decide) ?_
                      refine s_istore B X13 (pc' := 582) (Ls' := #[.val (.int i0), .val (.int i1), .val (.int (Int32.ofNat n1)), .val (.int (Int32.ofNat n2)), .val (.int (0 : Int32)), .val (.int (Int32.ofNat tl)), .val (.int (Int32.ofNat jk)), .val (.int (Int32.ofNat ln)), .val (.int (Int32.ofNat ex)), .val (.ref a), .val (.int (Int32.ofNat (2 + ln))), .val (.ref r), .val (.int (1 : Int32)), .val (.ref c0)]) at_580 rfl rfl ?_
                      refine s_iload B X13 (pc' := 584) at_582 rfl rfl ?_
                      exact r_nar B X13 (t := .boolean) (by simp) rfl at_584 ⟨rfl, Nk545⟩ (by decide) (by decide)
                  rcases (by omega : tl = 0 ∨ tl = 1 ∨ tl = 2 ∨ tl = 3) with q14 | q14 | q14 | q14
                  · refine s_iload B Xk446 (pc' := 534) at_532 rfl rfl ?_
                    refine s_iconst B Xk446 (pc' := 535) (v := (2 : Int32)) at_534 rfl rfl ?_
                    refine b_icmp_ne B Xk446 (py := 545) (pn := 538) at_535 (by decide) (by decide) rfl (fun _ => ?_) (fun q => absurd q (fun z => by have := sm_inj (y := 2) (by omega) (by decide) z; omega))
                    exact jn545 Tk446 h8 _ (0 + 1 + 1 + ln) (Xk446.mono (by decide) (by decide)) ek446 Nk446 R8 (fun z => by omega) (fun z => by omega)
                  · refine s_iload B Xk446 (pc' := 534) at_532 rfl rfl ?_
                    refine s_iconst B Xk446 (pc' := 535) (v := (2 : Int32)) at_534 rfl rfl ?_
                    refine b_icmp_ne B Xk446 (py := 545) (pn := 538) at_535 (by decide) (by decide) rfl (fun _ => ?_) (fun q => absurd q (fun z => by have := sm_inj (y := 2) (by omega) (by decide) z; omega))
                    exact jn545 Tk446 h8 _ (0 + 1 + 1 + ln) (Xk446.mono (by decide) (by decide)) ek446 Nk446 R8 (fun z => by omega) (fun z => by omega)
                  · refine s_iload B Xk446 (pc' := 534) at_532 rfl rfl ?_
                    refine s_iconst B Xk446 (pc' := 535) (v := (2 : Int32)) at_534 rfl rfl ?_
                    refine b_icmp_ne B Xk446 (py := 545) (pn := 538) at_535 (by decide) (by decide) rfl (fun q => absurd (congrArg Int32.ofNat q14) q) (fun _ => ?_)
                    refine s_aload B Xk446 (pc' := 540) at_538 rfl rfl rfl ?_
                    refine s_iconst B Xk446 (pc' := 541) (v := (1 : Int32)) at_540 rfl rfl ?_
                    refine c_virtual B Xk446 (y := mn10) (pc' := 544) (argsL := [(.int (1 : Int32))]) (under := []) (W := 0) ek446 (tw61 hw) (tw62 hw) (tw64 hw) (tw63 hw) (tw65 hw) (tw2 hw) (by decide) (rm_readBoolean l Z a0 hw r a (((2 + ln) + ex)) f (0 + 1 + 1 + ln) (((2 + ln) + ex)) 1 h8 R8 (by omega) ((show 2 + ln = 0 + 1 + 1 + ln by omega) ▸ (hb2 (by omega)).1) ((show 2 + ln + 1 = 0 + 1 + 1 + ln + 1 by omega) ▸ (hb2 (by omega)).2)) R8.1 (lenOf pd_7 rfl) rfl rfl (by decide) (by decide) (by decide) (by decide) rfl at_541 rfl (fun v15 T15 L15 X15 hQ15 => ?_)
                    obtain ⟨⟨x15, rfl⟩, Nq15, Kq15, R15⟩ := hQ15
                    obtain ⟨h15, e15⟩ : ∃ z, T15.heap = z := ⟨_, rfl⟩
                    rw [e15] at Kq15 R15
                    have N15 := Fr.app Nk446 Nq15
                    show Go p e below _ (T15.setTop (mkF m 544 #[.val (.int i0), .val (.int i1), .val (.int (Int32.ofNat n1)), .val (.int (Int32.ofNat n2)), .val (.int (0 : Int32)), .val (.int (Int32.ofNat tl)), .val (.int (Int32.ofNat jk)), .val (.int (Int32.ofNat ln)), .val (.int (Int32.ofNat ex)), .val (.ref a), .val (.int (Int32.ofNat (2 + ln))), .val (.ref r), .val (.int (1 : Int32)), .val (.ref c0)] [(.int x15)]))
                    refine s_pop B X15 (pc' := 545) at_544 rfl rfl ?_
                    exact jn545 T15 h15 _ (0 + 1 + 1 + ln + 1 + 1 + 1) (X15.mono (by decide) (by decide)) e15 N15 R15 (fun z => by omega) (fun z => by omega)
                  · refine s_iload B Xk446 (pc' := 534) at_532 rfl rfl ?_
                    refine s_iconst B Xk446 (pc' := 535) (v := (2 : Int32)) at_534 rfl rfl ?_
                    refine b_icmp_ne B Xk446 (py := 545) (pn := 538) at_535 (by decide) (by decide) rfl (fun _ => ?_) (fun q => absurd q (fun z => by have := sm_inj (y := 2) (by omega) (by decide) z; omega))
                    exact jn545 Tk446 h8 _ (0 + 1 + 1 + ln) (Xk446.mono (by decide) (by decide)) ek446 Nk446 R8 (fun z => by omega) (fun z => by omega)
                by_cases q16 : 0 < ln
                · refine s_aload B Xk416 (pc' := 425) at_423 rfl rfl rfl ?_
                  refine p_virtual B Xk416 (y := mn0) (pc' := 428) (argsL := []) (under := []) (W := 0) ek416 (tw19 hw) (tw20 hw) (tw22 hw) (tw21 hw) (tw23 hw) (tw2 hw) (by decide) (rm_has l Z a0 hw c0 a (((2 + ln) + ex)) _ (0 + 1 + 1) (0 + 1 + 1 + ln) 1 h8 C8 (if_pos (by omega))) C8.1 (lenOf pd_5 rfl) rfl rfl (by decide) (by decide) rfl rfl (by decide) (by decide) rfl at_425 rfl (fun T17 X17 e17 => ?_)
                  show Go p e below _ (T17.setTop (mkF m 428 #[.val (.int i0), .val (.int i1), .val (.int (Int32.ofNat n1)), .val (.int (Int32.ofNat n2)), .val (.int (0 : Int32)), .val (.int (Int32.ofNat tl)), .val (.int (Int32.ofNat jk)), .val (.int (Int32.ofNat ln)), .val (.int (Int32.ofNat ex)), .val (.ref a), .val (.int (Int32.ofNat (2 + ln))), .val (.ref r), .val (.int (1 : Int32)), .val (.ref c0)] [(.int (1 : Int32))]))
                  refine s_iload B X17 (pc' := 430) at_428 rfl rfl ?_
                  refine b_if_le B X17 (py := 437) (pn := 433) at_430 (by decide) (by decide) rfl (fun q => absurd ((sm_lt (x := 0) (y := ln) (by decide) (by omega)).mpr q16) q) (fun _ => ?_)
                  refine s_iconst B X17 (pc' := 434) (v := (1 : Int32)) at_433 rfl rfl ?_
                  refine s_goto B X17 (pc' := 438) at_434 (by decide) (by decide) ?_
                  refine s_icmpN B X17 (pc' := 441) at_438 (by decide) rfl ?_
                  refine s_iconst B X17 (pc' := 442) (v := (1 : Int32)) at_441 rfl rfl ?_
                  refine s_goto B X17 (pc' := 446) at_442 (by decide) (by decide) ?_
                  exact jn446 T17 _ (X17.mono (by decide) (by decide)) e17 Nk416
                · refine s_aload B Xk416 (pc' := 425) at_423 rfl rfl rfl ?_
                  refine p_virtual B Xk416 (y := mn0) (pc' := 428) (argsL := []) (under := []) (W := 0) ek416 (tw19 hw) (tw20 hw) (tw22 hw) (tw21 hw) (tw23 hw) (tw2 hw) (by decide) (rm_has l Z a0 hw c0 a (((2 + ln) + ex)) _ (0 + 1 + 1) (0 + 1 + 1 + ln) 0 h8 C8 (if_neg (by omega))) C8.1 (lenOf pd_5 rfl) rfl rfl (by decide) (by decide) rfl rfl (by decide) (by decide) rfl at_425 rfl (fun T18 X18 e18 => ?_)
                  show Go p e below _ (T18.setTop (mkF m 428 #[.val (.int i0), .val (.int i1), .val (.int (Int32.ofNat n1)), .val (.int (Int32.ofNat n2)), .val (.int (0 : Int32)), .val (.int (Int32.ofNat tl)), .val (.int (Int32.ofNat jk)), .val (.int (Int32.ofNat ln)), .val (.int (Int32.ofNat ex)), .val (.ref a), .val (.int (Int32.ofNat (2 + ln))), .val (.ref r), .val (.int (1 : Int32)), .val (.ref c0)] [(.int (0 : Int32))]))
                  refine s_iload B X18 (pc' := 430) at_428 rfl rfl ?_
                  refine b_if_le B X18 (py := 437) (pn := 433) at_430 (by decide) (by decide) rfl (fun _ => ?_) (fun q => absurd q (fun z => q16 ((sm_lt (x := 0) (y := ln) (by decide) (by omega)).mp z)))
                  refine s_iconst B X18 (pc' := 438) (v := (0 : Int32)) at_437 rfl rfl ?_
                  refine s_icmpN B X18 (pc' := 441) at_438 (by decide) rfl ?_
                  refine s_iconst B X18 (pc' := 442) (v := (1 : Int32)) at_441 rfl rfl ?_
                  refine s_goto B X18 (pc' := 446) at_442 (by decide) (by decide) ?_
                  exact jn446 T18 _ (X18.mono (by decide) (by decide)) e18 Nk416
              by_cases q19 : 0 < ex
              · refine s_aload B X8 (pc' := 395) at_393 rfl rfl rfl ?_
                refine p_virtual B X8 (y := mn0) (pc' := 398) (argsL := []) (under := []) (W := 0) e8 (tw19 hw) (tw20 hw) (tw22 hw) (tw21 hw) (tw23 hw) (tw2 hw) (by decide) (rm_has l Z a0 hw r a (((2 + ln) + ex)) _ (0 + 1 + 1 + ln) (((2 + ln) + ex)) 1 h8 R8 (if_pos (by omega))) R8.1 (lenOf pd_5 rfl) rfl rfl (by decide) (by decide) rfl rfl (by decide) (by decide) rfl at_395 rfl (fun T20 X20 e20 => ?_)
                show Go p e below _ (T20.setTop (mkF m 398 #[.val (.int i0), .val (.int i1), .val (.int (Int32.ofNat n1)), .val (.int (Int32.ofNat n2)), .val (.int (0 : Int32)), .val (.int (Int32.ofNat tl)), .val (.int (Int32.ofNat jk)), .val (.int (Int32.ofNat ln)), .val (.int (Int32.ofNat ex)), .val (.ref a), .val (.int (Int32.ofNat (2 + ln))), .val (.ref r), .val (.int (1 : Int32)), .val (.ref c0)] [(.int (1 : Int32))]))
                refine s_iload B X20 (pc' := 400) at_398 rfl rfl ?_
                refine b_if_le B X20 (py := 407) (pn := 403) at_400 (by decide) (by decide) rfl (fun q => absurd ((sm_lt (x := 0) (y := ex) (by decide) (by omega)).mpr q19) q) (fun _ => ?_)
                refine s_iconst B X20 (pc' := 404) (v := (1 : Int32)) at_403 rfl rfl ?_
                refine s_goto B X20 (pc' := 408) at_404 (by decide) (by decide) ?_
                refine s_icmpN B X20 (pc' := 411) at_408 (by decide) rfl ?_
                refine s_iconst B X20 (pc' := 412) (v := (1 : Int32)) at_411 rfl rfl ?_
                refine s_goto B X20 (pc' := 416) at_412 (by decide) (by decide) ?_
                exact jn416 T20 _ (X20.mono (by decide) (by decide)) e20 N8
              · refine s_aload B X8 (pc' := 395) at_393 rfl rfl rfl ?_
                refine p_virtual B X8 (y := mn0) (pc' := 398) (argsL := []) (under := []) (W := 0) e8 (tw19 hw) (tw20 hw) (tw22 hw) (tw21 hw) (tw23 hw) (tw2 hw) (by decide) (rm_has l Z a0 hw r a (((2 + ln) + ex)) _ (0 + 1 + 1 + ln) (((2 + ln) + ex)) 0 h8 R8 (if_neg (by omega))) R8.1 (lenOf pd_5 rfl) rfl rfl (by decide) (by decide) rfl rfl (by decide) (by decide) rfl at_395 rfl (fun T21 X21 e21 => ?_)
                show Go p e below _ (T21.setTop (mkF m 398 #[.val (.int i0), .val (.int i1), .val (.int (Int32.ofNat n1)), .val (.int (Int32.ofNat n2)), .val (.int (0 : Int32)), .val (.int (Int32.ofNat tl)), .val (.int (Int32.ofNat jk)), .val (.int (Int32.ofNat ln)), .val (.int (Int32.ofNat ex)), .val (.ref a), .val (.int (Int32.ofNat (2 + ln))), .val (.ref r), .val (.int (1 : Int32)), .val (.ref c0)] [(.int (0 : Int32))]))
                refine s_iload B X21 (pc' := 400) at_398 rfl rfl ?_
                refine b_if_le B X21 (py := 407) (pn := 403) at_400 (by decide) (by decide) rfl (fun _ => ?_) (fun q => absurd q (fun z => q19 ((sm_lt (x := 0) (y := ex) (by decide) (by omega)).mp z)))
                refine s_iconst B X21 (pc' := 408) (v := (0 : Int32)) at_407 rfl rfl ?_
                refine s_icmpN B X21 (pc' := 411) at_408 (by decide) rfl ?_
                refine s_iconst B X21 (pc' := 412) (v := (1 : Int32)) at_411 rfl rfl ?_
                refine s_goto B X21 (pc' := 416) at_412 (by decide) (by decide) ?_
                exact jn416 T21 _ (X21.mono (by decide) (by decide)) e21 N8
            rcases (by omega : tl = 0 ∨ tl = 1 ∨ tl = 2 ∨ tl = 3) with q22 | q22 | q22 | q22
            · refine s_iload B Xj283 (pc' := 285) at_283 rfl rfl ?_
              refine s_iconst B Xj283 (pc' := 286) (v := (1 : Int32)) at_285 rfl rfl ?_
              refine b_icmp_ne B Xj283 (py := 302) (pn := 289) at_286 (by decide) (by decide) rfl (fun _ => ?_) (fun q => absurd q (fun z => by have := sm_inj (y := 1) (by omega) (by decide) z; omega))
              refine s_iload B Xj283 (pc' := 304) at_302 rfl rfl ?_
              refine s_iconst B Xj283 (pc' := 305) (v := (2 : Int32)) at_304 rfl rfl ?_
              refine b_icmp_ne B Xj283 (py := 334) (pn := 308) at_305 (by decide) (by decide) rfl (fun _ => ?_) (fun q => absurd q (fun z => by have := sm_inj (y := 2) (by omega) (by decide) z; omega))
              refine s_iload B Xj283 (pc' := 336) at_334 rfl rfl ?_
              refine s_iconst B Xj283 (pc' := 337) (v := (3 : Int32)) at_336 rfl rfl ?_
              refine b_icmp_ne B Xj283 (py := 361) (pn := 340) at_337 (by decide) (by decide) rfl (fun _ => ?_) (fun q => absurd q (fun z => by have := sm_inj (y := 3) (by omega) (by decide) z; omega))
              exact jn361 Tj283 hj283 _ _ Xj283 ej283 Nj283 Aj283 y283_0 y283_1 (fun z => by omega)
            · refine s_iload B Xj283 (pc' := 285) at_283 rfl rfl ?_
              refine s_iconst B Xj283 (pc' := 286) (v := (1 : Int32)) at_285 rfl rfl ?_
              refine b_icmp_ne B Xj283 (py := 302) (pn := 289) at_286 (by decide) (by decide) rfl (fun q => absurd (congrArg Int32.ofNat q22) q) (fun _ => ?_)
              refine s_aload B Xj283 (pc' := 291) at_289 rfl rfl rfl ?_
              refine s_iload B Xj283 (pc' := 293) at_291 rfl rfl ?_
              refine s_iloadN B Xj283 (pc' := 294) at_293 rfl rfl ?_
              refine s_bipush B Xj283 (pc' := 296) (v := (24 : Int32)) at_294 rfl rfl ?_
              refine s_iushr B Xj283 (pc' := 297) (v := ((i1.toUInt32 >>> ((24 : Int32) &&& 31).toUInt32).toInt32)) at_296 rfl rfl ?_
              refine s_i2b B Xj283 (pc' := 298) (v := ((i1.toUInt32 >>> ((24 : Int32) &&& 31).toUInt32).toInt32).toInt8.toInt32) at_297 rfl rfl ?_
              refine s_stBA B Xj283 (pc' := 299) (j := (2 + ln)) (x := ((i1.toUInt32 >>> ((24 : Int32) &&& 31).toUInt32).toInt32).toInt8.toInt32) ej283 Aj283 (by omega) (by omega) at_298 rfl (fun T23 h23 X23 e23 W23 Ab23 => ?_)
              have N23 := Fr.snoc X23 Nj283 ga
              have p23_0 : (updB f ((2 + ln)) (nar .byte ((i1.toUInt32 >>> ((24 : Int32) &&& 31).toUInt32).toInt32).toInt8.toInt32)) (0) &&& 255 = Int32.ofNat (48) := by rw [updB_ne (by omega)]; exact y283_0
              have p23_1 : (updB f ((2 + ln)) (nar .byte ((i1.toUInt32 >>> ((24 : Int32) &&& 31).toUInt32).toInt32).toInt8.toInt32)) (1) &&& 255 = Int32.ofNat (ln) := by rw [updB_ne (by omega)]; exact y283_1
              show Go p e below _ (T23.setTop (mkF m 299 #[.val (.int i0), .val (.int i1), .val (.int (Int32.ofNat n1)), .val (.int (Int32.ofNat n2)), .val (.int (0 : Int32)), .val (.int (Int32.ofNat tl)), .val (.int (Int32.ofNat jk)), .val (.int (Int32.ofNat ln)), .val (.int (Int32.ofNat ex)), .val (.ref a), .val (.int (Int32.ofNat (2 + ln))), .unset, .unset, .unset] []))
              refine s_goto B X23 (pc' := 361) at_299 (by decide) (by decide) ?_
              exact jn361 T23 h23 _ _ X23 e23 N23 Ab23 p23_0 p23_1 (fun z => by omega)
            · refine s_iload B Xj283 (pc' := 285) at_283 rfl rfl ?_
              refine s_iconst B Xj283 (pc' := 286) (v := (1 : Int32)) at_285 rfl rfl ?_
              refine b_icmp_ne B Xj283 (py := 302) (pn := 289) at_286 (by decide) (by decide) rfl (fun _ => ?_) (fun q => absurd q (fun z => by have := sm_inj (y := 1) (by omega) (by decide) z; omega))
              refine s_iload B Xj283 (pc' := 304) at_302 rfl rfl ?_
              refine s_iconst B Xj283 (pc' := 305) (v := (2 : Int32)) at_304 rfl rfl ?_
              refine b_icmp_ne B Xj283 (py := 334) (pn := 308) at_305 (by decide) (by decide) rfl (fun q => absurd (congrArg Int32.ofNat q22) q) (fun _ => ?_)
              refine s_aload B Xj283 (pc' := 310) at_308 rfl rfl rfl ?_
              refine s_iload B Xj283 (pc' := 312) at_310 rfl rfl ?_
              refine s_iconst B Xj283 (pc' := 313) (v := (1 : Int32)) at_312 rfl rfl ?_
              refine s_stBA B Xj283 (pc' := 314) (j := (2 + ln)) (x := (1 : Int32)) ej283 Aj283 (by omega) (by omega) at_313 rfl (fun T24 h24 X24 e24 W24 Ab24 => ?_)
              have N24 := Fr.snoc X24 Nj283 ga
              have p24_0 : (updB f ((2 + ln)) (nar .byte (1 : Int32))) (0) &&& 255 = Int32.ofNat (48) := by rw [updB_ne (by omega)]; exact y283_0
              have p24_1 : (updB f ((2 + ln)) (nar .byte (1 : Int32))) (1) &&& 255 = Int32.ofNat (ln) := by rw [updB_ne (by omega)]; exact y283_1
              have p24_n : (updB f ((2 + ln)) (nar .byte (1 : Int32))) ((2 + ln)) &&& 255 = Int32.ofNat (1) := by rw [updB_same]; exact own_nb (x := 1) (by decide)
              show Go p e below _ (T24.setTop (mkF m 314 #[.val (.int i0), .val (.int i1), .val (.int (Int32.ofNat n1)), .val (.int (Int32.ofNat n2)), .val (.int (0 : Int32)), .val (.int (Int32.ofNat tl)), .val (.int (Int32.ofNat jk)), .val (.int (Int32.ofNat ln)), .val (.int (Int32.ofNat ex)), .val (.ref a), .val (.int (Int32.ofNat (2 + ln))), .unset, .unset, .unset] []))
              refine s_aload B X24 (pc' := 316) at_314 rfl rfl rfl ?_
              refine s_iload B X24 (pc' := 318) at_316 rfl rfl ?_
              refine s_iconst B X24 (pc' := 319) (v := (1 : Int32)) at_318 rfl rfl ?_
              refine s_iadd B X24 (pc' := 320) (v := (Int32.ofNat ((2 + ln) + 1))) at_319 (sm_add (x := (2 + ln)) (y := 1) (by omega) (by omega)) rfl ?_
              refine s_iconst B X24 (pc' := 321) (v := (1 : Int32)) at_320 rfl rfl ?_
              refine s_stBA B X24 (pc' := 322) (j := ((2 + ln) + 1)) (x := (1 : Int32)) e24 Ab24 (by omega) (by omega) at_321 rfl (fun T25 h25 X25 e25 W25 Ab25 => ?_)
              have N25 := Fr.snoc X25 N24 ga
              have p25_0 : (updB (updB f ((2 + ln)) (nar .byte (1 : Int32))) (((2 + ln) + 1)) (nar .byte (1 : Int32))) (0) &&& 255 = Int32.ofNat (48) := by rw [updB_ne (by omega)]; exact p24_0
              have p25_1 : (updB (updB f ((2 + ln)) (nar .byte (1 : Int32))) (((2 + ln) + 1)) (nar .byte (1 : Int32))) (1) &&& 255 = Int32.ofNat (ln) := by rw [updB_ne (by omega)]; exact p24_1
              have p25_2 : (updB (updB f ((2 + ln)) (nar .byte (1 : Int32))) (((2 + ln) + 1)) (nar .byte (1 : Int32))) ((2 + ln)) &&& 255 = Int32.ofNat (1) := by rw [updB_ne (by omega)]; exact p24_n
              have p25_n : (updB (updB f ((2 + ln)) (nar .byte (1 : Int32))) (((2 + ln) + 1)) (nar .byte (1 : Int32))) (((2 + ln) + 1)) &&& 255 = Int32.ofNat (1) := by rw [updB_same]; exact own_nb (x := 1) (by decide)
              show Go p e below _ (T25.setTop (mkF m 322 #[.val (.int i0), .val (.int i1), .val (.int (Int32.ofNat n1)), .val (.int (Int32.ofNat n2)), .val (.int (0 : Int32)), .val (.int (Int32.ofNat tl)), .val (.int (Int32.ofNat jk)), .val (.int (Int32.ofNat ln)), .val (.int (Int32.ofNat ex)), .val (.ref a), .val (.int (Int32.ofNat (2 + ln))), .unset, .unset, .unset] []))
              refine s_aload B X25 (pc' := 324) at_322 rfl rfl rfl ?_
              refine s_iload B X25 (pc' := 326) at_324 rfl rfl ?_
              refine s_iconst B X25 (pc' := 327) (v := (2 : Int32)) at_326 rfl rfl ?_
              refine s_iadd B X25 (pc' := 328) (v := (Int32.ofNat ((2 + ln) + 2))) at_327 (sm_add (x := (2 + ln)) (y := 2) (by omega) (by omega)) rfl ?_
              refine s_iloadN B X25 (pc' := 329) at_328 rfl rfl ?_
              refine s_i2b B X25 (pc' := 330) (v := i1.toInt8.toInt32) at_329 rfl rfl ?_
              refine s_stBA B X25 (pc' := 331) (j := ((2 + ln) + 2)) (x := i1.toInt8.toInt32) e25 Ab25 (by omega) (by omega) at_330 rfl (fun T26 h26 X26 e26 W26 Ab26 => ?_)
              have N26 := Fr.snoc X26 N25 ga
              have p26_0 : (updB (updB (updB f ((2 + ln)) (nar .byte (1 : Int32))) (((2 + ln) + 1)) (nar .byte (1 : Int32))) (((2 + ln) + 2)) (nar .byte i1.toInt8.toInt32)) (0) &&& 255 = Int32.ofNat (48) := by rw [updB_ne (by omega)]; exact p25_0
              have p26_1 : (updB (updB (updB f ((2 + ln)) (nar .byte (1 : Int32))) (((2 + ln) + 1)) (nar .byte (1 : Int32))) (((2 + ln) + 2)) (nar .byte i1.toInt8.toInt32)) (1) &&& 255 = Int32.ofNat (ln) := by rw [updB_ne (by omega)]; exact p25_1
              have p26_2 : (updB (updB (updB f ((2 + ln)) (nar .byte (1 : Int32))) (((2 + ln) + 1)) (nar .byte (1 : Int32))) (((2 + ln) + 2)) (nar .byte i1.toInt8.toInt32)) ((2 + ln)) &&& 255 = Int32.ofNat (1) := by rw [updB_ne (by omega)]; exact p25_2
              have p26_3 : (updB (updB (updB f ((2 + ln)) (nar .byte (1 : Int32))) (((2 + ln) + 1)) (nar .byte (1 : Int32))) (((2 + ln) + 2)) (nar .byte i1.toInt8.toInt32)) (((2 + ln) + 1)) &&& 255 = Int32.ofNat (1) := by rw [updB_ne (by omega)]; exact p25_n
              show Go p e below _ (T26.setTop (mkF m 331 #[.val (.int i0), .val (.int i1), .val (.int (Int32.ofNat n1)), .val (.int (Int32.ofNat n2)), .val (.int (0 : Int32)), .val (.int (Int32.ofNat tl)), .val (.int (Int32.ofNat jk)), .val (.int (Int32.ofNat ln)), .val (.int (Int32.ofNat ex)), .val (.ref a), .val (.int (Int32.ofNat (2 + ln))), .unset, .unset, .unset] []))
              refine s_goto B X26 (pc' := 361) at_331 (by decide) (by decide) ?_
              exact jn361 T26 h26 _ _ X26 e26 N26 Ab26 p26_0 p26_1 (fun _ => ⟨p26_2, p26_3⟩)
            · refine s_iload B Xj283 (pc' := 285) at_283 rfl rfl ?_
              refine s_iconst B Xj283 (pc' := 286) (v := (1 : Int32)) at_285 rfl rfl ?_
              refine b_icmp_ne B Xj283 (py := 302) (pn := 289) at_286 (by decide) (by decide) rfl (fun _ => ?_) (fun q => absurd q (fun z => by have := sm_inj (y := 1) (by omega) (by decide) z; omega))
              refine s_iload B Xj283 (pc' := 304) at_302 rfl rfl ?_
              refine s_iconst B Xj283 (pc' := 305) (v := (2 : Int32)) at_304 rfl rfl ?_
              refine b_icmp_ne B Xj283 (py := 334) (pn := 308) at_305 (by decide) (by decide) rfl (fun _ => ?_) (fun q => absurd q (fun z => by have := sm_inj (y := 2) (by omega) (by decide) z; omega))
              refine s_iload B Xj283 (pc' := 336) at_334 rfl rfl ?_
              refine s_iconst B Xj283 (pc' := 337) (v := (3 : Int32)) at_336 rfl rfl ?_
              refine b_icmp_ne B Xj283 (py := 361) (pn := 340) at_337 (by decide) (by decide) rfl (fun q => absurd (congrArg Int32.ofNat q22) q) (fun _ => ?_)
              refine s_aload B Xj283 (pc' := 342) at_340 rfl rfl rfl ?_
              refine s_iload B Xj283 (pc' := 344) at_342 rfl rfl ?_
              refine s_iloadN B Xj283 (pc' := 345) at_344 rfl rfl ?_
              refine s_bipush B Xj283 (pc' := 347) (v := (24 : Int32)) at_345 rfl rfl ?_
              refine s_iushr B Xj283 (pc' := 348) (v := ((i1.toUInt32 >>> ((24 : Int32) &&& 31).toUInt32).toInt32)) at_347 rfl rfl ?_
              refine s_i2b B Xj283 (pc' := 349) (v := ((i1.toUInt32 >>> ((24 : Int32) &&& 31).toUInt32).toInt32).toInt8.toInt32) at_348 rfl rfl ?_
              refine s_stBA B Xj283 (pc' := 350) (j := (2 + ln)) (x := ((i1.toUInt32 >>> ((24 : Int32) &&& 31).toUInt32).toInt32).toInt8.toInt32) ej283 Aj283 (by omega) (by omega) at_349 rfl (fun T27 h27 X27 e27 W27 Ab27 => ?_)
              have N27 := Fr.snoc X27 Nj283 ga
              have p27_0 : (updB f ((2 + ln)) (nar .byte ((i1.toUInt32 >>> ((24 : Int32) &&& 31).toUInt32).toInt32).toInt8.toInt32)) (0) &&& 255 = Int32.ofNat (48) := by rw [updB_ne (by omega)]; exact y283_0
              have p27_1 : (updB f ((2 + ln)) (nar .byte ((i1.toUInt32 >>> ((24 : Int32) &&& 31).toUInt32).toInt32).toInt8.toInt32)) (1) &&& 255 = Int32.ofNat (ln) := by rw [updB_ne (by omega)]; exact y283_1
              show Go p e below _ (T27.setTop (mkF m 350 #[.val (.int i0), .val (.int i1), .val (.int (Int32.ofNat n1)), .val (.int (Int32.ofNat n2)), .val (.int (0 : Int32)), .val (.int (Int32.ofNat tl)), .val (.int (Int32.ofNat jk)), .val (.int (Int32.ofNat ln)), .val (.int (Int32.ofNat ex)), .val (.ref a), .val (.int (Int32.ofNat (2 + ln))), .unset, .unset, .unset] []))
              refine s_aload B X27 (pc' := 352) at_350 rfl rfl rfl ?_
              refine s_iload B X27 (pc' := 354) at_352 rfl rfl ?_
              refine s_iconst B X27 (pc' := 355) (v := (1 : Int32)) at_354 rfl rfl ?_
              refine s_iadd B X27 (pc' := 356) (v := (Int32.ofNat ((2 + ln) + 1))) at_355 (sm_add (x := (2 + ln)) (y := 1) (by omega) (by omega)) rfl ?_
              refine s_iloadN B X27 (pc' := 357) at_356 rfl rfl ?_
              refine s_iconst B X27 (pc' := 358) (v := (4 : Int32)) at_357 rfl rfl ?_
              refine s_iushr B X27 (pc' := 359) (v := ((i1.toUInt32 >>> ((4 : Int32) &&& 31).toUInt32).toInt32)) at_358 rfl rfl ?_
              refine s_i2b B X27 (pc' := 360) (v := ((i1.toUInt32 >>> ((4 : Int32) &&& 31).toUInt32).toInt32).toInt8.toInt32) at_359 rfl rfl ?_
              refine s_stBA B X27 (pc' := 361) (j := ((2 + ln) + 1)) (x := ((i1.toUInt32 >>> ((4 : Int32) &&& 31).toUInt32).toInt32).toInt8.toInt32) e27 Ab27 (by omega) (by omega) at_360 rfl (fun T28 h28 X28 e28 W28 Ab28 => ?_)
              have N28 := Fr.snoc X28 N27 ga
              have p28_0 : (updB (updB f ((2 + ln)) (nar .byte ((i1.toUInt32 >>> ((24 : Int32) &&& 31).toUInt32).toInt32).toInt8.toInt32)) (((2 + ln) + 1)) (nar .byte ((i1.toUInt32 >>> ((4 : Int32) &&& 31).toUInt32).toInt32).toInt8.toInt32)) (0) &&& 255 = Int32.ofNat (48) := by rw [updB_ne (by omega)]; exact p27_0
              have p28_1 : (updB (updB f ((2 + ln)) (nar .byte ((i1.toUInt32 >>> ((24 : Int32) &&& 31).toUInt32).toInt32).toInt8.toInt32)) (((2 + ln) + 1)) (nar .byte ((i1.toUInt32 >>> ((4 : Int32) &&& 31).toUInt32).toInt32).toInt8.toInt32)) (1) &&& 255 = Int32.ofNat (ln) := by rw [updB_ne (by omega)]; exact p27_1
              show Go p e below _ (T28.setTop (mkF m 361 #[.val (.int i0), .val (.int i1), .val (.int (Int32.ofNat n1)), .val (.int (Int32.ofNat n2)), .val (.int (0 : Int32)), .val (.int (Int32.ofNat tl)), .val (.int (Int32.ofNat jk)), .val (.int (Int32.ofNat ln)), .val (.int (Int32.ofNat ex)), .val (.ref a), .val (.int (Int32.ofNat (2 + ln))), .unset, .unset, .unset] []))
              exact jn361 T28 h28 _ _ X28 e28 N28 Ab28 p28_0 p28_1 (fun z => by omega)
          show Go p e below _ (T4.setTop (mkF m 265 #[.val (.int i0), .val (.int i1), .val (.int (Int32.ofNat n1)), .val (.int (Int32.ofNat n2)), .val (.int (0 : Int32)), .val (.int (Int32.ofNat tl)), .val (.int (Int32.ofNat jk)), .val (.int (Int32.ofNat ln)), .val (.int (Int32.ofNat ex)), .val (.ref a), .val (.int (Int32.ofNat 2)), .unset, .unset, .unset] []))
          rcases (by omega : jk = 0 ∨ jk = 1) with q29 | q29
          · refine s_iload B X4 (pc' := 267) at_265 rfl rfl ?_
            refine b_if_eq B X4 (py := 283) (pn := 270) at_267 (by decide) (by decide) rfl (fun _ => ?_) (fun q => absurd (congrArg Int32.ofNat q29) q)
            exact jn283 T4 h4 _ _ _ X4 e4 N4 Ab4 p4_0 p4_n (by omega)
          · refine s_iload B X4 (pc' := 267) at_265 rfl rfl ?_
            refine b_if_eq B X4 (py := 283) (pn := 270) at_267 (by decide) (by decide) rfl (fun q => absurd q (fun z => by have := sm_inj (y := 0) (by omega) (by decide) z; omega)) (fun _ => ?_)
            refine s_aload B X4 (pc' := 272) at_270 rfl rfl rfl ?_
            refine s_iload B X4 (pc' := 274) at_272 rfl rfl ?_
            refine s_iloadN B X4 (pc' := 275) at_274 rfl rfl ?_
            refine s_bipush B X4 (pc' := 277) (v := (16 : Int32)) at_275 rfl rfl ?_
            refine s_iushr B X4 (pc' := 278) (v := ((i1.toUInt32 >>> ((16 : Int32) &&& 31).toUInt32).toInt32)) at_277 rfl rfl ?_
            refine s_i2b B X4 (pc' := 279) (v := ((i1.toUInt32 >>> ((16 : Int32) &&& 31).toUInt32).toInt32).toInt8.toInt32) at_278 rfl rfl ?_
            refine s_stBA B X4 (pc' := 280) (j := 2) (x := ((i1.toUInt32 >>> ((16 : Int32) &&& 31).toUInt32).toInt32).toInt8.toInt32) e4 Ab4 (by omega) (by omega) at_279 rfl (fun T30 h30 X30 e30 W30 Ab30 => ?_)
            have N30 := Fr.snoc X30 N4 ga
            have p30_0 : (updB (updB (updB (fun _ => 0) (0) (nar .byte (48 : Int32))) (1) (nar .byte (Int32.ofNat ln))) (2) (nar .byte ((i1.toUInt32 >>> ((16 : Int32) &&& 31).toUInt32).toInt32).toInt8.toInt32)) (0) &&& 255 = Int32.ofNat (48) := by rw [updB_ne (by omega)]; exact p4_0
            have p30_1 : (updB (updB (updB (fun _ => 0) (0) (nar .byte (48 : Int32))) (1) (nar .byte (Int32.ofNat ln))) (2) (nar .byte ((i1.toUInt32 >>> ((16 : Int32) &&& 31).toUInt32).toInt32).toInt8.toInt32)) (1) &&& 255 = Int32.ofNat (ln) := by rw [updB_ne (by omega)]; exact p4_n
            show Go p e below _ (T30.setTop (mkF m 280 #[.val (.int i0), .val (.int i1), .val (.int (Int32.ofNat n1)), .val (.int (Int32.ofNat n2)), .val (.int (0 : Int32)), .val (.int (Int32.ofNat tl)), .val (.int (Int32.ofNat jk)), .val (.int (Int32.ofNat ln)), .val (.int (Int32.ofNat ex)), .val (.ref a), .val (.int (Int32.ofNat 2)), .unset, .unset, .unset] []))
            refine s_iinc B X30 (pc' := 283) (v := (Int32.ofNat (2 + 1))) (Ls' := #[.val (.int i0), .val (.int i1), .val (.int (Int32.ofNat n1)), .val (.int (Int32.ofNat n2)), .val (.int (0 : Int32)), .val (.int (Int32.ofNat tl)), .val (.int (Int32.ofNat jk)), .val (.int (Int32.ofNat ln)), .val (.int (Int32.ofNat ex)), .val (.ref a), .val (.int (Int32.ofNat (2 + 1))), .unset, .unset, .unset]) at_280 rfl (sm_inc (by omega)) rfl rfl ?_
            exact jn283 T30 h30 _ _ _ X30 e30 N30 Ab30 p30_0 p30_1 (by omega)
        rcases (by omega : tl = 0 ∨ tl = 1 ∨ tl = 2 ∨ tl = 3) with q31 | q31 | q31 | q31
        · refine s_iload B X0 (pc' := 119) at_117 rfl rfl ?_
          refine b_if_ne B X0 (py := 126) (pn := 122) at_119 (by decide) (by decide) rfl (fun q => absurd (congrArg Int32.ofNat q31) q) (fun _ => ?_)
          refine s_iconst B X0 (pc' := 123) (v := (0 : Int32)) at_122 rfl rfl ?_
          refine s_goto B X0 (pc' := 147) at_123 (by decide) (by decide) ?_
          exact jn147 0 (by omega)
        · refine s_iload B X0 (pc' := 119) at_117 rfl rfl ?_
          refine b_if_ne B X0 (py := 126) (pn := 122) at_119 (by decide) (by decide) rfl (fun _ => ?_) (fun q => absurd q (fun z => by have := sm_inj (y := 0) (by omega) (by decide) z; omega))
          refine s_iload B X0 (pc' := 128) at_126 rfl rfl ?_
          refine s_iconst B X0 (pc' := 129) (v := (1 : Int32)) at_128 rfl rfl ?_
          refine b_icmp_ne B X0 (py := 136) (pn := 132) at_129 (by decide) (by decide) rfl (fun q => absurd (congrArg Int32.ofNat q31) q) (fun _ => ?_)
          refine s_iconst B X0 (pc' := 133) (v := (1 : Int32)) at_132 rfl rfl ?_
          refine s_goto B X0 (pc' := 147) at_133 (by decide) (by decide) ?_
          exact jn147 1 (by omega)
        · refine s_iload B X0 (pc' := 119) at_117 rfl rfl ?_
          refine b_if_ne B X0 (py := 126) (pn := 122) at_119 (by decide) (by decide) rfl (fun _ => ?_) (fun q => absurd q (fun z => by have := sm_inj (y := 0) (by omega) (by decide) z; omega))
          refine s_iload B X0 (pc' := 128) at_126 rfl rfl ?_
          refine s_iconst B X0 (pc' := 129) (v := (1 : Int32)) at_128 rfl rfl ?_
          refine b_icmp_ne B X0 (py := 136) (pn := 132) at_129 (by decide) (by decide) rfl (fun _ => ?_) (fun q => absurd q (fun z => by have := sm_inj (y := 1) (by omega) (by decide) z; omega))
          refine s_iload B X0 (pc' := 138) at_136 rfl rfl ?_
          refine s_iconst B X0 (pc' := 139) (v := (2 : Int32)) at_138 rfl rfl ?_
          refine b_icmp_ne B X0 (py := 146) (pn := 142) at_139 (by decide) (by decide) rfl (fun q => absurd (congrArg Int32.ofNat q31) q) (fun _ => ?_)
          refine s_iconst B X0 (pc' := 143) (v := (3 : Int32)) at_142 rfl rfl ?_
          refine s_goto B X0 (pc' := 147) at_143 (by decide) (by decide) ?_
          exact jn147 3 (by omega)
        · refine s_iload B X0 (pc' := 119) at_117 rfl rfl ?_
          refine b_if_ne B X0 (py := 126) (pn := 122) at_119 (by decide) (by decide) rfl (fun _ => ?_) (fun q => absurd q (fun z => by have := sm_inj (y := 0) (by omega) (by decide) z; omega))
          refine s_iload B X0 (pc' := 128) at_126 rfl rfl ?_
          refine s_iconst B X0 (pc' := 129) (v := (1 : Int32)) at_128 rfl rfl ?_
          refine b_icmp_ne B X0 (py := 136) (pn := 132) at_129 (by decide) (by decide) rfl (fun _ => ?_) (fun q => absurd q (fun z => by have := sm_inj (y := 1) (by omega) (by decide) z; omega))
          refine s_iload B X0 (pc' := 138) at_136 rfl rfl ?_
          refine s_iconst B X0 (pc' := 139) (v := (2 : Int32)) at_138 rfl rfl ?_
          refine b_icmp_ne B X0 (py := 146) (pn := 142) at_139 (by decide) (by decide) rfl (fun _ => ?_) (fun q => absurd q (fun z => by have := sm_inj (y := 2) (by omega) (by decide) z; omega))
          refine s_iconst B X0 (pc' := 147) (v := (2 : Int32)) at_146 rfl rfl ?_
          exact jn147 2 (by omega)
      rcases (by omega : jk = 0 ∨ jk = 1) with q32 | q32
      · refine s_iload B X0 (pc' := 111) at_109 rfl rfl ?_
        refine b_if_eq B X0 (py := 117) (pn := 114) at_111 (by decide) (by decide) rfl (fun _ => ?_) (fun q => absurd (congrArg Int32.ofNat q32) q)
        exact jn117 _ (by omega)
      · refine s_iload B X0 (pc' := 111) at_109 rfl rfl ?_
        refine b_if_eq B X0 (py := 117) (pn := 114) at_111 (by decide) (by decide) rfl (fun q => absurd q (fun z => by have := sm_inj (y := 0) (by omega) (by decide) z; omega)) (fun _ => ?_)
        refine s_iinc B X0 (pc' := 117) (v := (Int32.ofNat (0 + 1))) (Ls' := #[.val (.int i0), .val (.int i1), .val (.int (Int32.ofNat n1)), .val (.int (Int32.ofNat n2)), .val (.int (0 : Int32)), .val (.int (Int32.ofNat tl)), .val (.int (Int32.ofNat jk)), .val (.int (Int32.ofNat (0 + 1))), .unset, .unset, .unset, .unset, .unset, .unset]) at_114 rfl (sm_inc (by omega)) rfl rfl ?_
        exact jn117 _ (by omega)
    · show Go p e below _ (s₁.setTop (mkF m 81 #[.val (.int i0), .val (.int i1), .val (.int (Int32.ofNat n1)), .val (.int (Int32.ofNat n2)), .val (.int (1 : Int32)), .val (.int (Int32.ofNat tl)), .val (.int (Int32.ofNat jk)), .val (.int (Int32.ofNat 0)), .unset, .unset, .unset, .unset, .unset, .unset] []))
      refine s_iload B X0 (pc' := 83) at_81 rfl rfl ?_
      refine s_iconst B X0 (pc' := 84) (v := (1 : Int32)) at_83 rfl rfl ?_
      refine s_icmpN B X0 (pc' := 87) at_84 (by decide) rfl ?_
      refine s_iload B X0 (pc' := 89) at_87 rfl rfl ?_
      refine s_iconst B X0 (pc' := 90) (v := (2 : Int32)) at_89 rfl rfl ?_
      refine s_iloadN B X0 (pc' := 91) at_90 rfl rfl ?_
      refine s_iadd B X0 (pc' := 92) (v := (Int32.ofNat (2 + n1))) at_91 (sm_add (x := 2) (y := n1) (by omega) (by omega)) rfl ?_
      refine s_iadd B X0 (pc' := 93) (v := (Int32.ofNat (0 + (2 + n1)))) at_92 (sm_add (x := 0) (y := (2 + n1)) (by omega) (by omega)) rfl ?_
      refine s_istore B X0 (pc' := 95) (Ls' := #[.val (.int i0), .val (.int i1), .val (.int (Int32.ofNat n1)), .val (.int (Int32.ofNat n2)), .val (.int (1 : Int32)), .val (.int (Int32.ofNat tl)), .val (.int (Int32.ofNat jk)), .val (.int (Int32.ofNat (0 + (2 + n1)))), .unset, .unset, .unset, .unset, .unset, .unset]) at_93 rfl rfl ?_
      refine s_iload B X0 (pc' := 97) at_95 rfl rfl ?_
      refine s_iconst B X0 (pc' := 98) (v := (2 : Int32)) at_97 rfl rfl ?_
      refine s_icmpY B X0 (pc' := 109) at_98 (by decide) (by decide) (by decide) ?_
      have jn117 : ∀ ln : Nat, ln = (0 + (2 + n1)) + jk → Go p e below (OEnds s (fun v h L => v = some (.int 1) ∧ Fr Z.heap.size L) room_1.cells room_1.slots) (s₁.setTop (mkF m 117 #[.val (.int i0), .val (.int i1), .val (.int (Int32.ofNat n1)), .val (.int (Int32.ofNat n2)), .val (.int (1 : Int32)), .val (.int (Int32.ofNat tl)), .val (.int (Int32.ofNat jk)), .val (.int (Int32.ofNat ln)), .unset, .unset, .unset, .unset, .unset, .unset] [])) := by
        intro ln hln
        have jn147 : ∀ ex : Nat, ((tl = 0 ∧ ex = 0) ∨ (tl = 1 ∧ ex = 1) ∨ (tl = 2 ∧ ex = 3) ∨ (tl = 3 ∧ ex = 2)) → Go p e below (OEnds s (fun v h L => v = some (.int 1) ∧ Fr Z.heap.size L) room_1.cells room_1.slots) (s₁.setTop (mkF m 147 #[.val (.int i0), .val (.int i1), .val (.int (Int32.ofNat n1)), .val (.int (Int32.ofNat n2)), .val (.int (1 : Int32)), .val (.int (Int32.ofNat tl)), .val (.int (Int32.ofNat jk)), .val (.int (Int32.ofNat ln)), .unset, .unset, .unset, .unset, .unset, .unset] [.int (Int32.ofNat ex)])) := by
          intro ex hex
          have hex3 : ex ≤ 3 := by omega
          refine s_istore B X0 (pc' := 149) (Ls' := #[.val (.int i0), .val (.int i1), .val (.int (Int32.ofNat n1)), .val (.int (Int32.ofNat n2)), .val (.int (1 : Int32)), .val (.int (Int32.ofNat tl)), .val (.int (Int32.ofNat jk)), .val (.int (Int32.ofNat ln)), .val (.int (Int32.ofNat ex)), .unset, .unset, .unset, .unset, .unset]) at_147 rfl rfl ?_
          refine s_iconst B X0 (pc' := 150) (v := (2 : Int32)) at_149 rfl rfl ?_
          refine s_iload B X0 (pc' := 152) at_150 rfl rfl ?_
          refine s_iadd B X0 (pc' := 153) (v := (Int32.ofNat (2 + ln))) at_152 (sm_add (x := 2) (y := ln) (by omega) (by omega)) rfl ?_
          refine s_iload B X0 (pc' := 155) at_153 rfl rfl ?_
          refine s_iadd B X0 (pc' := 156) (v := (Int32.ofNat ((2 + ln) + ex))) at_155 (sm_add (x := (2 + ln)) (y := ex) (by omega) (by omega)) rfl ?_
          refine s_newP B X0 (pc' := 158) (aty := .byte) (N := ((2 + ln) + ex)) (cap := 18) e0 (tw3 hw) (osm (by omega)).1 (osm (by omega)).2 (by omega) (by decide) (by decide) (by decide) at_156 rfl (fun T33 h33 a k33 g33 X33 e33 E33 A33 => ?_)
          have ga : Z.heap.size ≤ a := Nat.le_of_eq g33.symm
          have Ab33 : BA Z h33 a (((2 + ln) + ex)) (fun _ => 0) := ⟨⟨k33, A33.congr fun i _ => rfl⟩, fun _ _ => rfl⟩
          show Go p e below _ (T33.setTop (mkF m 158 #[.val (.int i0), .val (.int i1), .val (.int (Int32.ofNat n1)), .val (.int (Int32.ofNat n2)), .val (.int (1 : Int32)), .val (.int (Int32.ofNat tl)), .val (.int (Int32.ofNat jk)), .val (.int (Int32.ofNat ln)), .val (.int (Int32.ofNat ex)), .unset, .unset, .unset, .unset, .unset] [(.ref a)]))
          refine s_astore B X33 (pc' := 160) (Ls' := #[.val (.int i0), .val (.int i1), .val (.int (Int32.ofNat n1)), .val (.int (Int32.ofNat n2)), .val (.int (1 : Int32)), .val (.int (Int32.ofNat tl)), .val (.int (Int32.ofNat jk)), .val (.int (Int32.ofNat ln)), .val (.int (Int32.ofNat ex)), .val (.ref a), .unset, .unset, .unset, .unset]) at_158 rfl rfl rfl ?_
          refine s_aload B X33 (pc' := 162) at_160 rfl rfl rfl ?_
          refine s_iconst B X33 (pc' := 163) (v := (0 : Int32)) at_162 rfl rfl ?_
          refine s_bipush B X33 (pc' := 165) (v := (48 : Int32)) at_163 rfl rfl ?_
          refine s_stBA B X33 (pc' := 166) (j := 0) (x := (48 : Int32)) e33 Ab33 (by omega) (by omega) at_165 rfl (fun T34 h34 X34 e34 W34 Ab34 => ?_)
          have N34 := Fr.snoc X34 (Fr.nil _) ga
          have p34_n : (updB (fun _ => 0) (0) (nar .byte (48 : Int32))) (0) &&& 255 = Int32.ofNat (48) := by rw [updB_same]; exact own_nb (x := 48) (by decide)
          show Go p e below _ (T34.setTop (mkF m 166 #[.val (.int i0), .val (.int i1), .val (.int (Int32.ofNat n1)), .val (.int (Int32.ofNat n2)), .val (.int (1 : Int32)), .val (.int (Int32.ofNat tl)), .val (.int (Int32.ofNat jk)), .val (.int (Int32.ofNat ln)), .val (.int (Int32.ofNat ex)), .val (.ref a), .unset, .unset, .unset, .unset] []))
          refine s_aload B X34 (pc' := 168) at_166 rfl rfl rfl ?_
          refine s_iconst B X34 (pc' := 169) (v := (1 : Int32)) at_168 rfl rfl ?_
          refine s_iload B X34 (pc' := 171) at_169 rfl rfl ?_
          refine s_i2b B X34 (pc' := 172) (v := (Int32.ofNat ln)) at_171 ((sm_b (by omega)).1) rfl ?_
          refine s_stBA B X34 (pc' := 173) (j := 1) (x := (Int32.ofNat ln)) e34 Ab34 (by omega) (by omega) at_172 rfl (fun T35 h35 X35 e35 W35 Ab35 => ?_)
          have N35 := Fr.snoc X35 N34 ga
          have p35_0 : (updB (updB (fun _ => 0) (0) (nar .byte (48 : Int32))) (1) (nar .byte (Int32.ofNat ln))) (0) &&& 255 = Int32.ofNat (48) := by rw [updB_ne (by omega)]; exact p34_n
          have p35_n : (updB (updB (fun _ => 0) (0) (nar .byte (48 : Int32))) (1) (nar .byte (Int32.ofNat ln))) (1) &&& 255 = Int32.ofNat (ln) := by rw [updB_same]; exact own_nb (x := ln) (by omega)
          show Go p e below _ (T35.setTop (mkF m 173 #[.val (.int i0), .val (.int i1), .val (.int (Int32.ofNat n1)), .val (.int (Int32.ofNat n2)), .val (.int (1 : Int32)), .val (.int (Int32.ofNat tl)), .val (.int (Int32.ofNat jk)), .val (.int (Int32.ofNat ln)), .val (.int (Int32.ofNat ex)), .val (.ref a), .unset, .unset, .unset, .unset] []))
          refine s_iconst B X35 (pc' := 174) (v := (2 : Int32)) at_173 rfl rfl ?_
          refine s_istore B X35 (pc' := 176) (Ls' := #[.val (.int i0), .val (.int i1), .val (.int (Int32.ofNat n1)), .val (.int (Int32.ofNat n2)), .val (.int (1 : Int32)), .val (.int (Int32.ofNat tl)), .val (.int (Int32.ofNat jk)), .val (.int (Int32.ofNat ln)), .val (.int (Int32.ofNat ex)), .val (.ref a), .val (.int (2 : Int32)), .unset, .unset, .unset]) at_174 rfl rfl ?_
          refine s_iload B X35 (pc' := 178) at_176 rfl rfl ?_
          refine s_iconst B X35 (pc' := 179) (v := (1 : Int32)) at_178 rfl rfl ?_
          refine s_icmpN B X35 (pc' := 182) at_179 (by decide) rfl ?_
          refine s_aload B X35 (pc' := 184) at_182 rfl rfl rfl ?_
          refine s_iload B X35 (pc' := 186) at_184 rfl rfl ?_
          refine s_iconst B X35 (pc' := 187) (v := (4 : Int32)) at_186 rfl rfl ?_
          refine s_stBA B X35 (pc' := 188) (j := 2) (x := (4 : Int32)) e35 Ab35 (by omega) (by omega) at_187 rfl (fun T36 h36 X36 e36 W36 Ab36 => ?_)
          have N36 := Fr.snoc X36 N35 ga
          have p36_0 : (updB (updB (updB (fun _ => 0) (0) (nar .byte (48 : Int32))) (1) (nar .byte (Int32.ofNat ln))) (2) (nar .byte (4 : Int32))) (0) &&& 255 = Int32.ofNat (48) := by rw [updB_ne (by omega)]; exact p35_0
          have p36_1 : (updB (updB (updB (fun _ => 0) (0) (nar .byte (48 : Int32))) (1) (nar .byte (Int32.ofNat ln))) (2) (nar .byte (4 : Int32))) (1) &&& 255 = Int32.ofNat (ln) := by rw [updB_ne (by omega)]; exact p35_n
          have p36_n : (updB (updB (updB (fun _ => 0) (0) (nar .byte (48 : Int32))) (1) (nar .byte (Int32.ofNat ln))) (2) (nar .byte (4 : Int32))) (2) &&& 255 = Int32.ofNat (4) := by rw [updB_same]; exact own_nb (x := 4) (by decide)
          show Go p e below _ (T36.setTop (mkF m 188 #[.val (.int i0), .val (.int i1), .val (.int (Int32.ofNat n1)), .val (.int (Int32.ofNat n2)), .val (.int (1 : Int32)), .val (.int (Int32.ofNat tl)), .val (.int (Int32.ofNat jk)), .val (.int (Int32.ofNat ln)), .val (.int (Int32.ofNat ex)), .val (.ref a), .val (.int (2 : Int32)), .unset, .unset, .unset] []))
          refine s_aload B X36 (pc' := 190) at_188 rfl rfl rfl ?_
          refine s_iload B X36 (pc' := 192) at_190 rfl rfl ?_
          refine s_iconst B X36 (pc' := 193) (v := (1 : Int32)) at_192 rfl rfl ?_
          refine s_iadd B X36 (pc' := 194) (v := (3 : Int32)) at_193 rfl rfl ?_
          refine s_iloadN B X36 (pc' := 195) at_194 rfl rfl ?_
          refine s_i2b B X36 (pc' := 196) (v := (Int32.ofNat n1)) at_195 ((sm_b (by omega)).1) rfl ?_
          refine s_stBA B X36 (pc' := 197) (j := 3) (x := (Int32.ofNat n1)) e36 Ab36 (by omega) (by omega) at_196 rfl (fun T37 h37 X37 e37 W37 Ab37 => ?_)
          have N37 := Fr.snoc X37 N36 ga
          have p37_0 : (updB (updB (updB (updB (fun _ => 0) (0) (nar .byte (48 : Int32))) (1) (nar .byte (Int32.ofNat ln))) (2) (nar .byte (4 : Int32))) (3) (nar .byte (Int32.ofNat n1))) (0) &&& 255 = Int32.ofNat (48) := by rw [updB_ne (by omega)]; exact p36_0
          have p37_1 : (updB (updB (updB (updB (fun _ => 0) (0) (nar .byte (48 : Int32))) (1) (nar .byte (Int32.ofNat ln))) (2) (nar .byte (4 : Int32))) (3) (nar .byte (Int32.ofNat n1))) (1) &&& 255 = Int32.ofNat (ln) := by rw [updB_ne (by omega)]; exact p36_1
          have p37_2 : (updB (updB (updB (updB (fun _ => 0) (0) (nar .byte (48 : Int32))) (1) (nar .byte (Int32.ofNat ln))) (2) (nar .byte (4 : Int32))) (3) (nar .byte (Int32.ofNat n1))) (2) &&& 255 = Int32.ofNat (4) := by rw [updB_ne (by omega)]; exact p36_n
          have p37_n : (updB (updB (updB (updB (fun _ => 0) (0) (nar .byte (48 : Int32))) (1) (nar .byte (Int32.ofNat ln))) (2) (nar .byte (4 : Int32))) (3) (nar .byte (Int32.ofNat n1))) (3) &&& 255 = Int32.ofNat (n1) := by rw [updB_same]; exact own_nb (x := n1) (by omega)
          show Go p e below _ (T37.setTop (mkF m 197 #[.val (.int i0), .val (.int i1), .val (.int (Int32.ofNat n1)), .val (.int (Int32.ofNat n2)), .val (.int (1 : Int32)), .val (.int (Int32.ofNat tl)), .val (.int (Int32.ofNat jk)), .val (.int (Int32.ofNat ln)), .val (.int (Int32.ofNat ex)), .val (.ref a), .val (.int (2 : Int32)), .unset, .unset, .unset] []))
          have jn211 : ∀ (T : State) (h : Heap) (Lc : List Loc) (f : Nat → Int32), Stand p l e room_1 s m #[(.int i0), (.int i1)] below meth c T Lc 1 18 → T.heap = h → Fr Z.heap.size Lc → BA Z h a (((2 + ln) + ex)) f → f (0) &&& 255 = Int32.ofNat (48) → f (1) &&& 255 = Int32.ofNat (ln) → f (2) &&& 255 = Int32.ofNat (4) → f (3) &&& 255 = Int32.ofNat (n1) → Go p e below (OEnds s (fun v h L => v = some (.int 1) ∧ Fr Z.heap.size L) room_1.cells room_1.slots) (T.setTop (mkF m 211 #[.val (.int i0), .val (.int i1), .val (.int (Int32.ofNat n1)), .val (.int (Int32.ofNat n2)), .val (.int (1 : Int32)), .val (.int (Int32.ofNat tl)), .val (.int (Int32.ofNat jk)), .val (.int (Int32.ofNat ln)), .val (.int (Int32.ofNat ex)), .val (.ref a), .val (.int (2 : Int32)), .unset, .unset, .unset] [])) := by
            intro Tj211 hj211 Lj211 f Xj211 ej211 Nj211 Aj211 y211_0 y211_1 y211_2 y211_3 
            refine s_iload B Xj211 (pc' := 213) at_211 rfl rfl ?_
            refine s_iconst B Xj211 (pc' := 214) (v := (2 : Int32)) at_213 rfl rfl ?_
            refine s_iloadN B Xj211 (pc' := 215) at_214 rfl rfl ?_
            refine s_iadd B Xj211 (pc' := 216) (v := (Int32.ofNat (2 + n1))) at_215 (sm_add (x := 2) (y := n1) (by omega) (by omega)) rfl ?_
            refine s_iadd B Xj211 (pc' := 217) (v := (Int32.ofNat (2 + (2 + n1)))) at_216 (sm_add (x := 2) (y := (2 + n1)) (by omega) (by omega)) rfl ?_
            refine s_istore B Xj211 (pc' := 219) (Ls' := #[.val (.int i0), .val (.int i1), .val (.int (Int32.ofNat n1)), .val (.int (Int32.ofNat n2)), .val (.int (1 : Int32)), .val (.int (Int32.ofNat tl)), .val (.int (Int32.ofNat jk)), .val (.int (Int32.ofNat ln)), .val (.int (Int32.ofNat ex)), .val (.ref a), .val (.int (Int32.ofNat (2 + (2 + n1)))), .unset, .unset, .unset]) at_217 rfl rfl ?_
            refine s_iload B Xj211 (pc' := 221) at_219 rfl rfl ?_
            refine s_iconst B Xj211 (pc' := 222) (v := (2 : Int32)) at_221 rfl rfl ?_
            refine s_icmpY B Xj211 (pc' := 265) at_222 (by decide) (by decide) (by decide) ?_
            have hix : (2 + (2 + n1)) + jk = 2 + ln := by omega
            have jn283 : ∀ (T : State) (h : Heap) (Lc : List Loc) (f : Nat → Int32) (ix : Nat), Stand p l e room_1 s m #[(.int i0), (.int i1)] below meth c T Lc 1 18 → T.heap = h → Fr Z.heap.size Lc → BA Z h a (((2 + ln) + ex)) f → f (0) &&& 255 = Int32.ofNat (48) → f (1) &&& 255 = Int32.ofNat (ln) → f (2) &&& 255 = Int32.ofNat (4) → f (3) &&& 255 = Int32.ofNat (n1) → ix = 2 + ln → Go p e below (OEnds s (fun v h L => v = some (.int 1) ∧ Fr Z.heap.size L) room_1.cells room_1.slots) (T.setTop (mkF m 283 #[.val (.int i0), .val (.int i1), .val (.int (Int32.ofNat n1)), .val (.int (Int32.ofNat n2)), .val (.int (1 : Int32)), .val (.int (Int32.ofNat tl)), .val (.int (Int32.ofNat jk)), .val (.int (Int32.ofNat ln)), .val (.int (Int32.ofNat ex)), .val (.ref a), .val (.int (Int32.ofNat ix)), .unset, .unset, .unset] [])) := by
              intro Tj283 hj283 Lj283 f ix Xj283 ej283 Nj283 Aj283 y283_0 y283_1 y283_2 y283_3 hixx
              subst hixx
              show Go p e below _ (Tj283.setTop (mkF m 283 #[.val (.int i0), .val (.int i1), .val (.int (Int32.ofNat n1)), .val (.int (Int32.ofNat n2)), .val (.int (1 : Int32)), .val (.int (Int32.ofNat tl)), .val (.int (Int32.ofNat jk)), .val (.int (Int32.ofNat ln)), .val (.int (Int32.ofNat ex)), .val (.ref a), .val (.int (Int32.ofNat (2 + ln))), .unset, .unset, .unset] []))
              have jn361 : ∀ (T : State) (h : Heap) (Lc : List Loc) (f : Nat → Int32), Stand p l e room_1 s m #[(.int i0), (.int i1)] below meth c T Lc 1 18 → T.heap = h → Fr Z.heap.size Lc → BA Z h a (((2 + ln) + ex)) f → f (0) &&& 255 = Int32.ofNat (48) → f (1) &&& 255 = Int32.ofNat (ln) → f (2) &&& 255 = Int32.ofNat (4) → f (3) &&& 255 = Int32.ofNat (n1) → (tl = 2 → f (2 + ln) &&& 255 = Int32.ofNat 1 ∧ f (2 + ln + 1) &&& 255 = Int32.ofNat 1) → Go p e below (OEnds s (fun v h L => v = some (.int 1) ∧ Fr Z.heap.size L) room_1.cells room_1.slots) (T.setTop (mkF m 361 #[.val (.int i0), .val (.int i1), .val (.int (Int32.ofNat n1)), .val (.int (Int32.ofNat n2)), .val (.int (1 : Int32)), .val (.int (Int32.ofNat tl)), .val (.int (Int32.ofNat jk)), .val (.int (Int32.ofNat ln)), .val (.int (Int32.ofNat ex)), .val (.ref a), .val (.int (Int32.ofNat (2 + ln))), .unset, .unset, .unset] [])) := by
                intro Tj361 hj361 Lj361 f Xj361 ej361 Nj361 Aj361 y361_0 y361_1 y361_2 y361_3 hb2
                refine s_new B Xj361 (pc' := 364) (n0 := 3) ej361 (tw0 hw) (tw1 hw) (tw2 hw) (by decide) (by decide) at_361 rfl (fun T38 h38 r g38 X38 e38 E38 A38 D38 => ?_)
                have Kx38 := (Keep.refl hj361 []).ext E38
                have lr : hj361.size ≤ r := Nat.le_of_eq g38.symm
                have gr : Z.heap.size ≤ r := Nat.le_trans (Nat.le_trans ga (Nat.le_of_lt Aj361.lt)) lr
                have ar : a ≠ r := Nat.ne_of_lt (Nat.lt_of_lt_of_le Aj361.lt lr)
                have A38' := Aj361.keep Kx38 nin0
                have D38_bytes : Fld Z h38 r "com/example/waymark/waymark/ber/BerReader" "bytes" "[B" .null := D38 (Or.inr (tw14 hw)) (ty := (.array .byte)) (by decide)
                have D38_position : Fld Z h38 r "com/example/waymark/waymark/ber/BerReader" "position" "I" (.int (0 : Int32)) := D38 (Or.inl (tw16 hw)) (ty := .int) (by decide)
                have D38_end : Fld Z h38 r "com/example/waymark/waymark/ber/BerReader" "end" "I" (.int (0 : Int32)) := D38 (Or.inr (tw18 hw)) (ty := .int) (by decide)
                show Go p e below _ (T38.setTop (mkF m 364 #[.val (.int i0), .val (.int i1), .val (.int (Int32.ofNat n1)), .val (.int (Int32.ofNat n2)), .val (.int (1 : Int32)), .val (.int (Int32.ofNat tl)), .val (.int (Int32.ofNat jk)), .val (.int (Int32.ofNat ln)), .val (.int (Int32.ofNat ex)), .val (.ref a), .val (.int (Int32.ofNat (2 + ln))), .unset, .unset, .unset] [(.ref r)]))
                refine s_dup B X38 (pc' := 365) at_364 rfl rfl ?_
                refine s_aload B X38 (pc' := 367) at_365 rfl rfl rfl ?_
                refine c_init B X38 (y := mn7) (pc' := 370) (argsL := [(.ref a)]) (under := [(.ref r)]) (W := 1) e38 rfl (tw4 hw) (tw5 hw) (tw6 hw) (tw2 hw) (by decide) (rm_init1 l Z a0 hw r a (((2 + ln) + ex)) _ h38 gr A38 D38_bytes D38_position D38_end A38')  (lenOf pd_4 rfl) rfl rfl (by decide) (by decide) (by decide) (by decide) rfl at_367 rfl (fun v39 T39 L39 X39 hQ39 => ?_)
                obtain ⟨rfl, Nq39, Kq39, Er, C1, C2, C3⟩ := hQ39
                obtain ⟨h39, e39⟩ : ∃ z, T39.heap = z := ⟨_, rfl⟩
                rw [e39] at Kq39 Er C1 C2 C3
                have N39 := Fr.app Nj361 Nq39
                have Ab39 := A38'.keep Kq39 (ninS ar nin0)
                have R39 : RD Z h39 r a (((2 + ln) + ex)) f 0 (((2 + ln) + ex)) := ⟨Er, ⟨C1, C2, C3⟩, Ab39, ⟨gr, ga, ar⟩, Nat.zero_le _, Nat.le_refl _, by omega⟩
                show Go p e below _ (T39.setTop (mkF m 370 #[.val (.int i0), .val (.int i1), .val (.int (Int32.ofNat n1)), .val (.int (Int32.ofNat n2)), .val (.int (1 : Int32)), .val (.int (Int32.ofNat tl)), .val (.int (Int32.ofNat jk)), .val (.int (Int32.ofNat ln)), .val (.int (Int32.ofNat ex)), .val (.ref a), .val (.int (Int32.ofNat (2 + ln))), .unset, .unset, .unset] [(.ref r)]))
                refine s_astore B X39 (pc' := 372) (Ls' := #[.val (.int i0), .val (.int i1), .val (.int (Int32.ofNat n1)), .val (.int (Int32.ofNat n2)), .val (.int (1 : Int32)), .val (.int (Int32.ofNat tl)), .val (.int (Int32.ofNat jk)), .val (.int (Int32.ofNat ln)), .val (.int (Int32.ofNat ex)), .val (.ref a), .val (.int (Int32.ofNat (2 + ln))), .val (.ref r), .unset, .unset]) at_370 rfl rfl rfl ?_
                refine s_aload B X39 (pc' := 374) at_372 rfl rfl rfl ?_
                refine p_virtual B X39 (y := mn0) (pc' := 377) (argsL := []) (under := []) (W := 0) e39 (tw19 hw) (tw20 hw) (tw22 hw) (tw21 hw) (tw23 hw) (tw2 hw) (by decide) (rm_has l Z a0 hw r a (((2 + ln) + ex)) _ (0) (((2 + ln) + ex)) 1 h39 R39 (if_pos (by omega))) R39.1 (lenOf pd_5 rfl) rfl rfl (by decide) (by decide) rfl rfl (by decide) (by decide) rfl at_374 rfl (fun T40 X40 e40 => ?_)
                show Go p e below _ (T40.setTop (mkF m 377 #[.val (.int i0), .val (.int i1), .val (.int (Int32.ofNat n1)), .val (.int (Int32.ofNat n2)), .val (.int (1 : Int32)), .val (.int (Int32.ofNat tl)), .val (.int (Int32.ofNat jk)), .val (.int (Int32.ofNat ln)), .val (.int (Int32.ofNat ex)), .val (.ref a), .val (.int (Int32.ofNat (2 + ln))), .val (.ref r), .unset, .unset] [(.int (1 : Int32))]))
                refine s_istore B X40 (pc' := 379) (Ls' := #[.val (.int i0), .val (.int i1), .val (.int (Int32.ofNat n1)), .val (.int (Int32.ofNat n2)), .val (.int (1 : Int32)), .val (.int (Int32.ofNat tl)), .val (.int (Int32.ofNat jk)), .val (.int (Int32.ofNat ln)), .val (.int (Int32.ofNat ex)), .val (.ref a), .val (.int (Int32.ofNat (2 + ln))), .val (.ref r), .val (.int (1 : Int32)), .unset]) at_377 rfl rfl ?_
                refine s_aload B X40 (pc' := 381) at_379 rfl rfl rfl ?_
                refine s_bipush B X40 (pc' := 383) (v := (48 : Int32)) at_381 rfl rfl ?_
                refine c_virtual B X40 (y := mn8) (pc' := 386) (argsL := [(.int (48 : Int32))]) (under := []) (W := 0) e40 (tw24 hw) (tw25 hw) (tw27 hw) (tw26 hw) (tw28 hw) (tw2 hw) (by decide) (rm_readConstructed l Z a0 hw r a (((2 + ln) + ex)) f 0 (((2 + ln) + ex)) 48 ln h39 R39 (by omega) (by omega) y361_0 y361_1) R39.1 (lenOf pd_6 rfl) rfl rfl (by decide) (by decide) (by decide) (by decide) rfl at_383 rfl (fun v41 T41 L41 X41 hQ41 => ?_)
                obtain ⟨c0, rfl, Nq41, Kq41, lc, R41, C41⟩ := hQ41
                obtain ⟨h41, e41⟩ : ∃ z, T41.heap = z := ⟨_, rfl⟩
                rw [e41] at Kq41 R41 C41
                have N41 := Fr.app N39 Nq41
                have rc : r ≠ c0 := Nat.ne_of_lt (Nat.lt_of_lt_of_le R39.lt lc)
                show Go p e below _ (T41.setTop (mkF m 386 #[.val (.int i0), .val (.int i1), .val (.int (Int32.ofNat n1)), .val (.int (Int32.ofNat n2)), .val (.int (1 : Int32)), .val (.int (Int32.ofNat tl)), .val (.int (Int32.ofNat jk)), .val (.int (Int32.ofNat ln)), .val (.int (Int32.ofNat ex)), .val (.ref a), .val (.int (Int32.ofNat (2 + ln))), .val (.ref r), .val (.int (1 : Int32)), .unset] [(.ref c0)]))
                refine s_astore B X41 (pc' := 388) (Ls' := #[.val (.int i0), .val (.int i1), .val (.int (Int32.ofNat n1)), .val (.int (Int32.ofNat n2)), .val (.int (1 : Int32)), .val (.int (Int32.ofNat tl)), .val (.int (Int32.ofNat jk)), .val (.int (Int32.ofNat ln)), .val (.int (Int32.ofNat ex)), .val (.ref a), .val (.int (Int32.ofNat (2 + ln))), .val (.ref r), .val (.int (1 : Int32)), .val (.ref c0)]) at_386 rfl rfl rfl ?_
                refine s_iload B X41 (pc' := 390) at_388 rfl rfl ?_
                refine s_ifN B X41 (pc' := 393) at_390 (by decide) rfl ?_
                have jn416 : ∀ (T : State) (Lc : List Loc), Stand p l e room_1 s m #[(.int i0), (.int i1)] below meth c T Lc 4 25 → T.heap = h41 → Fr Z.heap.size Lc → Go p e below (OEnds s (fun v h L => v = some (.int 1) ∧ Fr Z.heap.size L) room_1.cells room_1.slots) (T.setTop (mkF m 416 #[.val (.int i0), .val (.int i1), .val (.int (Int32.ofNat n1)), .val (.int (Int32.ofNat n2)), .val (.int (1 : Int32)), .val (.int (Int32.ofNat tl)), .val (.int (Int32.ofNat jk)), .val (.int (Int32.ofNat ln)), .val (.int (Int32.ofNat ex)), .val (.ref a), .val (.int (Int32.ofNat (2 + ln))), .val (.ref r), .val (.int (1 : Int32)), .val (.ref c0)] [.int 1])) := by
                  intro Tk416 Lk416 Xk416 ek416 Nk416
                  refine s_istore B Xk416 (pc' := 418) (Ls' := #[.val (.int i0), .val (.int i1), .val (.int (Int32.ofNat n1)), .val (.int (Int32.ofNat n2)), .val (.int (1 : Int32)), .val (.int (Int32.ofNat tl)), .val (.int (Int32.ofNat jk)), .val (.int (Int32.ofNat ln)), .val (.int (Int32.ofNat ex)), .val (.ref a), .val (.int (Int32.ofNat (2 + ln))), .val (.ref r), .val (.int (1 : Int32)), .val (.ref c0)]) at_416 rfl rfl ?_
                  refine s_iload B Xk416 (pc' := 420) at_418 rfl rfl ?_
                  refine s_ifN B Xk416 (pc' := 423) at_420 (by decide) rfl ?_
                  have jn446 : ∀ (T : State) (Lc : List Loc), Stand p l e room_1 s m #[(.int i0), (.int i1)] below meth c T Lc 4 25 → T.heap = h41 → Fr Z.heap.size Lc → Go p e below (OEnds s (fun v h L => v = some (.int 1) ∧ Fr Z.heap.size L) room_1.cells room_1.slots) (T.setTop (mkF m 446 #[.val (.int i0), .val (.int i1), .val (.int (Int32.ofNat n1)), .val (.int (Int32.ofNat n2)), .val (.int (1 : Int32)), .val (.int (Int32.ofNat tl)), .val (.int (Int32.ofNat jk)), .val (.int (Int32.ofNat ln)), .val (.int (Int32.ofNat ex)), .val (.ref a), .val (.int (Int32.ofNat (2 + ln))), .val (.ref r), .val (.int (1 : Int32)), .val (.ref c0)] [.int 1])) := by
                    intro Tk446 Lk446 Xk446 ek446 Nk446
                    refine s_istore B Xk446 (pc' := 448) (Ls' := #[.val (.int i0), .val (.int i1), .val (.int (Int32.ofNat n1)), .val (.int (Int32.ofNat n2)), .val (.int (1 : Int32)), .val (.int (Int32.ofNat tl)), .val (.int (Int32.ofNat jk)), .val (.int (Int32.ofNat ln)), .val (.int (Int32.ofNat ex)), .val (.ref a), .val (.int (Int32.ofNat (2 + ln))), .val (.ref r), .val (.int (1 : Int32)), .val (.ref c0)]) at_446 rfl rfl ?_
                    refine s_iload B Xk446 (pc' := 450) at_448 rfl rfl ?_
                    refine s_iconst B Xk446 (pc' := 451) (v := (1 : Int32)) at_450 rfl rfl ?_
                    refine s_icmpN B Xk446 (pc' := 454) at_451 (by decide) rfl ?_
                    refine s_aload B Xk446 (pc' := 456) at_454 rfl rfl rfl ?_
                    refine s_iconst B Xk446 (pc' := 457) (v := (4 : Int32)) at_456 rfl rfl ?_
                    refine c_virtual B Xk446 (y := mn9) (pc' := 460) (argsL := [(.int (4 : Int32))]) (under := []) (W := 0) ek446 (tw52 hw) (tw53 hw) (tw55 hw) (tw54 hw) (tw56 hw) (tw2 hw) (by decide) (rm_readOctets l Z a0 hw c0 a (((2 + ln) + ex)) f (0 + 1 + 1) (0 + 1 + 1 + ln) 4 n1 h41 C41 (by omega) (by omega) y361_2 y361_3 (by omega)) C41.1 (lenOf pd_8 rfl) rfl rfl (by decide) (by decide) (by decide) (by decide) rfl at_457 rfl (fun v42 T42 L42 X42 hQ42 => ?_)
                    obtain ⟨⟨o42, rfl⟩, Nq42, Kq42, C42⟩ := hQ42
                    obtain ⟨h42, e42⟩ : ∃ z, T42.heap = z := ⟨_, rfl⟩
                    rw [e42] at Kq42 C42
                    have N42 := Fr.app Nk446 Nq42
                    have R42 := R41.keep Kq42 (ninS rc nin0) (ninS C42.2.2.2.1.2.2 nin0)
                    show Go p e below _ (T42.setTop (mkF m 460 #[.val (.int i0), .val (.int i1), .val (.int (Int32.ofNat n1)), .val (.int (Int32.ofNat n2)), .val (.int (1 : Int32)), .val (.int (Int32.ofNat tl)), .val (.int (Int32.ofNat jk)), .val (.int (Int32.ofNat ln)), .val (.int (Int32.ofNat ex)), .val (.ref a), .val (.int (Int32.ofNat (2 + ln))), .val (.ref r), .val (.int (1 : Int32)), .val (.ref c0)] [(.ref o42)]))
                    refine s_pop B X42 (pc' := 461) at_460 rfl rfl ?_
                    refine s_iload B X42 (pc' := 463) at_461 rfl rfl ?_
                    refine s_ifN B X42 (pc' := 466) at_463 (by decide) rfl ?_
                    have jn495 : ∀ (T : State) (Lc : List Loc), Stand p l e room_1 s m #[(.int i0), (.int i1)] below meth c T Lc 6 42 → T.heap = h42 → Fr Z.heap.size Lc → Go p e below (OEnds s (fun v h L => v = some (.int 1) ∧ Fr Z.heap.size L) room_1.cells room_1.slots) (T.setTop (mkF m 495 #[.val (.int i0), .val (.int i1), .val (.int (Int32.ofNat n1)), .val (.int (Int32.ofNat n2)), .val (.int (1 : Int32)), .val (.int (Int32.ofNat tl)), .val (.int (Int32.ofNat jk)), .val (.int (Int32.ofNat ln)), .val (.int (Int32.ofNat ex)), .val (.ref a), .val (.int (Int32.ofNat (2 + ln))), .val (.ref r), .val (.int (1 : Int32)), .val (.ref c0)] [.int 1])) := by
                      intro Tk495 Lk495 Xk495 ek495 Nk495
                      refine s_istore B Xk495 (pc' := 497) (Ls' := #[.val (.int i0), .val (.int i1), .val (.int (Int32.ofNat n1)), .val (.int (Int32.ofNat n2)), .val (.int (1 : Int32)), .val (.int (Int32.ofNat tl)), .val (.int (Int32.ofNat jk)), .val (.int (Int32.ofNat ln)), .val (.int (Int32.ofNat ex)), .val (.ref a), .val (.int (Int32.ofNat (2 + ln))), .val (.ref r), .val (.int (1 : Int32)), .val (.ref c0)]) at_495 rfl rfl ?_
                      refine s_iload B Xk495 (pc' := 499) at_497 rfl rfl ?_
                      refine s_iconst B Xk495 (pc' := 500) (v := (2 : Int32)) at_499 rfl rfl ?_
                      refine s_icmpY B Xk495 (pc' := 532) at_500 (by decide) (by decide) (by decide) ?_
                      have jn545 : ∀ (T : State) (h : Heap) (Lc : List Loc) (pr : Nat), Stand p l e room_1 s m #[(.int i0), (.int i1)] below meth c T Lc 9 60 → T.heap = h → Fr Z.heap.size Lc → RD Z h r a (((2 + ln) + ex)) f pr (((2 + ln) + ex)) → (tl = 2 → pr = ((2 + ln) + ex)) → (tl ≠ 2 → pr = 2 + ln) → Go p e below (OEnds s (fun v h L => v = some (.int 1) ∧ Fr Z.heap.size L) room_1.cells room_1.slots) (T.setTop (mkF m 545 #[.val (.int i0), .val (.int i1), .val (.int (Int32.ofNat n1)), .val (.int (Int32.ofNat n2)), .val (.int (1 : Int32)), .val (.int (Int32.ofNat tl)), .val (.int (Int32.ofNat jk)), .val (.int (Int32.ofNat ln)), .val (.int (Int32.ofNat ex)), .val (.ref a), .val (.int (Int32.ofNat (2 + ln))), .val (.ref r), .val (.int (1 : Int32)), .val (.ref c0)] [])) := by
                        intro Tk545 hk545 Lk545 pr Xk545 ek545 Nk545 Rk545 hp2 hp0
                        refine s_iload B Xk545 (pc' := 547) at_545 rfl rfl ?_
                        refine s_ifN B Xk545 (pc' := 550) at_547 (by decide) rfl ?_
                        rcases (by omega : tl = 0 ∨ tl = 1 ∨ tl = 2 ∨ tl = 3) with q43 | q43 | q43 | q43
                        · refine s_aload B Xk545 (pc' := 552) at_550 rfl rfl rfl ?_
                          refine p_virtual B Xk545 (y := mn0) (pc' := 555) (argsL := []) (under := []) (W := 0) ek545 (tw19 hw) (tw20 hw) (tw22 hw) (tw21 hw) (tw23 hw) (tw2 hw) (by decide) (rm_has l Z a0 hw r a (((2 + ln) + ex)) _ (pr) (((2 + ln) + ex)) 0 hk545 Rk545 (if_neg (by omega))) Rk545.1 (lenOf pd_5 rfl) rfl rfl (by decide) (by decide) rfl rfl (by decide) (by decide) rfl at_552 rfl (fun T44 X44 e44 => ?_)
                          show Go p e below _ (T44.setTop (mkF m 555 #[.val (.int i0), .val (.int i1), .val (.int (Int32.ofNat n1)), .val (.int (Int32.ofNat n2)), .val (.int (1 : Int32)), .val (.int (Int32.ofNat tl)), .val (.int (Int32.ofNat jk)), .val (.int (Int32.ofNat ln)), .val (.int (Int32.ofNat ex)), .val (.ref a), .val (.int (Int32.ofNat (2 + ln))), .val (.ref r), .val (.int (1 : Int32)), .val (.ref c0)] [(.int (0 : Int32))]))
                          refine s_iload B X44 (pc' := 557) at_555 rfl rfl ?_
                          refine s_iconst B X44 (pc' := 558) (v := (1 : Int32)) at_557 rfl rfl ?_
                          refine b_icmp_eq B X44 (py := 567) (pn := 561) at_558 (by decide) (by decide) rfl (fun q => absurd q (fun z => by have := sm_inj (y := 1) (by omega) (by decide) z; omega)) (fun _ => ?_)
                          refine s_iload B X44 (pc' := 563) at_561 rfl rfl ?_
                          refine s_iconst B X44 (pc' := 564) (v := (3 : Int32)) at_563 rfl rfl ?_
                          refine b_icmp_ne B X44 (py := 571) (pn := 567) at_564 (by decide) (by decide) rfl (fun _ => ?_) (fun q => absurd q (fun z => by have := sm_inj (y := 3) (by omega) (by decide) z; omega))
                          refine s_iconst B X44 (pc' := 572) (v := (0 : Int32)) at_571 rfl rfl ?_
                          refine s_icmpN B X44 (pc' := 575) at_572 (by decide) rfl ?_
                          refine s_iconst B X44 (pc' := 576) (v := (1 : Int32)) at_575 rfl rfl ?_
                          refine s_goto B X44 (pc' := 580) at_576 (by decide) (by decide) ?_
                          refine s_istore B X44 (pc' := 582) (Ls' := #[.val (.int i0), .val (.int i1), .val (.int (Int32.ofNat n1)), .val (.int (Int32.ofNat n2)), .val (.int (1 : Int32)), .val (.int (Int32.ofNat tl)), .val (.int (Int32.ofNat jk)), .val (.int (Int32.ofNat ln)), .val (.int (Int32.ofNat ex)), .val (.ref a), .val (.int (Int32.ofNat (2 + ln))), .val (.ref r), .val (.int (1 : Int32)), .val (.ref c0)]) at_580 rfl rfl ?_
                          refine s_iload B X44 (pc' := 584) at_582 rfl rfl ?_
                          exact r_nar B X44 (t := .boolean) (by simp) rfl at_584 ⟨rfl, Nk545⟩ (by decide) (by decide)
                        · refine s_aload B Xk545 (pc' := 552) at_550 rfl rfl rfl ?_
                          refine p_virtual B Xk545 (y := mn0) (pc' := 555) (argsL := []) (under := []) (W := 0) ek545 (tw19 hw) (tw20 hw) (tw22 hw) (tw21 hw) (tw23 hw) (tw2 hw) (by decide) (rm_has l Z a0 hw r a (((2 + ln) + ex)) _ (pr) (((2 + ln) + ex)) 1 hk545 Rk545 (if_pos (by omega))) Rk545.1 (lenOf pd_5 rfl) rfl rfl (by decide) (by decide) rfl rfl (by decide) (by decide) rfl at_552 rfl (fun T45 X45 e45 => ?_)
                          show Go p e below _ (T45.setTop (mkF m 555 #[.val (.int i0), .val (.int i1), .val (.int (Int32.ofNat n1)), .val (.int (Int32.ofNat n2)), .val (.int (1 : Int32)), .val (.int (Int32.ofNat tl)), .val (.int (Int32.ofNat jk)), .val (.int (Int32.ofNat ln)), .val (.int (Int32.ofNat ex)), .val (.ref a), .val (.int (Int32.ofNat (2 + ln))), .val (.ref r), .val (.int (1 : Int32)), .val (.ref c0)] [(.int (1 : Int32))]))
                          refine s_iload B X45 (pc' := 557) at_555 rfl rfl ?_
                          refine s_iconst B X45 (pc' := 558) (v := (1 : Int32)) at_557 rfl rfl ?_
                          refine b_icmp_eq B X45 (py := 567) (pn := 561) at_558 (by decide) (by decide) rfl (fun _ => ?_) (fun q => absurd (congrArg Int32.ofNat q43) q)
                          refine s_iconst B X45 (pc' := 568) (v := (1 : Int32)) at_567 rfl rfl ?_
                          refine s_goto B X45 (pc' := 572) at_568 (by decide) (by decide) ?_
                          refine s_icmpN B X45 (pc' := 575) at_572 (by decide) rfl ?_
                          refine s_iconst B X45 (pc' := 576) (v := (1 : Int32)) at_575 rfl rfl ?_
                          refine s_goto B X45 (pc' := 580) at_576 (by decide) (by decide) ?_
                          refine s_istore B X45 (pc' := 582) (Ls' := #[.val (.int i0), .val (.int i1), .val (.int (Int32.ofNat n1)), .val (.int (Int32.ofNat n2)), .val (.int (1 : Int32)), .val (.int (Int32.ofNat tl)), .val (.int (Int32.ofNat jk)), .val (.int (Int32.ofNat ln)), .val (.int (Int32.ofNat ex)), .val (.ref a), .val (.int (Int32.ofNat (2 + ln))), .val (.ref r), .val (.int (1 : Int32)), .val (.ref c0)]) at_580 rfl rfl ?_
                          refine s_iload B X45 (pc' := 584) at_582 rfl rfl ?_
                          exact r_nar B X45 (t := .boolean) (by simp) rfl at_584 ⟨rfl, Nk545⟩ (by decide) (by decide)
                        · refine s_aload B Xk545 (pc' := 552) at_550 rfl rfl rfl ?_
                          refine p_virtual B Xk545 (y := mn0) (pc' := 555) (argsL := []) (under := []) (W := 0) ek545 (tw19 hw) (tw20 hw) (tw22 hw) (tw21 hw) (tw23 hw) (tw2 hw) (by decide) (rm_has l Z a0 hw r a (((2 + ln) + ex)) _ (pr) (((2 + ln) + ex)) 0 hk545 Rk545 (if_neg (by omega))) Rk545.1 (lenOf pd_5 rfl) rfl rfl (by decide) (by decide) rfl rfl (by decide) (by decide) rfl at_552 rfl (fun T46 X46 e46 => ?_)
                          show Go p e below _ (T46.setTop (mkF m 555 #[.val (.int i0), .val (.int i1), .val (.int (Int32.ofNat n1)), .val (.int (Int32.ofNat n2)), .val (.int (1 : Int32)), .val (.int (Int32.ofNat tl)), .val (.int (Int32.ofNat jk)), .val (.int (Int32.ofNat ln)), .val (.int (Int32.ofNat ex)), .val (.ref a), .val (.int (Int32.ofNat (2 + ln))), .val (.ref r), .val (.int (1 : Int32)), .val (.ref c0)] [(.int (0 : Int32))]))
                          refine s_iload B X46 (pc' := 557) at_555 rfl rfl ?_
                          refine s_iconst B X46 (pc' := 558) (v := (1 : Int32)) at_557 rfl rfl ?_
                          refine b_icmp_eq B X46 (py := 567) (pn := 561) at_558 (by decide) (by decide) rfl (fun q => absurd q (fun z => by have := sm_inj (y := 1) (by omega) (by decide) z; omega)) (fun _ => ?_)
                          refine s_iload B X46 (pc' := 563) at_561 rfl rfl ?_
                          refine s_iconst B X46 (pc' := 564) (v := (3 : Int32)) at_563 rfl rfl ?_
                          refine b_icmp_ne B X46 (py := 571) (pn := 567) at_564 (by decide) (by decide) rfl (fun _ => ?_) (fun q => absurd q (fun z => by have := sm_inj (y := 3) (by omega) (by decide) z; omega))
                          refine s_iconst B X46 (pc' := 572) (v := (0 : Int32)) at_571 rfl rfl ?_
                          refine s_icmpN B X46 (pc' := 575) at_572 (by decide) rfl ?_
                          refine s_iconst B X46 (pc' := 576) (v := (1 : Int32)) at_575 rfl rfl ?_
                          refine s_goto B X46 (pc' := 580) at_576 (by decide) (by decide) ?_
                          refine s_istore B X46 (pc' := 582) (Ls' := #[.val (.int i0), .val (.int i1), .val (.int (Int32.ofNat n1)), .val (.int (Int32.ofNat n2)), .val (.int (1 : Int32)), .val (.int (Int32.ofNat tl)), .val (.int (Int32.ofNat jk)), .val (.int (Int32.ofNat ln)), .val (.int (Int32.ofNat ex)), .val (.ref a), .val (.int (Int32.ofNat (2 + ln))), .val (.ref r), .val (.int (1 : Int32)), .val (.ref c0)]) at_580 rfl rfl ?_
                          refine s_iload B X46 (pc' := 584) at_582 rfl rfl ?_
                          exact r_nar B X46 (t := .boolean) (by simp) rfl at_584 ⟨rfl, Nk545⟩ (by decide) (by decide)
                        · refine s_aload B Xk545 (pc' := 552) at_550 rfl rfl rfl ?_
                          refine p_virtual B Xk545 (y := mn0) (pc' := 555) (argsL := []) (under := []) (W := 0) ek545 (tw19 hw) (tw20 hw) (tw22 hw) (tw21 hw) (tw23 hw) (tw2 hw) (by decide) (rm_has l Z a0 hw r a (((2 + ln) + ex)) _ (pr) (((2 + ln) + ex)) 1 hk545 Rk545 (if_pos (by omega))) Rk545.1 (lenOf pd_5 rfl) rfl rfl (by decide) (by decide) rfl rfl (by decide) (by decide) rfl at_552 rfl (fun T47 X47 e47 => ?_)
                          show Go p e below _ (T47.setTop (mkF m 555 #[.val (.int i0), .val (.int i1), .val (.int (Int32.ofNat n1)), .val (.int (Int32.ofNat n2)), .val (.int (1 : Int32)), .val (.int (Int32.ofNat tl)), .val (.int (Int32.ofNat jk)), .val (.int (Int32.ofNat ln)), .val (.int (Int32.ofNat ex)), .val (.ref a), .val (.int (Int32.ofNat (2 + ln))), .val (.ref r), .val (.int (1 : Int32)), .val (.ref c0)] [(.int (1 : Int32))]))
                          refine s_iload B X47 (pc' := 557) at_555 rfl rfl ?_
                          refine s_iconst B X47 (pc' := 558) (v := (1 : Int32)) at_557 rfl rfl ?_
                          refine b_icmp_eq B X47 (py := 567) (pn := 561) at_558 (by decide) (by decide) rfl (fun q => absurd q (fun z => by have := sm_inj (y := 1) (by omega) (by decide) z; omega)) (fun _ => ?_)
                          refine s_iload B X47 (pc' := 563) at_561 rfl rfl ?_
                          refine s_iconst B X47 (pc' := 564) (v := (3 : Int32)) at_563 rfl rfl ?_
                          refine b_icmp_ne B X47 (py := 571) (pn := 567) at_564 (by decide) (by decide) rfl (fun q => absurd (congrArg Int32.ofNat q43) q) (fun _ => ?_)
                          refine s_iconst B X47 (pc' := 568) (v := (1 : Int32)) at_567 rfl rfl ?_
                          refine s_goto B X47 (pc' := 572) at_568 (by decide) (by decide) ?_
                          refine s_icmpN B X47 (pc' := 575) at_572 (by decide) rfl ?_
                          refine s_iconst B X47 (pc' := 576) (v := (1 : Int32)) at_575 rfl rfl ?_
                          refine s_goto B X47 (pc' := 580) at_576 (by decide) (by decide) ?_
                          refine s_istore B X47 (pc' := 582) (Ls' := #[.val (.int i0), .val (.int i1), .val (.int (Int32.ofNat n1)), .val (.int (Int32.ofNat n2)), .val (.int (1 : Int32)), .val (.int (Int32.ofNat tl)), .val (.int (Int32.ofNat jk)), .val (.int (Int32.ofNat ln)), .val (.int (Int32.ofNat ex)), .val (.ref a), .val (.int (Int32.ofNat (2 + ln))), .val (.ref r), .val (.int (1 : Int32)), .val (.ref c0)]) at_580 rfl rfl ?_
                          refine s_iload B X47 (pc' := 584) at_582 rfl rfl ?_
                          exact r_nar B X47 (t := .boolean) (by simp) rfl at_584 ⟨rfl, Nk545⟩ (by decide) (by decide)
                      rcases (by omega : tl = 0 ∨ tl = 1 ∨ tl = 2 ∨ tl = 3) with q48 | q48 | q48 | q48
                      · refine s_iload B Xk495 (pc' := 534) at_532 rfl rfl ?_
                        refine s_iconst B Xk495 (pc' := 535) (v := (2 : Int32)) at_534 rfl rfl ?_
                        refine b_icmp_ne B Xk495 (py := 545) (pn := 538) at_535 (by decide) (by decide) rfl (fun _ => ?_) (fun q => absurd q (fun z => by have := sm_inj (y := 2) (by omega) (by decide) z; omega))
                        exact jn545 Tk495 h42 _ (0 + 1 + 1 + ln) (Xk495.mono (by decide) (by decide)) ek495 Nk495 R42 (fun z => by omega) (fun z => by omega)
                      · refine s_iload B Xk495 (pc' := 534) at_532 rfl rfl ?_
                        refine s_iconst B Xk495 (pc' := 535) (v := (2 : Int32)) at_534 rfl rfl ?_
                        refine b_icmp_ne B Xk495 (py := 545) (pn := 538) at_535 (by decide) (by decide) rfl (fun _ => ?_) (fun q => absurd q (fun z => by have := sm_inj (y := 2) (by omega) (by decide) z; omega))
                        exact jn545 Tk495 h42 _ (0 + 1 + 1 + ln) (Xk495.mono (by decide) (by decide)) ek495 Nk495 R42 (fun z => by omega) (fun z => by omega)
                      · refine s_iload B Xk495 (pc' := 534) at_532 rfl rfl ?_
                        refine s_iconst B Xk495 (pc' := 535) (v := (2 : Int32)) at_534 rfl rfl ?_
                        refine b_icmp_ne B Xk495 (py := 545) (pn := 538) at_535 (by decide) (by decide) rfl (fun q => absurd (congrArg Int32.ofNat q48) q) (fun _ => ?_)
                        refine s_aload B Xk495 (pc' := 540) at_538 rfl rfl rfl ?_
                        refine s_iconst B Xk495 (pc' := 541) (v := (1 : Int32)) at_540 rfl rfl ?_
                        refine c_virtual B Xk495 (y := mn10) (pc' := 544) (argsL := [(.int (1 : Int32))]) (under := []) (W := 0) ek495 (tw61 hw) (tw62 hw) (tw64 hw) (tw63 hw) (tw65 hw) (tw2 hw) (by decide) (rm_readBoolean l Z a0 hw r a (((2 + ln) + ex)) f (0 + 1 + 1 + ln) (((2 + ln) + ex)) 1 h42 R42 (by omega) ((show 2 + ln = 0 + 1 + 1 + ln by omega) ▸ (hb2 (by omega)).1) ((show 2 + ln + 1 = 0 + 1 + 1 + ln + 1 by omega) ▸ (hb2 (by omega)).2)) R42.1 (lenOf pd_7 rfl) rfl rfl (by decide) (by decide) (by decide) (by decide) rfl at_541 rfl (fun v49 T49 L49 X49 hQ49 => ?_)
                        obtain ⟨⟨x49, rfl⟩, Nq49, Kq49, R49⟩ := hQ49
                        obtain ⟨h49, e49⟩ : ∃ z, T49.heap = z := ⟨_, rfl⟩
                        rw [e49] at Kq49 R49
                        have N49 := Fr.app Nk495 Nq49
                        show Go p e below _ (T49.setTop (mkF m 544 #[.val (.int i0), .val (.int i1), .val (.int (Int32.ofNat n1)), .val (.int (Int32.ofNat n2)), .val (.int (1 : Int32)), .val (.int (Int32.ofNat tl)), .val (.int (Int32.ofNat jk)), .val (.int (Int32.ofNat ln)), .val (.int (Int32.ofNat ex)), .val (.ref a), .val (.int (Int32.ofNat (2 + ln))), .val (.ref r), .val (.int (1 : Int32)), .val (.ref c0)] [(.int x49)]))
                        refine s_pop B X49 (pc' := 545) at_544 rfl rfl ?_
                        exact jn545 T49 h49 _ (0 + 1 + 1 + ln + 1 + 1 + 1) (X49.mono (by decide) (by decide)) e49 N49 R49 (fun z => by omega) (fun z => by omega)
                      · refine s_iload B Xk495 (pc' := 534) at_532 rfl rfl ?_
                        refine s_iconst B Xk495 (pc' := 535) (v := (2 : Int32)) at_534 rfl rfl ?_
                        refine b_icmp_ne B Xk495 (py := 545) (pn := 538) at_535 (by decide) (by decide) rfl (fun _ => ?_) (fun q => absurd q (fun z => by have := sm_inj (y := 2) (by omega) (by decide) z; omega))
                        exact jn545 Tk495 h42 _ (0 + 1 + 1 + ln) (Xk495.mono (by decide) (by decide)) ek495 Nk495 R42 (fun z => by omega) (fun z => by omega)
                    rcases (by omega : jk = 0 ∨ jk = 1) with q50 | q50
                    · refine s_aload B X42 (pc' := 468) at_466 rfl rfl rfl ?_
                      refine p_virtual B X42 (y := mn0) (pc' := 471) (argsL := []) (under := []) (W := 0) e42 (tw19 hw) (tw20 hw) (tw22 hw) (tw21 hw) (tw23 hw) (tw2 hw) (by decide) (rm_has l Z a0 hw c0 a (((2 + ln) + ex)) _ (0 + 1 + 1 + 1 + 1 + n1) (0 + 1 + 1 + ln) 0 h42 C42 (if_neg (by omega))) C42.1 (lenOf pd_5 rfl) rfl rfl (by decide) (by decide) rfl rfl (by decide) (by decide) rfl at_468 rfl (fun T51 X51 e51 => ?_)
                      show Go p e below _ (T51.setTop (mkF m 471 #[.val (.int i0), .val (.int i1), .val (.int (Int32.ofNat n1)), .val (.int (Int32.ofNat n2)), .val (.int (1 : Int32)), .val (.int (Int32.ofNat tl)), .val (.int (Int32.ofNat jk)), .val (.int (Int32.ofNat ln)), .val (.int (Int32.ofNat ex)), .val (.ref a), .val (.int (Int32.ofNat (2 + ln))), .val (.ref r), .val (.int (1 : Int32)), .val (.ref c0)] [(.int (0 : Int32))]))
                      refine s_iload B X51 (pc' := 473) at_471 rfl rfl ?_
                      refine s_iconst B X51 (pc' := 474) (v := (2 : Int32)) at_473 rfl rfl ?_
                      refine s_icmpN B X51 (pc' := 477) at_474 (by decide) rfl ?_
                      refine s_iload B X51 (pc' := 479) at_477 rfl rfl ?_
                      refine b_if_eq B X51 (py := 486) (pn := 482) at_479 (by decide) (by decide) rfl (fun _ => ?_) (fun q => absurd (congrArg Int32.ofNat q50) q)
                      refine s_iconst B X51 (pc' := 487) (v := (0 : Int32)) at_486 rfl rfl ?_
                      refine s_icmpN B X51 (pc' := 490) at_487 (by decide) rfl ?_
                      refine s_iconst B X51 (pc' := 491) (v := (1 : Int32)) at_490 rfl rfl ?_
                      refine s_goto B X51 (pc' := 495) at_491 (by decide) (by decide) ?_
                      exact jn495 T51 _ (X51.mono (by decide) (by decide)) e51 N42
                    · refine s_aload B X42 (pc' := 468) at_466 rfl rfl rfl ?_
                      refine p_virtual B X42 (y := mn0) (pc' := 471) (argsL := []) (under := []) (W := 0) e42 (tw19 hw) (tw20 hw) (tw22 hw) (tw21 hw) (tw23 hw) (tw2 hw) (by decide) (rm_has l Z a0 hw c0 a (((2 + ln) + ex)) _ (0 + 1 + 1 + 1 + 1 + n1) (0 + 1 + 1 + ln) 1 h42 C42 (if_pos (by omega))) C42.1 (lenOf pd_5 rfl) rfl rfl (by decide) (by decide) rfl rfl (by decide) (by decide) rfl at_468 rfl (fun T52 X52 e52 => ?_)
                      show Go p e below _ (T52.setTop (mkF m 471 #[.val (.int i0), .val (.int i1), .val (.int (Int32.ofNat n1)), .val (.int (Int32.ofNat n2)), .val (.int (1 : Int32)), .val (.int (Int32.ofNat tl)), .val (.int (Int32.ofNat jk)), .val (.int (Int32.ofNat ln)), .val (.int (Int32.ofNat ex)), .val (.ref a), .val (.int (Int32.ofNat (2 + ln))), .val (.ref r), .val (.int (1 : Int32)), .val (.ref c0)] [(.int (1 : Int32))]))
                      refine s_iload B X52 (pc' := 473) at_471 rfl rfl ?_
                      refine s_iconst B X52 (pc' := 474) (v := (2 : Int32)) at_473 rfl rfl ?_
                      refine s_icmpN B X52 (pc' := 477) at_474 (by decide) rfl ?_
                      refine s_iload B X52 (pc' := 479) at_477 rfl rfl ?_
                      refine b_if_eq B X52 (py := 486) (pn := 482) at_479 (by decide) (by decide) rfl (fun q => absurd q (fun z => by have := sm_inj (y := 0) (by omega) (by decide) z; omega)) (fun _ => ?_)
                      refine s_iconst B X52 (pc' := 483) (v := (1 : Int32)) at_482 rfl rfl ?_
                      refine s_goto B X52 (pc' := 487) at_483 (by decide) (by decide) ?_
                      refine s_icmpN B X52 (pc' := 490) at_487 (by decide) rfl ?_
                      refine s_iconst B X52 (pc' := 491) (v := (1 : Int32)) at_490 rfl rfl ?_
                      refine s_goto B X52 (pc' := 495) at_491 (by decide) (by decide) ?_
                      exact jn495 T52 _ (X52.mono (by decide) (by decide)) e52 N42
                  by_cases q53 : 0 < ln
                  · refine s_aload B Xk416 (pc' := 425) at_423 rfl rfl rfl ?_
                    refine p_virtual B Xk416 (y := mn0) (pc' := 428) (argsL := []) (under := []) (W := 0) ek416 (tw19 hw) (tw20 hw) (tw22 hw) (tw21 hw) (tw23 hw) (tw2 hw) (by decide) (rm_has l Z a0 hw c0 a (((2 + ln) + ex)) _ (0 + 1 + 1) (0 + 1 + 1 + ln) 1 h41 C41 (if_pos (by omega))) C41.1 (lenOf pd_5 rfl) rfl rfl (by decide) (by decide) rfl rfl (by decide) (by decide) rfl at_425 rfl (fun T54 X54 e54 => ?_)
                    show Go p e below _ (T54.setTop (mkF m 428 #[.val (.int i0), .val (.int i1), .val (.int (Int32.ofNat n1)), .val (.int (Int32.ofNat n2)), .val (.int (1 : Int32)), .val (.int (Int32.ofNat tl)), .val (.int (Int32.ofNat jk)), .val (.int (Int32.ofNat ln)), .val (.int (Int32.ofNat ex)), .val (.ref a), .val (.int (Int32.ofNat (2 + ln))), .val (.ref r), .val (.int (1 : Int32)), .val (.ref c0)] [(.int (1 : Int32))]))
                    refine s_iload B X54 (pc' := 430) at_428 rfl rfl ?_
                    refine b_if_le B X54 (py := 437) (pn := 433) at_430 (by decide) (by decide) rfl (fun q => absurd ((sm_lt (x := 0) (y := ln) (by decide) (by omega)).mpr q53) q) (fun _ => ?_)
                    refine s_iconst B X54 (pc' := 434) (v := (1 : Int32)) at_433 rfl rfl ?_
                    refine s_goto B X54 (pc' := 438) at_434 (by decide) (by decide) ?_
                    refine s_icmpN B X54 (pc' := 441) at_438 (by decide) rfl ?_
                    refine s_iconst B X54 (pc' := 442) (v := (1 : Int32)) at_441 rfl rfl ?_
                    refine s_goto B X54 (pc' := 446) at_442 (by decide) (by decide) ?_
                    exact jn446 T54 _ (X54.mono (by decide) (by decide)) e54 Nk416
                  · refine s_aload B Xk416 (pc' := 425) at_423 rfl rfl rfl ?_
                    refine p_virtual B Xk416 (y := mn0) (pc' := 428) (argsL := []) (under := []) (W := 0) ek416 (tw19 hw) (tw20 hw) (tw22 hw) (tw21 hw) (tw23 hw) (tw2 hw) (by decide) (rm_has l Z a0 hw c0 a (((2 + ln) + ex)) _ (0 + 1 + 1) (0 + 1 + 1 + ln) 0 h41 C41 (if_neg (by omega))) C41.1 (lenOf pd_5 rfl) rfl rfl (by decide) (by decide) rfl rfl (by decide) (by decide) rfl at_425 rfl (fun T55 X55 e55 => ?_)
                    show Go p e below _ (T55.setTop (mkF m 428 #[.val (.int i0), .val (.int i1), .val (.int (Int32.ofNat n1)), .val (.int (Int32.ofNat n2)), .val (.int (1 : Int32)), .val (.int (Int32.ofNat tl)), .val (.int (Int32.ofNat jk)), .val (.int (Int32.ofNat ln)), .val (.int (Int32.ofNat ex)), .val (.ref a), .val (.int (Int32.ofNat (2 + ln))), .val (.ref r), .val (.int (1 : Int32)), .val (.ref c0)] [(.int (0 : Int32))]))
                    refine s_iload B X55 (pc' := 430) at_428 rfl rfl ?_
                    refine b_if_le B X55 (py := 437) (pn := 433) at_430 (by decide) (by decide) rfl (fun _ => ?_) (fun q => absurd q (fun z => q53 ((sm_lt (x := 0) (y := ln) (by decide) (by omega)).mp z)))
                    refine s_iconst B X55 (pc' := 438) (v := (0 : Int32)) at_437 rfl rfl ?_
                    refine s_icmpN B X55 (pc' := 441) at_438 (by decide) rfl ?_
                    refine s_iconst B X55 (pc' := 442) (v := (1 : Int32)) at_441 rfl rfl ?_
                    refine s_goto B X55 (pc' := 446) at_442 (by decide) (by decide) ?_
                    exact jn446 T55 _ (X55.mono (by decide) (by decide)) e55 Nk416
                by_cases q56 : 0 < ex
                · refine s_aload B X41 (pc' := 395) at_393 rfl rfl rfl ?_
                  refine p_virtual B X41 (y := mn0) (pc' := 398) (argsL := []) (under := []) (W := 0) e41 (tw19 hw) (tw20 hw) (tw22 hw) (tw21 hw) (tw23 hw) (tw2 hw) (by decide) (rm_has l Z a0 hw r a (((2 + ln) + ex)) _ (0 + 1 + 1 + ln) (((2 + ln) + ex)) 1 h41 R41 (if_pos (by omega))) R41.1 (lenOf pd_5 rfl) rfl rfl (by decide) (by decide) rfl rfl (by decide) (by decide) rfl at_395 rfl (fun T57 X57 e57 => ?_)
                  show Go p e below _ (T57.setTop (mkF m 398 #[.val (.int i0), .val (.int i1), .val (.int (Int32.ofNat n1)), .val (.int (Int32.ofNat n2)), .val (.int (1 : Int32)), .val (.int (Int32.ofNat tl)), .val (.int (Int32.ofNat jk)), .val (.int (Int32.ofNat ln)), .val (.int (Int32.ofNat ex)), .val (.ref a), .val (.int (Int32.ofNat (2 + ln))), .val (.ref r), .val (.int (1 : Int32)), .val (.ref c0)] [(.int (1 : Int32))]))
                  refine s_iload B X57 (pc' := 400) at_398 rfl rfl ?_
                  refine b_if_le B X57 (py := 407) (pn := 403) at_400 (by decide) (by decide) rfl (fun q => absurd ((sm_lt (x := 0) (y := ex) (by decide) (by omega)).mpr q56) q) (fun _ => ?_)
                  refine s_iconst B X57 (pc' := 404) (v := (1 : Int32)) at_403 rfl rfl ?_
                  refine s_goto B X57 (pc' := 408) at_404 (by decide) (by decide) ?_
                  refine s_icmpN B X57 (pc' := 411) at_408 (by decide) rfl ?_
                  refine s_iconst B X57 (pc' := 412) (v := (1 : Int32)) at_411 rfl rfl ?_
                  refine s_goto B X57 (pc' := 416) at_412 (by decide) (by decide) ?_
                  exact jn416 T57 _ (X57.mono (by decide) (by decide)) e57 N41
                · refine s_aload B X41 (pc' := 395) at_393 rfl rfl rfl ?_
                  refine p_virtual B X41 (y := mn0) (pc' := 398) (argsL := []) (under := []) (W := 0) e41 (tw19 hw) (tw20 hw) (tw22 hw) (tw21 hw) (tw23 hw) (tw2 hw) (by decide) (rm_has l Z a0 hw r a (((2 + ln) + ex)) _ (0 + 1 + 1 + ln) (((2 + ln) + ex)) 0 h41 R41 (if_neg (by omega))) R41.1 (lenOf pd_5 rfl) rfl rfl (by decide) (by decide) rfl rfl (by decide) (by decide) rfl at_395 rfl (fun T58 X58 e58 => ?_)
                  show Go p e below _ (T58.setTop (mkF m 398 #[.val (.int i0), .val (.int i1), .val (.int (Int32.ofNat n1)), .val (.int (Int32.ofNat n2)), .val (.int (1 : Int32)), .val (.int (Int32.ofNat tl)), .val (.int (Int32.ofNat jk)), .val (.int (Int32.ofNat ln)), .val (.int (Int32.ofNat ex)), .val (.ref a), .val (.int (Int32.ofNat (2 + ln))), .val (.ref r), .val (.int (1 : Int32)), .val (.ref c0)] [(.int (0 : Int32))]))
                  refine s_iload B X58 (pc' := 400) at_398 rfl rfl ?_
                  refine b_if_le B X58 (py := 407) (pn := 403) at_400 (by decide) (by decide) rfl (fun _ => ?_) (fun q => absurd q (fun z => q56 ((sm_lt (x := 0) (y := ex) (by decide) (by omega)).mp z)))
                  refine s_iconst B X58 (pc' := 408) (v := (0 : Int32)) at_407 rfl rfl ?_
                  refine s_icmpN B X58 (pc' := 411) at_408 (by decide) rfl ?_
                  refine s_iconst B X58 (pc' := 412) (v := (1 : Int32)) at_411 rfl rfl ?_
                  refine s_goto B X58 (pc' := 416) at_412 (by decide) (by decide) ?_
                  exact jn416 T58 _ (X58.mono (by decide) (by decide)) e58 N41
              rcases (by omega : tl = 0 ∨ tl = 1 ∨ tl = 2 ∨ tl = 3) with q59 | q59 | q59 | q59
              · refine s_iload B Xj283 (pc' := 285) at_283 rfl rfl ?_
                refine s_iconst B Xj283 (pc' := 286) (v := (1 : Int32)) at_285 rfl rfl ?_
                refine b_icmp_ne B Xj283 (py := 302) (pn := 289) at_286 (by decide) (by decide) rfl (fun _ => ?_) (fun q => absurd q (fun z => by have := sm_inj (y := 1) (by omega) (by decide) z; omega))
                refine s_iload B Xj283 (pc' := 304) at_302 rfl rfl ?_
                refine s_iconst B Xj283 (pc' := 305) (v := (2 : Int32)) at_304 rfl rfl ?_
                refine b_icmp_ne B Xj283 (py := 334) (pn := 308) at_305 (by decide) (by decide) rfl (fun _ => ?_) (fun q => absurd q (fun z => by have := sm_inj (y := 2) (by omega) (by decide) z; omega))
                refine s_iload B Xj283 (pc' := 336) at_334 rfl rfl ?_
                refine s_iconst B Xj283 (pc' := 337) (v := (3 : Int32)) at_336 rfl rfl ?_
                refine b_icmp_ne B Xj283 (py := 361) (pn := 340) at_337 (by decide) (by decide) rfl (fun _ => ?_) (fun q => absurd q (fun z => by have := sm_inj (y := 3) (by omega) (by decide) z; omega))
                exact jn361 Tj283 hj283 _ _ Xj283 ej283 Nj283 Aj283 y283_0 y283_1 y283_2 y283_3 (fun z => by omega)
              · refine s_iload B Xj283 (pc' := 285) at_283 rfl rfl ?_
                refine s_iconst B Xj283 (pc' := 286) (v := (1 : Int32)) at_285 rfl rfl ?_
                refine b_icmp_ne B Xj283 (py := 302) (pn := 289) at_286 (by decide) (by decide) rfl (fun q => absurd (congrArg Int32.ofNat q59) q) (fun _ => ?_)
                refine s_aload B Xj283 (pc' := 291) at_289 rfl rfl rfl ?_
                refine s_iload B Xj283 (pc' := 293) at_291 rfl rfl ?_
                refine s_iloadN B Xj283 (pc' := 294) at_293 rfl rfl ?_
                refine s_bipush B Xj283 (pc' := 296) (v := (24 : Int32)) at_294 rfl rfl ?_
                refine s_iushr B Xj283 (pc' := 297) (v := ((i1.toUInt32 >>> ((24 : Int32) &&& 31).toUInt32).toInt32)) at_296 rfl rfl ?_
                refine s_i2b B Xj283 (pc' := 298) (v := ((i1.toUInt32 >>> ((24 : Int32) &&& 31).toUInt32).toInt32).toInt8.toInt32) at_297 rfl rfl ?_
                refine s_stBA B Xj283 (pc' := 299) (j := (2 + ln)) (x := ((i1.toUInt32 >>> ((24 : Int32) &&& 31).toUInt32).toInt32).toInt8.toInt32) ej283 Aj283 (by omega) (by omega) at_298 rfl (fun T60 h60 X60 e60 W60 Ab60 => ?_)
                have N60 := Fr.snoc X60 Nj283 ga
                have p60_0 : (updB f ((2 + ln)) (nar .byte ((i1.toUInt32 >>> ((24 : Int32) &&& 31).toUInt32).toInt32).toInt8.toInt32)) (0) &&& 255 = Int32.ofNat (48) := by rw [updB_ne (by omega)]; exact y283_0
                have p60_1 : (updB f ((2 + ln)) (nar .byte ((i1.toUInt32 >>> ((24 : Int32) &&& 31).toUInt32).toInt32).toInt8.toInt32)) (1) &&& 255 = Int32.ofNat (ln) := by rw [updB_ne (by omega)]; exact y283_1
                have p60_2 : (updB f ((2 + ln)) (nar .byte ((i1.toUInt32 >>> ((24 : Int32) &&& 31).toUInt32).toInt32).toInt8.toInt32)) (2) &&& 255 = Int32.ofNat (4) := by rw [updB_ne (by omega)]; exact y283_2
                have p60_3 : (updB f ((2 + ln)) (nar .byte ((i1.toUInt32 >>> ((24 : Int32) &&& 31).toUInt32).toInt32).toInt8.toInt32)) (3) &&& 255 = Int32.ofNat (n1) := by rw [updB_ne (by omega)]; exact y283_3
                show Go p e below _ (T60.setTop (mkF m 299 #[.val (.int i0), .val (.int i1), .val (.int (Int32.ofNat n1)), .val (.int (Int32.ofNat n2)), .val (.int (1 : Int32)), .val (.int (Int32.ofNat tl)), .val (.int (Int32.ofNat jk)), .val (.int (Int32.ofNat ln)), .val (.int (Int32.ofNat ex)), .val (.ref a), .val (.int (Int32.ofNat (2 + ln))), .unset, .unset, .unset] []))
                refine s_goto B X60 (pc' := 361) at_299 (by decide) (by decide) ?_
                exact jn361 T60 h60 _ _ X60 e60 N60 Ab60 p60_0 p60_1 p60_2 p60_3 (fun z => by omega)
              · refine s_iload B Xj283 (pc' := 285) at_283 rfl rfl ?_
                refine s_iconst B Xj283 (pc' := 286) (v := (1 : Int32)) at_285 rfl rfl ?_
                refine b_icmp_ne B Xj283 (py := 302) (pn := 289) at_286 (by decide) (by decide) rfl (fun _ => ?_) (fun q => absurd q (fun z => by have := sm_inj (y := 1) (by omega) (by decide) z; omega))
                refine s_iload B Xj283 (pc' := 304) at_302 rfl rfl ?_
                refine s_iconst B Xj283 (pc' := 305) (v := (2 : Int32)) at_304 rfl rfl ?_
                refine b_icmp_ne B Xj283 (py := 334) (pn := 308) at_305 (by decide) (by decide) rfl (fun q => absurd (congrArg Int32.ofNat q59) q) (fun _ => ?_)
                refine s_aload B Xj283 (pc' := 310) at_308 rfl rfl rfl ?_
                refine s_iload B Xj283 (pc' := 312) at_310 rfl rfl ?_
                refine s_iconst B Xj283 (pc' := 313) (v := (1 : Int32)) at_312 rfl rfl ?_
                refine s_stBA B Xj283 (pc' := 314) (j := (2 + ln)) (x := (1 : Int32)) ej283 Aj283 (by omega) (by omega) at_313 rfl (fun T61 h61 X61 e61 W61 Ab61 => ?_)
                have N61 := Fr.snoc X61 Nj283 ga
                have p61_0 : (updB f ((2 + ln)) (nar .byte (1 : Int32))) (0) &&& 255 = Int32.ofNat (48) := by rw [updB_ne (by omega)]; exact y283_0
                have p61_1 : (updB f ((2 + ln)) (nar .byte (1 : Int32))) (1) &&& 255 = Int32.ofNat (ln) := by rw [updB_ne (by omega)]; exact y283_1
                have p61_2 : (updB f ((2 + ln)) (nar .byte (1 : Int32))) (2) &&& 255 = Int32.ofNat (4) := by rw [updB_ne (by omega)]; exact y283_2
                have p61_3 : (updB f ((2 + ln)) (nar .byte (1 : Int32))) (3) &&& 255 = Int32.ofNat (n1) := by rw [updB_ne (by omega)]; exact y283_3
                have p61_n : (updB f ((2 + ln)) (nar .byte (1 : Int32))) ((2 + ln)) &&& 255 = Int32.ofNat (1) := by rw [updB_same]; exact own_nb (x := 1) (by decide)
                show Go p e below _ (T61.setTop (mkF m 314 #[.val (.int i0), .val (.int i1), .val (.int (Int32.ofNat n1)), .val (.int (Int32.ofNat n2)), .val (.int (1 : Int32)), .val (.int (Int32.ofNat tl)), .val (.int (Int32.ofNat jk)), .val (.int (Int32.ofNat ln)), .val (.int (Int32.ofNat ex)), .val (.ref a), .val (.int (Int32.ofNat (2 + ln))), .unset, .unset, .unset] []))
                refine s_aload B X61 (pc' := 316) at_314 rfl rfl rfl ?_
                refine s_iload B X61 (pc' := 318) at_316 rfl rfl ?_
                refine s_iconst B X61 (pc' := 319) (v := (1 : Int32)) at_318 rfl rfl ?_
                refine s_iadd B X61 (pc' := 320) (v := (Int32.ofNat ((2 + ln) + 1))) at_319 (sm_add (x := (2 + ln)) (y := 1) (by omega) (by omega)) rfl ?_
                refine s_iconst B X61 (pc' := 321) (v := (1 : Int32)) at_320 rfl rfl ?_
                refine s_stBA B X61 (pc' := 322) (j := ((2 + ln) + 1)) (x := (1 : Int32)) e61 Ab61 (by omega) (by omega) at_321 rfl (fun T62 h62 X62 e62 W62 Ab62 => ?_)
                have N62 := Fr.snoc X62 N61 ga
                have p62_0 : (updB (updB f ((2 + ln)) (nar .byte (1 : Int32))) (((2 + ln) + 1)) (nar .byte (1 : Int32))) (0) &&& 255 = Int32.ofNat (48) := by rw [updB_ne (by omega)]; exact p61_0
                have p62_1 : (updB (updB f ((2 + ln)) (nar .byte (1 : Int32))) (((2 + ln) + 1)) (nar .byte (1 : Int32))) (1) &&& 255 = Int32.ofNat (ln) := by rw [updB_ne (by omega)]; exact p61_1
                have p62_2 : (updB (updB f ((2 + ln)) (nar .byte (1 : Int32))) (((2 + ln) + 1)) (nar .byte (1 : Int32))) (2) &&& 255 = Int32.ofNat (4) := by rw [updB_ne (by omega)]; exact p61_2
                have p62_3 : (updB (updB f ((2 + ln)) (nar .byte (1 : Int32))) (((2 + ln) + 1)) (nar .byte (1 : Int32))) (3) &&& 255 = Int32.ofNat (n1) := by rw [updB_ne (by omega)]; exact p61_3
                have p62_4 : (updB (updB f ((2 + ln)) (nar .byte (1 : Int32))) (((2 + ln) + 1)) (nar .byte (1 : Int32))) ((2 + ln)) &&& 255 = Int32.ofNat (1) := by rw [updB_ne (by omega)]; exact p61_n
                have p62_n : (updB (updB f ((2 + ln)) (nar .byte (1 : Int32))) (((2 + ln) + 1)) (nar .byte (1 : Int32))) (((2 + ln) + 1)) &&& 255 = Int32.ofNat (1) := by rw [updB_same]; exact own_nb (x := 1) (by decide)
                show Go p e below _ (T62.setTop (mkF m 322 #[.val (.int i0), .val (.int i1), .val (.int (Int32.ofNat n1)), .val (.int (Int32.ofNat n2)), .val (.int (1 : Int32)), .val (.int (Int32.ofNat tl)), .val (.int (Int32.ofNat jk)), .val (.int (Int32.ofNat ln)), .val (.int (Int32.ofNat ex)), .val (.ref a), .val (.int (Int32.ofNat (2 + ln))), .unset, .unset, .unset] []))
                refine s_aload B X62 (pc' := 324) at_322 rfl rfl rfl ?_
                refine s_iload B X62 (pc' := 326) at_324 rfl rfl ?_
                refine s_iconst B X62 (pc' := 327) (v := (2 : Int32)) at_326 rfl rfl ?_
                refine s_iadd B X62 (pc' := 328) (v := (Int32.ofNat ((2 + ln) + 2))) at_327 (sm_add (x := (2 + ln)) (y := 2) (by omega) (by omega)) rfl ?_
                refine s_iloadN B X62 (pc' := 329) at_328 rfl rfl ?_
                refine s_i2b B X62 (pc' := 330) (v := i1.toInt8.toInt32) at_329 rfl rfl ?_
                refine s_stBA B X62 (pc' := 331) (j := ((2 + ln) + 2)) (x := i1.toInt8.toInt32) e62 Ab62 (by omega) (by omega) at_330 rfl (fun T63 h63 X63 e63 W63 Ab63 => ?_)
                have N63 := Fr.snoc X63 N62 ga
                have p63_0 : (updB (updB (updB f ((2 + ln)) (nar .byte (1 : Int32))) (((2 + ln) + 1)) (nar .byte (1 : Int32))) (((2 + ln) + 2)) (nar .byte i1.toInt8.toInt32)) (0) &&& 255 = Int32.ofNat (48) := by rw [updB_ne (by omega)]; exact p62_0
                have p63_1 : (updB (updB (updB f ((2 + ln)) (nar .byte (1 : Int32))) (((2 + ln) + 1)) (nar .byte (1 : Int32))) (((2 + ln) + 2)) (nar .byte i1.toInt8.toInt32)) (1) &&& 255 = Int32.ofNat (ln) := by rw [updB_ne (by omega)]; exact p62_1
                have p63_2 : (updB (updB (updB f ((2 + ln)) (nar .byte (1 : Int32))) (((2 + ln) + 1)) (nar .byte (1 : Int32))) (((2 + ln) + 2)) (nar .byte i1.toInt8.toInt32)) (2) &&& 255 = Int32.ofNat (4) := by rw [updB_ne (by omega)]; exact p62_2
                have p63_3 : (updB (updB (updB f ((2 + ln)) (nar .byte (1 : Int32))) (((2 + ln) + 1)) (nar .byte (1 : Int32))) (((2 + ln) + 2)) (nar .byte i1.toInt8.toInt32)) (3) &&& 255 = Int32.ofNat (n1) := by rw [updB_ne (by omega)]; exact p62_3
                have p63_4 : (updB (updB (updB f ((2 + ln)) (nar .byte (1 : Int32))) (((2 + ln) + 1)) (nar .byte (1 : Int32))) (((2 + ln) + 2)) (nar .byte i1.toInt8.toInt32)) ((2 + ln)) &&& 255 = Int32.ofNat (1) := by rw [updB_ne (by omega)]; exact p62_4
                have p63_5 : (updB (updB (updB f ((2 + ln)) (nar .byte (1 : Int32))) (((2 + ln) + 1)) (nar .byte (1 : Int32))) (((2 + ln) + 2)) (nar .byte i1.toInt8.toInt32)) (((2 + ln) + 1)) &&& 255 = Int32.ofNat (1) := by rw [updB_ne (by omega)]; exact p62_n
                show Go p e below _ (T63.setTop (mkF m 331 #[.val (.int i0), .val (.int i1), .val (.int (Int32.ofNat n1)), .val (.int (Int32.ofNat n2)), .val (.int (1 : Int32)), .val (.int (Int32.ofNat tl)), .val (.int (Int32.ofNat jk)), .val (.int (Int32.ofNat ln)), .val (.int (Int32.ofNat ex)), .val (.ref a), .val (.int (Int32.ofNat (2 + ln))), .unset, .unset, .unset] []))
                refine s_goto B X63 (pc' := 361) at_331 (by decide) (by decide) ?_
                exact jn361 T63 h63 _ _ X63 e63 N63 Ab63 p63_0 p63_1 p63_2 p63_3 (fun _ => ⟨p63_4, p63_5⟩)
              · refine s_iload B Xj283 (pc' := 285) at_283 rfl rfl ?_
                refine s_iconst B Xj283 (pc' := 286) (v := (1 : Int32)) at_285 rfl rfl ?_
                refine b_icmp_ne B Xj283 (py := 302) (pn := 289) at_286 (by decide) (by decide) rfl (fun _ => ?_) (fun q => absurd q (fun z => by have := sm_inj (y := 1) (by omega) (by decide) z; omega))
                refine s_iload B Xj283 (pc' := 304) at_302 rfl rfl ?_
                refine s_iconst B Xj283 (pc' := 305) (v := (2 : Int32)) at_304 rfl rfl ?_
                refine b_icmp_ne B Xj283 (py := 334) (pn := 308) at_305 (by decide) (by decide) rfl (fun _ => ?_) (fun q => absurd q (fun z => by have := sm_inj (y := 2) (by omega) (by decide) z; omega))
                refine s_iload B Xj283 (pc' := 336) at_334 rfl rfl ?_
                refine s_iconst B Xj283 (pc' := 337) (v := (3 : Int32)) at_336 rfl rfl ?_
                refine b_icmp_ne B Xj283 (py := 361) (pn := 340) at_337 (by decide) (by decide) rfl (fun q => absurd (congrArg Int32.ofNat q59) q) (fun _ => ?_)
                refine s_aload B Xj283 (pc' := 342) at_340 rfl rfl rfl ?_
                refine s_iload B Xj283 (pc' := 344) at_342 rfl rfl ?_
                refine s_iloadN B Xj283 (pc' := 345) at_344 rfl rfl ?_
                refine s_bipush B Xj283 (pc' := 347) (v := (24 : Int32)) at_345 rfl rfl ?_
                refine s_iushr B Xj283 (pc' := 348) (v := ((i1.toUInt32 >>> ((24 : Int32) &&& 31).toUInt32).toInt32)) at_347 rfl rfl ?_
                refine s_i2b B Xj283 (pc' := 349) (v := ((i1.toUInt32 >>> ((24 : Int32) &&& 31).toUInt32).toInt32).toInt8.toInt32) at_348 rfl rfl ?_
                refine s_stBA B Xj283 (pc' := 350) (j := (2 + ln)) (x := ((i1.toUInt32 >>> ((24 : Int32) &&& 31).toUInt32).toInt32).toInt8.toInt32) ej283 Aj283 (by omega) (by omega) at_349 rfl (fun T64 h64 X64 e64 W64 Ab64 => ?_)
                have N64 := Fr.snoc X64 Nj283 ga
                have p64_0 : (updB f ((2 + ln)) (nar .byte ((i1.toUInt32 >>> ((24 : Int32) &&& 31).toUInt32).toInt32).toInt8.toInt32)) (0) &&& 255 = Int32.ofNat (48) := by rw [updB_ne (by omega)]; exact y283_0
                have p64_1 : (updB f ((2 + ln)) (nar .byte ((i1.toUInt32 >>> ((24 : Int32) &&& 31).toUInt32).toInt32).toInt8.toInt32)) (1) &&& 255 = Int32.ofNat (ln) := by rw [updB_ne (by omega)]; exact y283_1
                have p64_2 : (updB f ((2 + ln)) (nar .byte ((i1.toUInt32 >>> ((24 : Int32) &&& 31).toUInt32).toInt32).toInt8.toInt32)) (2) &&& 255 = Int32.ofNat (4) := by rw [updB_ne (by omega)]; exact y283_2
                have p64_3 : (updB f ((2 + ln)) (nar .byte ((i1.toUInt32 >>> ((24 : Int32) &&& 31).toUInt32).toInt32).toInt8.toInt32)) (3) &&& 255 = Int32.ofNat (n1) := by rw [updB_ne (by omega)]; exact y283_3
                show Go p e below _ (T64.setTop (mkF m 350 #[.val (.int i0), .val (.int i1), .val (.int (Int32.ofNat n1)), .val (.int (Int32.ofNat n2)), .val (.int (1 : Int32)), .val (.int (Int32.ofNat tl)), .val (.int (Int32.ofNat jk)), .val (.int (Int32.ofNat ln)), .val (.int (Int32.ofNat ex)), .val (.ref a), .val (.int (Int32.ofNat (2 + ln))), .unset, .unset, .unset] []))
                refine s_aload B X64 (pc' := 352) at_350 rfl rfl rfl ?_
                refine s_iload B X64 (pc' := 354) at_352 rfl rfl ?_
                refine s_iconst B X64 (pc' := 355) (v := (1 : Int32)) at_354 rfl rfl ?_
                refine s_iadd B X64 (pc' := 356) (v := (Int32.ofNat ((2 + ln) + 1))) at_355 (sm_add (x := (2 + ln)) (y := 1) (by omega) (by omega)) rfl ?_
                refine s_iloadN B X64 (pc' := 357) at_356 rfl rfl ?_
                refine s_iconst B X64 (pc' := 358) (v := (4 : Int32)) at_357 rfl rfl ?_
                refine s_iushr B X64 (pc' := 359) (v := ((i1.toUInt32 >>> ((4 : Int32) &&& 31).toUInt32).toInt32)) at_358 rfl rfl ?_
                refine s_i2b B X64 (pc' := 360) (v := ((i1.toUInt32 >>> ((4 : Int32) &&& 31).toUInt32).toInt32).toInt8.toInt32) at_359 rfl rfl ?_
                refine s_stBA B X64 (pc' := 361) (j := ((2 + ln) + 1)) (x := ((i1.toUInt32 >>> ((4 : Int32) &&& 31).toUInt32).toInt32).toInt8.toInt32) e64 Ab64 (by omega) (by omega) at_360 rfl (fun T65 h65 X65 e65 W65 Ab65 => ?_)
                have N65 := Fr.snoc X65 N64 ga
                have p65_0 : (updB (updB f ((2 + ln)) (nar .byte ((i1.toUInt32 >>> ((24 : Int32) &&& 31).toUInt32).toInt32).toInt8.toInt32)) (((2 + ln) + 1)) (nar .byte ((i1.toUInt32 >>> ((4 : Int32) &&& 31).toUInt32).toInt32).toInt8.toInt32)) (0) &&& 255 = Int32.ofNat (48) := by rw [updB_ne (by omega)]; exact p64_0
                have p65_1 : (updB (updB f ((2 + ln)) (nar .byte ((i1.toUInt32 >>> ((24 : Int32) &&& 31).toUInt32).toInt32).toInt8.toInt32)) (((2 + ln) + 1)) (nar .byte ((i1.toUInt32 >>> ((4 : Int32) &&& 31).toUInt32).toInt32).toInt8.toInt32)) (1) &&& 255 = Int32.ofNat (ln) := by rw [updB_ne (by omega)]; exact p64_1
                have p65_2 : (updB (updB f ((2 + ln)) (nar .byte ((i1.toUInt32 >>> ((24 : Int32) &&& 31).toUInt32).toInt32).toInt8.toInt32)) (((2 + ln) + 1)) (nar .byte ((i1.toUInt32 >>> ((4 : Int32) &&& 31).toUInt32).toInt32).toInt8.toInt32)) (2) &&& 255 = Int32.ofNat (4) := by rw [updB_ne (by omega)]; exact p64_2
                have p65_3 : (updB (updB f ((2 + ln)) (nar .byte ((i1.toUInt32 >>> ((24 : Int32) &&& 31).toUInt32).toInt32).toInt8.toInt32)) (((2 + ln) + 1)) (nar .byte ((i1.toUInt32 >>> ((4 : Int32) &&& 31).toUInt32).toInt32).toInt8.toInt32)) (3) &&& 255 = Int32.ofNat (n1) := by rw [updB_ne (by omega)]; exact p64_3
                show Go p e below _ (T65.setTop (mkF m 361 #[.val (.int i0), .val (.int i1), .val (.int (Int32.ofNat n1)), .val (.int (Int32.ofNat n2)), .val (.int (1 : Int32)), .val (.int (Int32.ofNat tl)), .val (.int (Int32.ofNat jk)), .val (.int (Int32.ofNat ln)), .val (.int (Int32.ofNat ex)), .val (.ref a), .val (.int (Int32.ofNat (2 + ln))), .unset, .unset, .unset] []))
                exact jn361 T65 h65 _ _ X65 e65 N65 Ab65 p65_0 p65_1 p65_2 p65_3 (fun z => by omega)
            show Go p e below _ (Tj211.setTop (mkF m 265 #[.val (.int i0), .val (.int i1), .val (.int (Int32.ofNat n1)), .val (.int (Int32.ofNat n2)), .val (.int (1 : Int32)), .val (.int (Int32.ofNat tl)), .val (.int (Int32.ofNat jk)), .val (.int (Int32.ofNat ln)), .val (.int (Int32.ofNat ex)), .val (.ref a), .val (.int (Int32.ofNat (2 + (2 + n1)))), .unset, .unset, .unset] []))
            rcases (by omega : jk = 0 ∨ jk = 1) with q66 | q66
            · refine s_iload B Xj211 (pc' := 267) at_265 rfl rfl ?_
              refine b_if_eq B Xj211 (py := 283) (pn := 270) at_267 (by decide) (by decide) rfl (fun _ => ?_) (fun q => absurd (congrArg Int32.ofNat q66) q)
              exact jn283 Tj211 hj211 _ _ _ Xj211 ej211 Nj211 Aj211 y211_0 y211_1 y211_2 y211_3 (by omega)
            · refine s_iload B Xj211 (pc' := 267) at_265 rfl rfl ?_
              refine b_if_eq B Xj211 (py := 283) (pn := 270) at_267 (by decide) (by decide) rfl (fun q => absurd q (fun z => by have := sm_inj (y := 0) (by omega) (by decide) z; omega)) (fun _ => ?_)
              refine s_aload B Xj211 (pc' := 272) at_270 rfl rfl rfl ?_
              refine s_iload B Xj211 (pc' := 274) at_272 rfl rfl ?_
              refine s_iloadN B Xj211 (pc' := 275) at_274 rfl rfl ?_
              refine s_bipush B Xj211 (pc' := 277) (v := (16 : Int32)) at_275 rfl rfl ?_
              refine s_iushr B Xj211 (pc' := 278) (v := ((i1.toUInt32 >>> ((16 : Int32) &&& 31).toUInt32).toInt32)) at_277 rfl rfl ?_
              refine s_i2b B Xj211 (pc' := 279) (v := ((i1.toUInt32 >>> ((16 : Int32) &&& 31).toUInt32).toInt32).toInt8.toInt32) at_278 rfl rfl ?_
              refine s_stBA B Xj211 (pc' := 280) (j := (2 + (2 + n1))) (x := ((i1.toUInt32 >>> ((16 : Int32) &&& 31).toUInt32).toInt32).toInt8.toInt32) ej211 Aj211 (by omega) (by omega) at_279 rfl (fun T67 h67 X67 e67 W67 Ab67 => ?_)
              have N67 := Fr.snoc X67 Nj211 ga
              have p67_0 : (updB f ((2 + (2 + n1))) (nar .byte ((i1.toUInt32 >>> ((16 : Int32) &&& 31).toUInt32).toInt32).toInt8.toInt32)) (0) &&& 255 = Int32.ofNat (48) := by rw [updB_ne (by omega)]; exact y211_0
              have p67_1 : (updB f ((2 + (2 + n1))) (nar .byte ((i1.toUInt32 >>> ((16 : Int32) &&& 31).toUInt32).toInt32).toInt8.toInt32)) (1) &&& 255 = Int32.ofNat (ln) := by rw [updB_ne (by omega)]; exact y211_1
              have p67_2 : (updB f ((2 + (2 + n1))) (nar .byte ((i1.toUInt32 >>> ((16 : Int32) &&& 31).toUInt32).toInt32).toInt8.toInt32)) (2) &&& 255 = Int32.ofNat (4) := by rw [updB_ne (by omega)]; exact y211_2
              have p67_3 : (updB f ((2 + (2 + n1))) (nar .byte ((i1.toUInt32 >>> ((16 : Int32) &&& 31).toUInt32).toInt32).toInt8.toInt32)) (3) &&& 255 = Int32.ofNat (n1) := by rw [updB_ne (by omega)]; exact y211_3
              show Go p e below _ (T67.setTop (mkF m 280 #[.val (.int i0), .val (.int i1), .val (.int (Int32.ofNat n1)), .val (.int (Int32.ofNat n2)), .val (.int (1 : Int32)), .val (.int (Int32.ofNat tl)), .val (.int (Int32.ofNat jk)), .val (.int (Int32.ofNat ln)), .val (.int (Int32.ofNat ex)), .val (.ref a), .val (.int (Int32.ofNat (2 + (2 + n1)))), .unset, .unset, .unset] []))
              refine s_iinc B X67 (pc' := 283) (v := (Int32.ofNat ((2 + (2 + n1)) + 1))) (Ls' := #[.val (.int i0), .val (.int i1), .val (.int (Int32.ofNat n1)), .val (.int (Int32.ofNat n2)), .val (.int (1 : Int32)), .val (.int (Int32.ofNat tl)), .val (.int (Int32.ofNat jk)), .val (.int (Int32.ofNat ln)), .val (.int (Int32.ofNat ex)), .val (.ref a), .val (.int (Int32.ofNat ((2 + (2 + n1)) + 1))), .unset, .unset, .unset]) at_280 rfl (sm_inc (by omega)) rfl rfl ?_
              exact jn283 T67 h67 _ _ _ X67 e67 N67 Ab67 p67_0 p67_1 p67_2 p67_3 (by omega)
          by_cases q68 : n1 < 1
          · refine s_iloadN B X37 (pc' := 198) at_197 rfl rfl ?_
            refine s_iconst B X37 (pc' := 199) (v := (1 : Int32)) at_198 rfl rfl ?_
            refine b_icmp_lt B X37 (py := 211) (pn := 202) at_199 (by decide) (by decide) rfl (fun _ => ?_) (fun q => absurd ((sm_lt (x := n1) (y := 1) (by omega) (by decide)).mpr q68) q)
            exact jn211 T37 h37 _ _ X37 e37 N37 Ab37 p37_0 p37_1 p37_2 p37_n 
          · refine s_iloadN B X37 (pc' := 198) at_197 rfl rfl ?_
            refine s_iconst B X37 (pc' := 199) (v := (1 : Int32)) at_198 rfl rfl ?_
            refine b_icmp_lt B X37 (py := 211) (pn := 202) at_199 (by decide) (by decide) rfl (fun q => absurd q (fun z => q68 ((sm_lt (x := n1) (y := 1) (by omega) (by decide)).mp z))) (fun _ => ?_)
            refine s_aload B X37 (pc' := 204) at_202 rfl rfl rfl ?_
            refine s_iload B X37 (pc' := 206) at_204 rfl rfl ?_
            refine s_iconst B X37 (pc' := 207) (v := (2 : Int32)) at_206 rfl rfl ?_
            refine s_iadd B X37 (pc' := 208) (v := (4 : Int32)) at_207 rfl rfl ?_
            refine s_iloadN B X37 (pc' := 209) at_208 rfl rfl ?_
            refine s_i2b B X37 (pc' := 210) (v := i1.toInt8.toInt32) at_209 rfl rfl ?_
            refine s_stBA B X37 (pc' := 211) (j := 4) (x := i1.toInt8.toInt32) e37 Ab37 (by omega) (by omega) at_210 rfl (fun T69 h69 X69 e69 W69 Ab69 => ?_)
            have N69 := Fr.snoc X69 N37 ga
            have p69_0 : (updB (updB (updB (updB (updB (fun _ => 0) (0) (nar .byte (48 : Int32))) (1) (nar .byte (Int32.ofNat ln))) (2) (nar .byte (4 : Int32))) (3) (nar .byte (Int32.ofNat n1))) (4) (nar .byte i1.toInt8.toInt32)) (0) &&& 255 = Int32.ofNat (48) := by rw [updB_ne (by omega)]; exact p37_0
            have p69_1 : (updB (updB (updB (updB (updB (fun _ => 0) (0) (nar .byte (48 : Int32))) (1) (nar .byte (Int32.ofNat ln))) (2) (nar .byte (4 : Int32))) (3) (nar .byte (Int32.ofNat n1))) (4) (nar .byte i1.toInt8.toInt32)) (1) &&& 255 = Int32.ofNat (ln) := by rw [updB_ne (by omega)]; exact p37_1
            have p69_2 : (updB (updB (updB (updB (updB (fun _ => 0) (0) (nar .byte (48 : Int32))) (1) (nar .byte (Int32.ofNat ln))) (2) (nar .byte (4 : Int32))) (3) (nar .byte (Int32.ofNat n1))) (4) (nar .byte i1.toInt8.toInt32)) (2) &&& 255 = Int32.ofNat (4) := by rw [updB_ne (by omega)]; exact p37_2
            have p69_3 : (updB (updB (updB (updB (updB (fun _ => 0) (0) (nar .byte (48 : Int32))) (1) (nar .byte (Int32.ofNat ln))) (2) (nar .byte (4 : Int32))) (3) (nar .byte (Int32.ofNat n1))) (4) (nar .byte i1.toInt8.toInt32)) (3) &&& 255 = Int32.ofNat (n1) := by rw [updB_ne (by omega)]; exact p37_n
            show Go p e below _ (T69.setTop (mkF m 211 #[.val (.int i0), .val (.int i1), .val (.int (Int32.ofNat n1)), .val (.int (Int32.ofNat n2)), .val (.int (1 : Int32)), .val (.int (Int32.ofNat tl)), .val (.int (Int32.ofNat jk)), .val (.int (Int32.ofNat ln)), .val (.int (Int32.ofNat ex)), .val (.ref a), .val (.int (2 : Int32)), .unset, .unset, .unset] []))
            exact jn211 T69 h69 _ _ X69 e69 N69 Ab69 p69_0 p69_1 p69_2 p69_3 
        rcases (by omega : tl = 0 ∨ tl = 1 ∨ tl = 2 ∨ tl = 3) with q70 | q70 | q70 | q70
        · refine s_iload B X0 (pc' := 119) at_117 rfl rfl ?_
          refine b_if_ne B X0 (py := 126) (pn := 122) at_119 (by decide) (by decide) rfl (fun q => absurd (congrArg Int32.ofNat q70) q) (fun _ => ?_)
          refine s_iconst B X0 (pc' := 123) (v := (0 : Int32)) at_122 rfl rfl ?_
          refine s_goto B X0 (pc' := 147) at_123 (by decide) (by decide) ?_
          exact jn147 0 (by omega)
        · refine s_iload B X0 (pc' := 119) at_117 rfl rfl ?_
          refine b_if_ne B X0 (py := 126) (pn := 122) at_119 (by decide) (by decide) rfl (fun _ => ?_) (fun q => absurd q (fun z => by have := sm_inj (y := 0) (by omega) (by decide) z; omega))
          refine s_iload B X0 (pc' := 128) at_126 rfl rfl ?_
          refine s_iconst B X0 (pc' := 129) (v := (1 : Int32)) at_128 rfl rfl ?_
          refine b_icmp_ne B X0 (py := 136) (pn := 132) at_129 (by decide) (by decide) rfl (fun q => absurd (congrArg Int32.ofNat q70) q) (fun _ => ?_)
          refine s_iconst B X0 (pc' := 133) (v := (1 : Int32)) at_132 rfl rfl ?_
          refine s_goto B X0 (pc' := 147) at_133 (by decide) (by decide) ?_
          exact jn147 1 (by omega)
        · refine s_iload B X0 (pc' := 119) at_117 rfl rfl ?_
          refine b_if_ne B X0 (py := 126) (pn := 122) at_119 (by decide) (by decide) rfl (fun _ => ?_) (fun q => absurd q (fun z => by have := sm_inj (y := 0) (by omega) (by decide) z; omega))
          refine s_iload B X0 (pc' := 128) at_126 rfl rfl ?_
          refine s_iconst B X0 (pc' := 129) (v := (1 : Int32)) at_128 rfl rfl ?_
          refine b_icmp_ne B X0 (py := 136) (pn := 132) at_129 (by decide) (by decide) rfl (fun _ => ?_) (fun q => absurd q (fun z => by have := sm_inj (y := 1) (by omega) (by decide) z; omega))
          refine s_iload B X0 (pc' := 138) at_136 rfl rfl ?_
          refine s_iconst B X0 (pc' := 139) (v := (2 : Int32)) at_138 rfl rfl ?_
          refine b_icmp_ne B X0 (py := 146) (pn := 142) at_139 (by decide) (by decide) rfl (fun q => absurd (congrArg Int32.ofNat q70) q) (fun _ => ?_)
          refine s_iconst B X0 (pc' := 143) (v := (3 : Int32)) at_142 rfl rfl ?_
          refine s_goto B X0 (pc' := 147) at_143 (by decide) (by decide) ?_
          exact jn147 3 (by omega)
        · refine s_iload B X0 (pc' := 119) at_117 rfl rfl ?_
          refine b_if_ne B X0 (py := 126) (pn := 122) at_119 (by decide) (by decide) rfl (fun _ => ?_) (fun q => absurd q (fun z => by have := sm_inj (y := 0) (by omega) (by decide) z; omega))
          refine s_iload B X0 (pc' := 128) at_126 rfl rfl ?_
          refine s_iconst B X0 (pc' := 129) (v := (1 : Int32)) at_128 rfl rfl ?_
          refine b_icmp_ne B X0 (py := 136) (pn := 132) at_129 (by decide) (by decide) rfl (fun _ => ?_) (fun q => absurd q (fun z => by have := sm_inj (y := 1) (by omega) (by decide) z; omega))
          refine s_iload B X0 (pc' := 138) at_136 rfl rfl ?_
          refine s_iconst B X0 (pc' := 139) (v := (2 : Int32)) at_138 rfl rfl ?_
          refine b_icmp_ne B X0 (py := 146) (pn := 142) at_139 (by decide) (by decide) rfl (fun _ => ?_) (fun q => absurd q (fun z => by have := sm_inj (y := 2) (by omega) (by decide) z; omega))
          refine s_iconst B X0 (pc' := 147) (v := (2 : Int32)) at_146 rfl rfl ?_
          exact jn147 2 (by omega)
      rcases (by omega : jk = 0 ∨ jk = 1) with q71 | q71
      · refine s_iload B X0 (pc' := 111) at_109 rfl rfl ?_
        refine b_if_eq B X0 (py := 117) (pn := 114) at_111 (by decide) (by decide) rfl (fun _ => ?_) (fun q => absurd (congrArg Int32.ofNat q71) q)
        exact jn117 _ (by omega)
      · refine s_iload B X0 (pc' := 111) at_109 rfl rfl ?_
        refine b_if_eq B X0 (py := 117) (pn := 114) at_111 (by decide) (by decide) rfl (fun q => absurd q (fun z => by have := sm_inj (y := 0) (by omega) (by decide) z; omega)) (fun _ => ?_)
        refine s_iinc B X0 (pc' := 117) (v := (Int32.ofNat ((0 + (2 + n1)) + 1))) (Ls' := #[.val (.int i0), .val (.int i1), .val (.int (Int32.ofNat n1)), .val (.int (Int32.ofNat n2)), .val (.int (1 : Int32)), .val (.int (Int32.ofNat tl)), .val (.int (Int32.ofNat jk)), .val (.int (Int32.ofNat ((0 + (2 + n1)) + 1))), .unset, .unset, .unset, .unset, .unset, .unset]) at_114 rfl (sm_inc (by omega)) rfl rfl ?_
        exact jn117 _ (by omega)
    · show Go p e below _ (s₁.setTop (mkF m 81 #[.val (.int i0), .val (.int i1), .val (.int (Int32.ofNat n1)), .val (.int (Int32.ofNat n2)), .val (.int (2 : Int32)), .val (.int (Int32.ofNat tl)), .val (.int (Int32.ofNat jk)), .val (.int (Int32.ofNat 0)), .unset, .unset, .unset, .unset, .unset, .unset] []))
      refine s_iload B X0 (pc' := 83) at_81 rfl rfl ?_
      refine s_iconst B X0 (pc' := 84) (v := (1 : Int32)) at_83 rfl rfl ?_
      refine s_icmpN B X0 (pc' := 87) at_84 (by decide) rfl ?_
      refine s_iload B X0 (pc' := 89) at_87 rfl rfl ?_
      refine s_iconst B X0 (pc' := 90) (v := (2 : Int32)) at_89 rfl rfl ?_
      refine s_iloadN B X0 (pc' := 91) at_90 rfl rfl ?_
      refine s_iadd B X0 (pc' := 92) (v := (Int32.ofNat (2 + n1))) at_91 (sm_add (x := 2) (y := n1) (by omega) (by omega)) rfl ?_
      refine s_iadd B X0 (pc' := 93) (v := (Int32.ofNat (0 + (2 + n1)))) at_92 (sm_add (x := 0) (y := (2 + n1)) (by omega) (by omega)) rfl ?_
      refine s_istore B X0 (pc' := 95) (Ls' := #[.val (.int i0), .val (.int i1), .val (.int (Int32.ofNat n1)), .val (.int (Int32.ofNat n2)), .val (.int (2 : Int32)), .val (.int (Int32.ofNat tl)), .val (.int (Int32.ofNat jk)), .val (.int (Int32.ofNat (0 + (2 + n1)))), .unset, .unset, .unset, .unset, .unset, .unset]) at_93 rfl rfl ?_
      refine s_iload B X0 (pc' := 97) at_95 rfl rfl ?_
      refine s_iconst B X0 (pc' := 98) (v := (2 : Int32)) at_97 rfl rfl ?_
      refine s_icmpN B X0 (pc' := 101) at_98 (by decide) rfl ?_
      refine s_iload B X0 (pc' := 103) at_101 rfl rfl ?_
      refine s_iconst B X0 (pc' := 104) (v := (2 : Int32)) at_103 rfl rfl ?_
      refine s_iloadN B X0 (pc' := 105) at_104 rfl rfl ?_
      refine s_iadd B X0 (pc' := 106) (v := (Int32.ofNat (2 + n2))) at_105 (sm_add (x := 2) (y := n2) (by omega) (by omega)) rfl ?_
      refine s_iadd B X0 (pc' := 107) (v := (Int32.ofNat ((0 + (2 + n1)) + (2 + n2)))) at_106 (sm_add (x := (0 + (2 + n1))) (y := (2 + n2)) (by omega) (by omega)) rfl ?_
      refine s_istore B X0 (pc' := 109) (Ls' := #[.val (.int i0), .val (.int i1), .val (.int (Int32.ofNat n1)), .val (.int (Int32.ofNat n2)), .val (.int (2 : Int32)), .val (.int (Int32.ofNat tl)), .val (.int (Int32.ofNat jk)), .val (.int (Int32.ofNat ((0 + (2 + n1)) + (2 + n2)))), .unset, .unset, .unset, .unset, .unset, .unset]) at_107 rfl rfl ?_
      have jn117 : ∀ ln : Nat, ln = ((0 + (2 + n1)) + (2 + n2)) + jk → Go p e below (OEnds s (fun v h L => v = some (.int 1) ∧ Fr Z.heap.size L) room_1.cells room_1.slots) (s₁.setTop (mkF m 117 #[.val (.int i0), .val (.int i1), .val (.int (Int32.ofNat n1)), .val (.int (Int32.ofNat n2)), .val (.int (2 : Int32)), .val (.int (Int32.ofNat tl)), .val (.int (Int32.ofNat jk)), .val (.int (Int32.ofNat ln)), .unset, .unset, .unset, .unset, .unset, .unset] [])) := by
        intro ln hln
        have jn147 : ∀ ex : Nat, ((tl = 0 ∧ ex = 0) ∨ (tl = 1 ∧ ex = 1) ∨ (tl = 2 ∧ ex = 3) ∨ (tl = 3 ∧ ex = 2)) → Go p e below (OEnds s (fun v h L => v = some (.int 1) ∧ Fr Z.heap.size L) room_1.cells room_1.slots) (s₁.setTop (mkF m 147 #[.val (.int i0), .val (.int i1), .val (.int (Int32.ofNat n1)), .val (.int (Int32.ofNat n2)), .val (.int (2 : Int32)), .val (.int (Int32.ofNat tl)), .val (.int (Int32.ofNat jk)), .val (.int (Int32.ofNat ln)), .unset, .unset, .unset, .unset, .unset, .unset] [.int (Int32.ofNat ex)])) := by
          intro ex hex
          have hex3 : ex ≤ 3 := by omega
          refine s_istore B X0 (pc' := 149) (Ls' := #[.val (.int i0), .val (.int i1), .val (.int (Int32.ofNat n1)), .val (.int (Int32.ofNat n2)), .val (.int (2 : Int32)), .val (.int (Int32.ofNat tl)), .val (.int (Int32.ofNat jk)), .val (.int (Int32.ofNat ln)), .val (.int (Int32.ofNat ex)), .unset, .unset, .unset, .unset, .unset]) at_147 rfl rfl ?_
          refine s_iconst B X0 (pc' := 150) (v := (2 : Int32)) at_149 rfl rfl ?_
          refine s_iload B X0 (pc' := 152) at_150 rfl rfl ?_
          refine s_iadd B X0 (pc' := 153) (v := (Int32.ofNat (2 + ln))) at_152 (sm_add (x := 2) (y := ln) (by omega) (by omega)) rfl ?_
          refine s_iload B X0 (pc' := 155) at_153 rfl rfl ?_
          refine s_iadd B X0 (pc' := 156) (v := (Int32.ofNat ((2 + ln) + ex))) at_155 (sm_add (x := (2 + ln)) (y := ex) (by omega) (by omega)) rfl ?_
          refine s_newP B X0 (pc' := 158) (aty := .byte) (N := ((2 + ln) + ex)) (cap := 18) e0 (tw3 hw) (osm (by omega)).1 (osm (by omega)).2 (by omega) (by decide) (by decide) (by decide) at_156 rfl (fun T72 h72 a k72 g72 X72 e72 E72 A72 => ?_)
          have ga : Z.heap.size ≤ a := Nat.le_of_eq g72.symm
          have Ab72 : BA Z h72 a (((2 + ln) + ex)) (fun _ => 0) := ⟨⟨k72, A72.congr fun i _ => rfl⟩, fun _ _ => rfl⟩
          show Go p e below _ (T72.setTop (mkF m 158 #[.val (.int i0), .val (.int i1), .val (.int (Int32.ofNat n1)), .val (.int (Int32.ofNat n2)), .val (.int (2 : Int32)), .val (.int (Int32.ofNat tl)), .val (.int (Int32.ofNat jk)), .val (.int (Int32.ofNat ln)), .val (.int (Int32.ofNat ex)), .unset, .unset, .unset, .unset, .unset] [(.ref a)]))
          refine s_astore B X72 (pc' := 160) (Ls' := #[.val (.int i0), .val (.int i1), .val (.int (Int32.ofNat n1)), .val (.int (Int32.ofNat n2)), .val (.int (2 : Int32)), .val (.int (Int32.ofNat tl)), .val (.int (Int32.ofNat jk)), .val (.int (Int32.ofNat ln)), .val (.int (Int32.ofNat ex)), .val (.ref a), .unset, .unset, .unset, .unset]) at_158 rfl rfl rfl ?_
          refine s_aload B X72 (pc' := 162) at_160 rfl rfl rfl ?_
          refine s_iconst B X72 (pc' := 163) (v := (0 : Int32)) at_162 rfl rfl ?_
          refine s_bipush B X72 (pc' := 165) (v := (48 : Int32)) at_163 rfl rfl ?_
          refine s_stBA B X72 (pc' := 166) (j := 0) (x := (48 : Int32)) e72 Ab72 (by omega) (by omega) at_165 rfl (fun T73 h73 X73 e73 W73 Ab73 => ?_)
          have N73 := Fr.snoc X73 (Fr.nil _) ga
          have p73_n : (updB (fun _ => 0) (0) (nar .byte (48 : Int32))) (0) &&& 255 = Int32.ofNat (48) := by rw [updB_same]; exact own_nb (x := 48) (by decide)
          show Go p e below _ (T73.setTop (mkF m 166 #[.val (.int i0), .val (.int i1), .val (.int (Int32.ofNat n1)), .val (.int (Int32.ofNat n2)), .val (.int (2 : Int32)), .val (.int (Int32.ofNat tl)), .val (.int (Int32.ofNat jk)), .val (.int (Int32.ofNat ln)), .val (.int (Int32.ofNat ex)), .val (.ref a), .unset, .unset, .unset, .unset] []))
          refine s_aload B X73 (pc' := 168) at_166 rfl rfl rfl ?_
          refine s_iconst B X73 (pc' := 169) (v := (1 : Int32)) at_168 rfl rfl ?_
          refine s_iload B X73 (pc' := 171) at_169 rfl rfl ?_
          refine s_i2b B X73 (pc' := 172) (v := (Int32.ofNat ln)) at_171 ((sm_b (by omega)).1) rfl ?_
          refine s_stBA B X73 (pc' := 173) (j := 1) (x := (Int32.ofNat ln)) e73 Ab73 (by omega) (by omega) at_172 rfl (fun T74 h74 X74 e74 W74 Ab74 => ?_)
          have N74 := Fr.snoc X74 N73 ga
          have p74_0 : (updB (updB (fun _ => 0) (0) (nar .byte (48 : Int32))) (1) (nar .byte (Int32.ofNat ln))) (0) &&& 255 = Int32.ofNat (48) := by rw [updB_ne (by omega)]; exact p73_n
          have p74_n : (updB (updB (fun _ => 0) (0) (nar .byte (48 : Int32))) (1) (nar .byte (Int32.ofNat ln))) (1) &&& 255 = Int32.ofNat (ln) := by rw [updB_same]; exact own_nb (x := ln) (by omega)
          show Go p e below _ (T74.setTop (mkF m 173 #[.val (.int i0), .val (.int i1), .val (.int (Int32.ofNat n1)), .val (.int (Int32.ofNat n2)), .val (.int (2 : Int32)), .val (.int (Int32.ofNat tl)), .val (.int (Int32.ofNat jk)), .val (.int (Int32.ofNat ln)), .val (.int (Int32.ofNat ex)), .val (.ref a), .unset, .unset, .unset, .unset] []))
          refine s_iconst B X74 (pc' := 174) (v := (2 : Int32)) at_173 rfl rfl ?_
          refine s_istore B X74 (pc' := 176) (Ls' := #[.val (.int i0), .val (.int i1), .val (.int (Int32.ofNat n1)), .val (.int (Int32.ofNat n2)), .val (.int (2 : Int32)), .val (.int (Int32.ofNat tl)), .val (.int (Int32.ofNat jk)), .val (.int (Int32.ofNat ln)), .val (.int (Int32.ofNat ex)), .val (.ref a), .val (.int (2 : Int32)), .unset, .unset, .unset]) at_174 rfl rfl ?_
          refine s_iload B X74 (pc' := 178) at_176 rfl rfl ?_
          refine s_iconst B X74 (pc' := 179) (v := (1 : Int32)) at_178 rfl rfl ?_
          refine s_icmpN B X74 (pc' := 182) at_179 (by decide) rfl ?_
          refine s_aload B X74 (pc' := 184) at_182 rfl rfl rfl ?_
          refine s_iload B X74 (pc' := 186) at_184 rfl rfl ?_
          refine s_iconst B X74 (pc' := 187) (v := (4 : Int32)) at_186 rfl rfl ?_
          refine s_stBA B X74 (pc' := 188) (j := 2) (x := (4 : Int32)) e74 Ab74 (by omega) (by omega) at_187 rfl (fun T75 h75 X75 e75 W75 Ab75 => ?_)
          have N75 := Fr.snoc X75 N74 ga
          have p75_0 : (updB (updB (updB (fun _ => 0) (0) (nar .byte (48 : Int32))) (1) (nar .byte (Int32.ofNat ln))) (2) (nar .byte (4 : Int32))) (0) &&& 255 = Int32.ofNat (48) := by rw [updB_ne (by omega)]; exact p74_0
          have p75_1 : (updB (updB (updB (fun _ => 0) (0) (nar .byte (48 : Int32))) (1) (nar .byte (Int32.ofNat ln))) (2) (nar .byte (4 : Int32))) (1) &&& 255 = Int32.ofNat (ln) := by rw [updB_ne (by omega)]; exact p74_n
          have p75_n : (updB (updB (updB (fun _ => 0) (0) (nar .byte (48 : Int32))) (1) (nar .byte (Int32.ofNat ln))) (2) (nar .byte (4 : Int32))) (2) &&& 255 = Int32.ofNat (4) := by rw [updB_same]; exact own_nb (x := 4) (by decide)
          show Go p e below _ (T75.setTop (mkF m 188 #[.val (.int i0), .val (.int i1), .val (.int (Int32.ofNat n1)), .val (.int (Int32.ofNat n2)), .val (.int (2 : Int32)), .val (.int (Int32.ofNat tl)), .val (.int (Int32.ofNat jk)), .val (.int (Int32.ofNat ln)), .val (.int (Int32.ofNat ex)), .val (.ref a), .val (.int (2 : Int32)), .unset, .unset, .unset] []))
          refine s_aload B X75 (pc' := 190) at_188 rfl rfl rfl ?_
          refine s_iload B X75 (pc' := 192) at_190 rfl rfl ?_
          refine s_iconst B X75 (pc' := 193) (v := (1 : Int32)) at_192 rfl rfl ?_
          refine s_iadd B X75 (pc' := 194) (v := (3 : Int32)) at_193 rfl rfl ?_
          refine s_iloadN B X75 (pc' := 195) at_194 rfl rfl ?_
          refine s_i2b B X75 (pc' := 196) (v := (Int32.ofNat n1)) at_195 ((sm_b (by omega)).1) rfl ?_
          refine s_stBA B X75 (pc' := 197) (j := 3) (x := (Int32.ofNat n1)) e75 Ab75 (by omega) (by omega) at_196 rfl (fun T76 h76 X76 e76 W76 Ab76 => ?_)
          have N76 := Fr.snoc X76 N75 ga
          have p76_0 : (updB (updB (updB (updB (fun _ => 0) (0) (nar .byte (48 : Int32))) (1) (nar .byte (Int32.ofNat ln))) (2) (nar .byte (4 : Int32))) (3) (nar .byte (Int32.ofNat n1))) (0) &&& 255 = Int32.ofNat (48) := by rw [updB_ne (by omega)]; exact p75_0
          have p76_1 : (updB (updB (updB (updB (fun _ => 0) (0) (nar .byte (48 : Int32))) (1) (nar .byte (Int32.ofNat ln))) (2) (nar .byte (4 : Int32))) (3) (nar .byte (Int32.ofNat n1))) (1) &&& 255 = Int32.ofNat (ln) := by rw [updB_ne (by omega)]; exact p75_1
          have p76_2 : (updB (updB (updB (updB (fun _ => 0) (0) (nar .byte (48 : Int32))) (1) (nar .byte (Int32.ofNat ln))) (2) (nar .byte (4 : Int32))) (3) (nar .byte (Int32.ofNat n1))) (2) &&& 255 = Int32.ofNat (4) := by rw [updB_ne (by omega)]; exact p75_n
          have p76_n : (updB (updB (updB (updB (fun _ => 0) (0) (nar .byte (48 : Int32))) (1) (nar .byte (Int32.ofNat ln))) (2) (nar .byte (4 : Int32))) (3) (nar .byte (Int32.ofNat n1))) (3) &&& 255 = Int32.ofNat (n1) := by rw [updB_same]; exact own_nb (x := n1) (by omega)
          show Go p e below _ (T76.setTop (mkF m 197 #[.val (.int i0), .val (.int i1), .val (.int (Int32.ofNat n1)), .val (.int (Int32.ofNat n2)), .val (.int (2 : Int32)), .val (.int (Int32.ofNat tl)), .val (.int (Int32.ofNat jk)), .val (.int (Int32.ofNat ln)), .val (.int (Int32.ofNat ex)), .val (.ref a), .val (.int (2 : Int32)), .unset, .unset, .unset] []))
          have jn211 : ∀ (T : State) (h : Heap) (Lc : List Loc) (f : Nat → Int32), Stand p l e room_1 s m #[(.int i0), (.int i1)] below meth c T Lc 1 18 → T.heap = h → Fr Z.heap.size Lc → BA Z h a (((2 + ln) + ex)) f → f (0) &&& 255 = Int32.ofNat (48) → f (1) &&& 255 = Int32.ofNat (ln) → f (2) &&& 255 = Int32.ofNat (4) → f (3) &&& 255 = Int32.ofNat (n1) → Go p e below (OEnds s (fun v h L => v = some (.int 1) ∧ Fr Z.heap.size L) room_1.cells room_1.slots) (T.setTop (mkF m 211 #[.val (.int i0), .val (.int i1), .val (.int (Int32.ofNat n1)), .val (.int (Int32.ofNat n2)), .val (.int (2 : Int32)), .val (.int (Int32.ofNat tl)), .val (.int (Int32.ofNat jk)), .val (.int (Int32.ofNat ln)), .val (.int (Int32.ofNat ex)), .val (.ref a), .val (.int (2 : Int32)), .unset, .unset, .unset] [])) := by
            intro Tj211 hj211 Lj211 f Xj211 ej211 Nj211 Aj211 y211_0 y211_1 y211_2 y211_3 
            refine s_iload B Xj211 (pc' := 213) at_211 rfl rfl ?_
            refine s_iconst B Xj211 (pc' := 214) (v := (2 : Int32)) at_213 rfl rfl ?_
            refine s_iloadN B Xj211 (pc' := 215) at_214 rfl rfl ?_
            refine s_iadd B Xj211 (pc' := 216) (v := (Int32.ofNat (2 + n1))) at_215 (sm_add (x := 2) (y := n1) (by omega) (by omega)) rfl ?_
            refine s_iadd B Xj211 (pc' := 217) (v := (Int32.ofNat (2 + (2 + n1)))) at_216 (sm_add (x := 2) (y := (2 + n1)) (by omega) (by omega)) rfl ?_
            refine s_istore B Xj211 (pc' := 219) (Ls' := #[.val (.int i0), .val (.int i1), .val (.int (Int32.ofNat n1)), .val (.int (Int32.ofNat n2)), .val (.int (2 : Int32)), .val (.int (Int32.ofNat tl)), .val (.int (Int32.ofNat jk)), .val (.int (Int32.ofNat ln)), .val (.int (Int32.ofNat ex)), .val (.ref a), .val (.int (Int32.ofNat (2 + (2 + n1)))), .unset, .unset, .unset]) at_217 rfl rfl ?_
            refine s_iload B Xj211 (pc' := 221) at_219 rfl rfl ?_
            refine s_iconst B Xj211 (pc' := 222) (v := (2 : Int32)) at_221 rfl rfl ?_
            refine s_icmpN B Xj211 (pc' := 225) at_222 (by decide) rfl ?_
            refine s_aload B Xj211 (pc' := 227) at_225 rfl rfl rfl ?_
            refine s_iload B Xj211 (pc' := 229) at_227 rfl rfl ?_
            refine s_iconst B Xj211 (pc' := 230) (v := (4 : Int32)) at_229 rfl rfl ?_
            refine s_stBA B Xj211 (pc' := 231) (j := (2 + (2 + n1))) (x := (4 : Int32)) ej211 Aj211 (by omega) (by omega) at_230 rfl (fun T77 h77 X77 e77 W77 Ab77 => ?_)
            have N77 := Fr.snoc X77 Nj211 ga
            have p77_0 : (updB f ((2 + (2 + n1))) (nar .byte (4 : Int32))) (0) &&& 255 = Int32.ofNat (48) := by rw [updB_ne (by omega)]; exact y211_0
            have p77_1 : (updB f ((2 + (2 + n1))) (nar .byte (4 : Int32))) (1) &&& 255 = Int32.ofNat (ln) := by rw [updB_ne (by omega)]; exact y211_1
            have p77_2 : (updB f ((2 + (2 + n1))) (nar .byte (4 : Int32))) (2) &&& 255 = Int32.ofNat (4) := by rw [updB_ne (by omega)]; exact y211_2
            have p77_3 : (updB f ((2 + (2 + n1))) (nar .byte (4 : Int32))) (3) &&& 255 = Int32.ofNat (n1) := by rw [updB_ne (by omega)]; exact y211_3
            have p77_n : (updB f ((2 + (2 + n1))) (nar .byte (4 : Int32))) ((2 + (2 + n1))) &&& 255 = Int32.ofNat (4) := by rw [updB_same]; exact own_nb (x := 4) (by decide)
            show Go p e below _ (T77.setTop (mkF m 231 #[.val (.int i0), .val (.int i1), .val (.int (Int32.ofNat n1)), .val (.int (Int32.ofNat n2)), .val (.int (2 : Int32)), .val (.int (Int32.ofNat tl)), .val (.int (Int32.ofNat jk)), .val (.int (Int32.ofNat ln)), .val (.int (Int32.ofNat ex)), .val (.ref a), .val (.int (Int32.ofNat (2 + (2 + n1)))), .unset, .unset, .unset] []))
            refine s_aload B X77 (pc' := 233) at_231 rfl rfl rfl ?_
            refine s_iload B X77 (pc' := 235) at_233 rfl rfl ?_
            refine s_iconst B X77 (pc' := 236) (v := (1 : Int32)) at_235 rfl rfl ?_
            refine s_iadd B X77 (pc' := 237) (v := (Int32.ofNat ((2 + (2 + n1)) + 1))) at_236 (sm_add (x := (2 + (2 + n1))) (y := 1) (by omega) (by omega)) rfl ?_
            refine s_iloadN B X77 (pc' := 238) at_237 rfl rfl ?_
            refine s_i2b B X77 (pc' := 239) (v := (Int32.ofNat n2)) at_238 ((sm_b (by omega)).1) rfl ?_
            refine s_stBA B X77 (pc' := 240) (j := ((2 + (2 + n1)) + 1)) (x := (Int32.ofNat n2)) e77 Ab77 (by omega) (by omega) at_239 rfl (fun T78 h78 X78 e78 W78 Ab78 => ?_)
            have N78 := Fr.snoc X78 N77 ga
            have p78_0 : (updB (updB f ((2 + (2 + n1))) (nar .byte (4 : Int32))) (((2 + (2 + n1)) + 1)) (nar .byte (Int32.ofNat n2))) (0) &&& 255 = Int32.ofNat (48) := by rw [updB_ne (by omega)]; exact p77_0
            have p78_1 : (updB (updB f ((2 + (2 + n1))) (nar .byte (4 : Int32))) (((2 + (2 + n1)) + 1)) (nar .byte (Int32.ofNat n2))) (1) &&& 255 = Int32.ofNat (ln) := by rw [updB_ne (by omega)]; exact p77_1
            have p78_2 : (updB (updB f ((2 + (2 + n1))) (nar .byte (4 : Int32))) (((2 + (2 + n1)) + 1)) (nar .byte (Int32.ofNat n2))) (2) &&& 255 = Int32.ofNat (4) := by rw [updB_ne (by omega)]; exact p77_2
            have p78_3 : (updB (updB f ((2 + (2 + n1))) (nar .byte (4 : Int32))) (((2 + (2 + n1)) + 1)) (nar .byte (Int32.ofNat n2))) (3) &&& 255 = Int32.ofNat (n1) := by rw [updB_ne (by omega)]; exact p77_3
            have p78_4 : (updB (updB f ((2 + (2 + n1))) (nar .byte (4 : Int32))) (((2 + (2 + n1)) + 1)) (nar .byte (Int32.ofNat n2))) ((2 + (2 + n1))) &&& 255 = Int32.ofNat (4) := by rw [updB_ne (by omega)]; exact p77_n
            have p78_n : (updB (updB f ((2 + (2 + n1))) (nar .byte (4 : Int32))) (((2 + (2 + n1)) + 1)) (nar .byte (Int32.ofNat n2))) (((2 + (2 + n1)) + 1)) &&& 255 = Int32.ofNat (n2) := by rw [updB_same]; exact own_nb (x := n2) (by omega)
            show Go p e below _ (T78.setTop (mkF m 240 #[.val (.int i0), .val (.int i1), .val (.int (Int32.ofNat n1)), .val (.int (Int32.ofNat n2)), .val (.int (2 : Int32)), .val (.int (Int32.ofNat tl)), .val (.int (Int32.ofNat jk)), .val (.int (Int32.ofNat ln)), .val (.int (Int32.ofNat ex)), .val (.ref a), .val (.int (Int32.ofNat (2 + (2 + n1)))), .unset, .unset, .unset] []))
            have jn257 : ∀ (T : State) (h : Heap) (Lc : List Loc) (f : Nat → Int32), Stand p l e room_1 s m #[(.int i0), (.int i1)] below meth c T Lc 1 18 → T.heap = h → Fr Z.heap.size Lc → BA Z h a (((2 + ln) + ex)) f → f (0) &&& 255 = Int32.ofNat (48) → f (1) &&& 255 = Int32.ofNat (ln) → f (2) &&& 255 = Int32.ofNat (4) → f (3) &&& 255 = Int32.ofNat (n1) → f ((2 + (2 + n1))) &&& 255 = Int32.ofNat (4) → f (((2 + (2 + n1)) + 1)) &&& 255 = Int32.ofNat (n2) → Go p e below (OEnds s (fun v h L => v = some (.int 1) ∧ Fr Z.heap.size L) room_1.cells room_1.slots) (T.setTop (mkF m 257 #[.val (.int i0), .val (.int i1), .val (.int (Int32.ofNat n1)), .val (.int (Int32.ofNat n2)), .val (.int (2 : Int32)), .val (.int (Int32.ofNat tl)), .val (.int (Int32.ofNat jk)), .val (.int (Int32.ofNat ln)), .val (.int (Int32.ofNat ex)), .val (.ref a), .val (.int (Int32.ofNat (2 + (2 + n1)))), .unset, .unset, .unset] [])) := by
              intro Tj257 hj257 Lj257 f Xj257 ej257 Nj257 Aj257 y257_0 y257_1 y257_2 y257_3 y257_4 y257_5 
              refine s_iload B Xj257 (pc' := 259) at_257 rfl rfl ?_
              refine s_iconst B Xj257 (pc' := 260) (v := (2 : Int32)) at_259 rfl rfl ?_
              refine s_iloadN B Xj257 (pc' := 261) at_260 rfl rfl ?_
              refine s_iadd B Xj257 (pc' := 262) (v := (Int32.ofNat (2 + n2))) at_261 (sm_add (x := 2) (y := n2) (by omega) (by omega)) rfl ?_
              refine s_iadd B Xj257 (pc' := 263) (v := (Int32.ofNat ((2 + (2 + n1)) + (2 + n2)))) at_262 (sm_add (x := (2 + (2 + n1))) (y := (2 + n2)) (by omega) (by omega)) rfl ?_
              refine s_istore B Xj257 (pc' := 265) (Ls' := #[.val (.int i0), .val (.int i1), .val (.int (Int32.ofNat n1)), .val (.int (Int32.ofNat n2)), .val (.int (2 : Int32)), .val (.int (Int32.ofNat tl)), .val (.int (Int32.ofNat jk)), .val (.int (Int32.ofNat ln)), .val (.int (Int32.ofNat ex)), .val (.ref a), .val (.int (Int32.ofNat ((2 + (2 + n1)) + (2 + n2)))), .unset, .unset, .unset]) at_263 rfl rfl ?_
              have hix : ((2 + (2 + n1)) + (2 + n2)) + jk = 2 + ln := by omega
              have jn283 : ∀ (T : State) (h : Heap) (Lc : List Loc) (f : Nat → Int32) (ix : Nat), Stand p l e room_1 s m #[(.int i0), (.int i1)] below meth c T Lc 1 18 → T.heap = h → Fr Z.heap.size Lc → BA Z h a (((2 + ln) + ex)) f → f (0) &&& 255 = Int32.ofNat (48) → f (1) &&& 255 = Int32.ofNat (ln) → f (2) &&& 255 = Int32.ofNat (4) → f (3) &&& 255 = Int32.ofNat (n1) → f ((2 + (2 + n1))) &&& 255 = Int32.ofNat (4) → f (((2 + (2 + n1)) + 1)) &&& 255 = Int32.ofNat (n2) → ix = 2 + ln → Go p e below (OEnds s (fun v h L => v = some (.int 1) ∧ Fr Z.heap.size L) room_1.cells room_1.slots) (T.setTop (mkF m 283 #[.val (.int i0), .val (.int i1), .val (.int (Int32.ofNat n1)), .val (.int (Int32.ofNat n2)), .val (.int (2 : Int32)), .val (.int (Int32.ofNat tl)), .val (.int (Int32.ofNat jk)), .val (.int (Int32.ofNat ln)), .val (.int (Int32.ofNat ex)), .val (.ref a), .val (.int (Int32.ofNat ix)), .unset, .unset, .unset] [])) := by
                intro Tj283 hj283 Lj283 f ix Xj283 ej283 Nj283 Aj283 y283_0 y283_1 y283_2 y283_3 y283_4 y283_5 hixx
                subst hixx
                show Go p e below _ (Tj283.setTop (mkF m 283 #[.val (.int i0), .val (.int i1), .val (.int (Int32.ofNat n1)), .val (.int (Int32.ofNat n2)), .val (.int (2 : Int32)), .val (.int (Int32.ofNat tl)), .val (.int (Int32.ofNat jk)), .val (.int (Int32.ofNat ln)), .val (.int (Int32.ofNat ex)), .val (.ref a), .val (.int (Int32.ofNat (2 + ln))), .unset, .unset, .unset] []))
                have jn361 : ∀ (T : State) (h : Heap) (Lc : List Loc) (f : Nat → Int32), Stand p l e room_1 s m #[(.int i0), (.int i1)] below meth c T Lc 1 18 → T.heap = h → Fr Z.heap.size Lc → BA Z h a (((2 + ln) + ex)) f → f (0) &&& 255 = Int32.ofNat (48) → f (1) &&& 255 = Int32.ofNat (ln) → f (2) &&& 255 = Int32.ofNat (4) → f (3) &&& 255 = Int32.ofNat (n1) → f ((2 + (2 + n1))) &&& 255 = Int32.ofNat (4) → f (((2 + (2 + n1)) + 1)) &&& 255 = Int32.ofNat (n2) → (tl = 2 → f (2 + ln) &&& 255 = Int32.ofNat 1 ∧ f (2 + ln + 1) &&& 255 = Int32.ofNat 1) → Go p e below (OEnds s (fun v h L => v = some (.int 1) ∧ Fr Z.heap.size L) room_1.cells room_1.slots) (T.setTop (mkF m 361 #[.val (.int i0), .val (.int i1), .val (.int (Int32.ofNat n1)), .val (.int (Int32.ofNat n2)), .val (.int (2 : Int32)), .val (.int (Int32.ofNat tl)), .val (.int (Int32.ofNat jk)), .val (.int (Int32.ofNat ln)), .val (.int (Int32.ofNat ex)), .val (.ref a), .val (.int (Int32.ofNat (2 + ln))), .unset, .unset, .unset] [])) := by
                  intro Tj361 hj361 Lj361 f Xj361 ej361 Nj361 Aj361 y361_0 y361_1 y361_2 y361_3 y361_4 y361_5 hb2
                  refine s_new B Xj361 (pc' := 364) (n0 := 3) ej361 (tw0 hw) (tw1 hw) (tw2 hw) (by decide) (by decide) at_361 rfl (fun T79 h79 r g79 X79 e79 E79 A79 D79 => ?_)
                  have Kx79 := (Keep.refl hj361 []).ext E79
                  have lr : hj361.size ≤ r := Nat.le_of_eq g79.symm
                  have gr : Z.heap.size ≤ r := Nat.le_trans (Nat.le_trans ga (Nat.le_of_lt Aj361.lt)) lr
                  have ar : a ≠ r := Nat.ne_of_lt (Nat.lt_of_lt_of_le Aj361.lt lr)
                  have A79' := Aj361.keep Kx79 nin0
                  have D79_bytes : Fld Z h79 r "com/example/waymark/waymark/ber/BerReader" "bytes" "[B" .null := D79 (Or.inr (tw14 hw)) (ty := (.array .byte)) (by decide)
                  have D79_position : Fld Z h79 r "com/example/waymark/waymark/ber/BerReader" "position" "I" (.int (0 : Int32)) := D79 (Or.inl (tw16 hw)) (ty := .int) (by decide)
                  have D79_end : Fld Z h79 r "com/example/waymark/waymark/ber/BerReader" "end" "I" (.int (0 : Int32)) := D79 (Or.inr (tw18 hw)) (ty := .int) (by decide)
                  show Go p e below _ (T79.setTop (mkF m 364 #[.val (.int i0), .val (.int i1), .val (.int (Int32.ofNat n1)), .val (.int (Int32.ofNat n2)), .val (.int (2 : Int32)), .val (.int (Int32.ofNat tl)), .val (.int (Int32.ofNat jk)), .val (.int (Int32.ofNat ln)), .val (.int (Int32.ofNat ex)), .val (.ref a), .val (.int (Int32.ofNat (2 + ln))), .unset, .unset, .unset] [(.ref r)]))
                  refine s_dup B X79 (pc' := 365) at_364 rfl rfl ?_
                  refine s_aload B X79 (pc' := 367) at_365 rfl rfl rfl ?_
                  refine c_init B X79 (y := mn7) (pc' := 370) (argsL := [(.ref a)]) (under := [(.ref r)]) (W := 1) e79 rfl (tw4 hw) (tw5 hw) (tw6 hw) (tw2 hw) (by decide) (rm_init1 l Z a0 hw r a (((2 + ln) + ex)) _ h79 gr A79 D79_bytes D79_position D79_end A79')  (lenOf pd_4 rfl) rfl rfl (by decide) (by decide) (by decide) (by decide) rfl at_367 rfl (fun v80 T80 L80 X80 hQ80 => ?_)
                  obtain ⟨rfl, Nq80, Kq80, Er, C1, C2, C3⟩ := hQ80
                  obtain ⟨h80, e80⟩ : ∃ z, T80.heap = z := ⟨_, rfl⟩
                  rw [e80] at Kq80 Er C1 C2 C3
                  have N80 := Fr.app Nj361 Nq80
                  have Ab80 := A79'.keep Kq80 (ninS ar nin0)
                  have R80 : RD Z h80 r a (((2 + ln) + ex)) f 0 (((2 + ln) + ex)) := ⟨Er, ⟨C1, C2, C3⟩, Ab80, ⟨gr, ga, ar⟩, Nat.zero_le _, Nat.le_refl _, by omega⟩
                  show Go p e below _ (T80.setTop (mkF m 370 #[.val (.int i0), .val (.int i1), .val (.int (Int32.ofNat n1)), .val (.int (Int32.ofNat n2)), .val (.int (2 : Int32)), .val (.int (Int32.ofNat tl)), .val (.int (Int32.ofNat jk)), .val (.int (Int32.ofNat ln)), .val (.int (Int32.ofNat ex)), .val (.ref a), .val (.int (Int32.ofNat (2 + ln))), .unset, .unset, .unset] [(.ref r)]))
                  refine s_astore B X80 (pc' := 372) (Ls' := #[.val (.int i0), .val (.int i1), .val (.int (Int32.ofNat n1)), .val (.int (Int32.ofNat n2)), .val (.int (2 : Int32)), .val (.int (Int32.ofNat tl)), .val (.int (Int32.ofNat jk)), .val (.int (Int32.ofNat ln)), .val (.int (Int32.ofNat ex)), .val (.ref a), .val (.int (Int32.ofNat (2 + ln))), .val (.ref r), .unset, .unset]) at_370 rfl rfl rfl ?_
                  refine s_aload B X80 (pc' := 374) at_372 rfl rfl rfl ?_
                  refine p_virtual B X80 (y := mn0) (pc' := 377) (argsL := []) (under := []) (W := 0) e80 (tw19 hw) (tw20 hw) (tw22 hw) (tw21 hw) (tw23 hw) (tw2 hw) (by decide) (rm_has l Z a0 hw r a (((2 + ln) + ex)) _ (0) (((2 + ln) + ex)) 1 h80 R80 (if_pos (by omega))) R80.1 (lenOf pd_5 rfl) rfl rfl (by decide) (by decide) rfl rfl (by decide) (by decide) rfl at_374 rfl (fun T81 X81 e81 => ?_)
                  show Go p e below _ (T81.setTop (mkF m 377 #[.val (.int i0), .val (.int i1), .val (.int (Int32.ofNat n1)), .val (.int (Int32.ofNat n2)), .val (.int (2 : Int32)), .val (.int (Int32.ofNat tl)), .val (.int (Int32.ofNat jk)), .val (.int (Int32.ofNat ln)), .val (.int (Int32.ofNat ex)), .val (.ref a), .val (.int (Int32.ofNat (2 + ln))), .val (.ref r), .unset, .unset] [(.int (1 : Int32))]))
                  refine s_istore B X81 (pc' := 379) (Ls' := #[.val (.int i0), .val (.int i1), .val (.int (Int32.ofNat n1)), .val (.int (Int32.ofNat n2)), .val (.int (2 : Int32)), .val (.int (Int32.ofNat tl)), .val (.int (Int32.ofNat jk)), .val (.int (Int32.ofNat ln)), .val (.int (Int32.ofNat ex)), .val (.ref a), .val (.int (Int32.ofNat (2 + ln))), .val (.ref r), .val (.int (1 : Int32)), .unset]) at_377 rfl rfl ?_
                  refine s_aload B X81 (pc' := 381) at_379 rfl rfl rfl ?_
                  refine s_bipush B X81 (pc' := 383) (v := (48 : Int32)) at_381 rfl rfl ?_
                  refine c_virtual B X81 (y := mn8) (pc' := 386) (argsL := [(.int (48 : Int32))]) (under := []) (W := 0) e81 (tw24 hw) (tw25 hw) (tw27 hw) (tw26 hw) (tw28 hw) (tw2 hw) (by decide) (rm_readConstructed l Z a0 hw r a (((2 + ln) + ex)) f 0 (((2 + ln) + ex)) 48 ln h80 R80 (by omega) (by omega) y361_0 y361_1) R80.1 (lenOf pd_6 rfl) rfl rfl (by decide) (by decide) (by decide) (by decide) rfl at_383 rfl (fun v82 T82 L82 X82 hQ82 => ?_)
                  obtain ⟨c0, rfl, Nq82, Kq82, lc, R82, C82⟩ := hQ82
                  obtain ⟨h82, e82⟩ : ∃ z, T82.heap = z := ⟨_, rfl⟩
                  rw [e82] at Kq82 R82 C82
                  have N82 := Fr.app N80 Nq82
                  have rc : r ≠ c0 := Nat.ne_of_lt (Nat.lt_of_lt_of_le R80.lt lc)
                  show Go p e below _ (T82.setTop (mkF m 386 #[.val (.int i0), .val (.int i1), .val (.int (Int32.ofNat n1)), .val (.int (Int32.ofNat n2)), .val (.int (2 : Int32)), .val (.int (Int32.ofNat tl)), .val (.int (Int32.ofNat jk)), .val (.int (Int32.ofNat ln)), .val (.int (Int32.ofNat ex)), .val (.ref a), .val (.int (Int32.ofNat (2 + ln))), .val (.ref r), .val (.int (1 : Int32)), .unset] [(.ref c0)]))
                  refine s_astore B X82 (pc' := 388) (Ls' := #[.val (.int i0), .val (.int i1), .val (.int (Int32.ofNat n1)), .val (.int (Int32.ofNat n2)), .val (.int (2 : Int32)), .val (.int (Int32.ofNat tl)), .val (.int (Int32.ofNat jk)), .val (.int (Int32.ofNat ln)), .val (.int (Int32.ofNat ex)), .val (.ref a), .val (.int (Int32.ofNat (2 + ln))), .val (.ref r), .val (.int (1 : Int32)), .val (.ref c0)]) at_386 rfl rfl rfl ?_
                  refine s_iload B X82 (pc' := 390) at_388 rfl rfl ?_
                  refine s_ifN B X82 (pc' := 393) at_390 (by decide) rfl ?_
                  have jn416 : ∀ (T : State) (Lc : List Loc), Stand p l e room_1 s m #[(.int i0), (.int i1)] below meth c T Lc 4 25 → T.heap = h82 → Fr Z.heap.size Lc → Go p e below (OEnds s (fun v h L => v = some (.int 1) ∧ Fr Z.heap.size L) room_1.cells room_1.slots) (T.setTop (mkF m 416 #[.val (.int i0), .val (.int i1), .val (.int (Int32.ofNat n1)), .val (.int (Int32.ofNat n2)), .val (.int (2 : Int32)), .val (.int (Int32.ofNat tl)), .val (.int (Int32.ofNat jk)), .val (.int (Int32.ofNat ln)), .val (.int (Int32.ofNat ex)), .val (.ref a), .val (.int (Int32.ofNat (2 + ln))), .val (.ref r), .val (.int (1 : Int32)), .val (.ref c0)] [.int 1])) := by
                    intro Tk416 Lk416 Xk416 ek416 Nk416
                    refine s_istore B Xk416 (pc' := 418) (Ls' := #[.val (.int i0), .val (.int i1), .val (.int (Int32.ofNat n1)), .val (.int (Int32.ofNat n2)), .val (.int (2 : Int32)), .val (.int (Int32.ofNat tl)), .val (.int (Int32.ofNat jk)), .val (.int (Int32.ofNat ln)), .val (.int (Int32.ofNat ex)), .val (.ref a), .val (.int (Int32.ofNat (2 + ln))), .val (.ref r), .val (.int (1 : Int32)), .val (.ref c0)]) at_416 rfl rfl ?_
                    refine s_iload B Xk416 (pc' := 420) at_418 rfl rfl ?_
                    refine s_ifN B Xk416 (pc' := 423) at_420 (by decide) rfl ?_
                    have jn446 : ∀ (T : State) (Lc : List Loc), Stand p l e room_1 s m #[(.int i0), (.int i1)] below meth c T Lc 4 25 → T.heap = h82 → Fr Z.heap.size Lc → Go p e below (OEnds s (fun v h L => v = some (.int 1) ∧ Fr Z.heap.size L) room_1.cells room_1.slots) (T.setTop (mkF m 446 #[.val (.int i0), .val (.int i1), .val (.int (Int32.ofNat n1)), .val (.int (Int32.ofNat n2)), .val (.int (2 : Int32)), .val (.int (Int32.ofNat tl)), .val (.int (Int32.ofNat jk)), .val (.int (Int32.ofNat ln)), .val (.int (Int32.ofNat ex)), .val (.ref a), .val (.int (Int32.ofNat (2 + ln))), .val (.ref r), .val (.int (1 : Int32)), .val (.ref c0)] [.int 1])) := by
                      intro Tk446 Lk446 Xk446 ek446 Nk446
                      refine s_istore B Xk446 (pc' := 448) (Ls' := #[.val (.int i0), .val (.int i1), .val (.int (Int32.ofNat n1)), .val (.int (Int32.ofNat n2)), .val (.int (2 : Int32)), .val (.int (Int32.ofNat tl)), .val (.int (Int32.ofNat jk)), .val (.int (Int32.ofNat ln)), .val (.int (Int32.ofNat ex)), .val (.ref a), .val (.int (Int32.ofNat (2 + ln))), .val (.ref r), .val (.int (1 : Int32)), .val (.ref c0)]) at_446 rfl rfl ?_
                      refine s_iload B Xk446 (pc' := 450) at_448 rfl rfl ?_
                      refine s_iconst B Xk446 (pc' := 451) (v := (1 : Int32)) at_450 rfl rfl ?_
                      refine s_icmpN B Xk446 (pc' := 454) at_451 (by decide) rfl ?_
                      refine s_aload B Xk446 (pc' := 456) at_454 rfl rfl rfl ?_
                      refine s_iconst B Xk446 (pc' := 457) (v := (4 : Int32)) at_456 rfl rfl ?_
                      refine c_virtual B Xk446 (y := mn9) (pc' := 460) (argsL := [(.int (4 : Int32))]) (under := []) (W := 0) ek446 (tw52 hw) (tw53 hw) (tw55 hw) (tw54 hw) (tw56 hw) (tw2 hw) (by decide) (rm_readOctets l Z a0 hw c0 a (((2 + ln) + ex)) f (0 + 1 + 1) (0 + 1 + 1 + ln) 4 n1 h82 C82 (by omega) (by omega) y361_2 y361_3 (by omega)) C82.1 (lenOf pd_8 rfl) rfl rfl (by decide) (by decide) (by decide) (by decide) rfl at_457 rfl (fun v83 T83 L83 X83 hQ83 => ?_)
                      obtain ⟨⟨o83, rfl⟩, Nq83, Kq83, C83⟩ := hQ83
                      obtain ⟨h83, e83⟩ : ∃ z, T83.heap = z := ⟨_, rfl⟩
                      rw [e83] at Kq83 C83
                      have N83 := Fr.app Nk446 Nq83
                      have R83 := R82.keep Kq83 (ninS rc nin0) (ninS C83.2.2.2.1.2.2 nin0)
                      show Go p e below _ (T83.setTop (mkF m 460 #[.val (.int i0), .val (.int i1), .val (.int (Int32.ofNat n1)), .val (.int (Int32.ofNat n2)), .val (.int (2 : Int32)), .val (.int (Int32.ofNat tl)), .val (.int (Int32.ofNat jk)), .val (.int (Int32.ofNat ln)), .val (.int (Int32.ofNat ex)), .val (.ref a), .val (.int (Int32.ofNat (2 + ln))), .val (.ref r), .val (.int (1 : Int32)), .val (.ref c0)] [(.ref o83)]))
                      refine s_pop B X83 (pc' := 461) at_460 rfl rfl ?_
                      refine s_iload B X83 (pc' := 463) at_461 rfl rfl ?_
                      refine s_ifN B X83 (pc' := 466) at_463 (by decide) rfl ?_
                      have jn495 : ∀ (T : State) (Lc : List Loc), Stand p l e room_1 s m #[(.int i0), (.int i1)] below meth c T Lc 6 42 → T.heap = h83 → Fr Z.heap.size Lc → Go p e below (OEnds s (fun v h L => v = some (.int 1) ∧ Fr Z.heap.size L) room_1.cells room_1.slots) (T.setTop (mkF m 495 #[.val (.int i0), .val (.int i1), .val (.int (Int32.ofNat n1)), .val (.int (Int32.ofNat n2)), .val (.int (2 : Int32)), .val (.int (Int32.ofNat tl)), .val (.int (Int32.ofNat jk)), .val (.int (Int32.ofNat ln)), .val (.int (Int32.ofNat ex)), .val (.ref a), .val (.int (Int32.ofNat (2 + ln))), .val (.ref r), .val (.int (1 : Int32)), .val (.ref c0)] [.int 1])) := by
                        intro Tk495 Lk495 Xk495 ek495 Nk495
                        refine s_istore B Xk495 (pc' := 497) (Ls' := #[.val (.int i0), .val (.int i1), .val (.int (Int32.ofNat n1)), .val (.int (Int32.ofNat n2)), .val (.int (2 : Int32)), .val (.int (Int32.ofNat tl)), .val (.int (Int32.ofNat jk)), .val (.int (Int32.ofNat ln)), .val (.int (Int32.ofNat ex)), .val (.ref a), .val (.int (Int32.ofNat (2 + ln))), .val (.ref r), .val (.int (1 : Int32)), .val (.ref c0)]) at_495 rfl rfl ?_
                        refine s_iload B Xk495 (pc' := 499) at_497 rfl rfl ?_
                        refine s_iconst B Xk495 (pc' := 500) (v := (2 : Int32)) at_499 rfl rfl ?_
                        refine s_icmpN B Xk495 (pc' := 503) at_500 (by decide) rfl ?_
                        refine s_aload B Xk495 (pc' := 505) at_503 rfl rfl rfl ?_
                        refine s_iconst B Xk495 (pc' := 506) (v := (4 : Int32)) at_505 rfl rfl ?_
                        refine c_virtual B Xk495 (y := mn9) (pc' := 509) (argsL := [(.int (4 : Int32))]) (under := []) (W := 0) ek495 (tw52 hw) (tw53 hw) (tw55 hw) (tw54 hw) (tw56 hw) (tw2 hw) (by decide) (rm_readOctets l Z a0 hw c0 a (((2 + ln) + ex)) f (0 + 1 + 1 + 1 + 1 + n1) (0 + 1 + 1 + ln) 4 n2 h83 C83 (by omega) (by omega) ((show (2 + (2 + n1)) = 0 + 1 + 1 + 1 + 1 + n1 by omega) ▸ y361_4) ((show ((2 + (2 + n1)) + 1) = 0 + 1 + 1 + 1 + 1 + n1 + 1 by omega) ▸ y361_5) (by omega)) C83.1 (lenOf pd_8 rfl) rfl rfl (by decide) (by decide) (by decide) (by decide) rfl at_506 rfl (fun v84 T84 L84 X84 hQ84 => ?_)
                        obtain ⟨⟨o84, rfl⟩, Nq84, Kq84, C84⟩ := hQ84
                        obtain ⟨h84, e84⟩ : ∃ z, T84.heap = z := ⟨_, rfl⟩
                        rw [e84] at Kq84 C84
                        have N84 := Fr.app Nk495 Nq84
                        have R84 := R83.keep Kq84 (ninS rc nin0) (ninS C84.2.2.2.1.2.2 nin0)
                        show Go p e below _ (T84.setTop (mkF m 509 #[.val (.int i0), .val (.int i1), .val (.int (Int32.ofNat n1)), .val (.int (Int32.ofNat n2)), .val (.int (2 : Int32)), .val (.int (Int32.ofNat tl)), .val (.int (Int32.ofNat jk)), .val (.int (Int32.ofNat ln)), .val (.int (Int32.ofNat ex)), .val (.ref a), .val (.int (Int32.ofNat (2 + ln))), .val (.ref r), .val (.int (1 : Int32)), .val (.ref c0)] [(.ref o84)]))
                        refine s_pop B X84 (pc' := 510) at_509 rfl rfl ?_
                        refine s_iload B X84 (pc' := 512) at_510 rfl rfl ?_
                        refine s_ifN B X84 (pc' := 515) at_512 (by decide) rfl ?_
                        have jn530 : ∀ (T : State) (Lc : List Loc), Stand p l e room_1 s m #[(.int i0), (.int i1)] below meth c T Lc 8 59 → T.heap = h84 → Fr Z.heap.size Lc → Go p e below (OEnds s (fun v h L => v = some (.int 1) ∧ Fr Z.heap.size L) room_1.cells room_1.slots) (T.setTop (mkF m 530 #[.val (.int i0), .val (.int i1), .val (.int (Int32.ofNat n1)), .val (.int (Int32.ofNat n2)), .val (.int (2 : Int32)), .val (.int (Int32.ofNat tl)), .val (.int (Int32.ofNat jk)), .val (.int (Int32.ofNat ln)), .val (.int (Int32.ofNat ex)), .val (.ref a), .val (.int (Int32.ofNat (2 + ln))), .val (.ref r), .val (.int (1 : Int32)), .val (.ref c0)] [.int 1])) := by
                          intro Tk530 Lk530 Xk530 ek530 Nk530
                          refine s_istore B Xk530 (pc' := 532) (Ls' := #[.val (.int i0), .val (.int i1), .val (.int (Int32.ofNat n1)), .val (.int (Int32.ofNat n2)), .val (.int (2 : Int32)), .val (.int (Int32.ofNat tl)), .val (.int (Int32.ofNat jk)), .val (.int (Int32.ofNat ln)), .val (.int (Int32.ofNat ex)), .val (.ref a), .val (.int (Int32.ofNat (2 + ln))), .val (.ref r), .val (.int (1 : Int32)), .val (.ref c0)]) at_530 rfl rfl ?_
                          have jn545 : ∀ (T : State) (h : Heap) (Lc : List Loc) (pr : Nat), Stand p l e room_1 s m #[(.int i0), (.int i1)] below meth c T Lc 9 60 → T.heap = h → Fr Z.heap.size Lc → RD Z h r a (((2 + ln) + ex)) f pr (((2 + ln) + ex)) → (tl = 2 → pr = ((2 + ln) + ex)) → (tl ≠ 2 → pr = 2 + ln) → Go p e below (OEnds s (fun v h L => v = some (.int 1) ∧ Fr Z.heap.size L) room_1.cells room_1.slots) (T.setTop (mkF m 545 #[.val (.int i0), .val (.int i1), .val (.int (Int32.ofNat n1)), .val (.int (Int32.ofNat n2)), .val (.int (2 : Int32)), .val (.int (Int32.ofNat tl)), .val (.int (Int32.ofNat jk)), .val (.int (Int32.ofNat ln)), .val (.int (Int32.ofNat ex)), .val (.ref a), .val (.int (Int32.ofNat (2 + ln))), .val (.ref r), .val (.int (1 : Int32)), .val (.ref c0)] [])) := by
                            intro Tk545 hk545 Lk545 pr Xk545 ek545 Nk545 Rk545 hp2 hp0
                            refine s_iload B Xk545 (pc' := 547) at_545 rfl rfl ?_
                            refine s_ifN B Xk545 (pc' := 550) at_547 (by decide) rfl ?_
                            rcases (by omega : tl = 0 ∨ tl = 1 ∨ tl = 2 ∨ tl = 3) with q85 | q85 | q85 | q85
                            · refine s_aload B Xk545 (pc' := 552) at_550 rfl rfl rfl ?_
                              refine p_virtual B Xk545 (y := mn0) (pc' := 555) (argsL := []) (under := []) (W := 0) ek545 (tw19 hw) (tw20 hw) (tw22 hw) (tw21 hw) (tw23 hw) (tw2 hw) (by decide) (rm_has l Z a0 hw r a (((2 + ln) + ex)) _ (pr) (((2 + ln) + ex)) 0 hk545 Rk545 (if_neg (by omega))) Rk545.1 (lenOf pd_5 rfl) rfl rfl (by decide) (by decide) rfl rfl (by decide) (by decide) rfl at_552 rfl (fun T86 X86 e86 => ?_)
                              show Go p e below _ (T86.setTop (mkF m 555 #[.val (.int i0), .val (.int i1), .val (.int (Int32.ofNat n1)), .val (.int (Int32.ofNat n2)), .val (.int (2 : Int32)), .val (.int (Int32.ofNat tl)), .val (.int (Int32.ofNat jk)), .val (.int (Int32.ofNat ln)), .val (.int (Int32.ofNat ex)), .val (.ref a), .val (.int (Int32.ofNat (2 + ln))), .val (.ref r), .val (.int (1 : Int32)), .val (.ref c0)] [(.int (0 : Int32))]))
                              refine s_iload B X86 (pc' := 557) at_555 rfl rfl ?_
                              refine s_iconst B X86 (pc' := 558) (v := (1 : Int32)) at_557 rfl rfl ?_
                              refine b_icmp_eq B X86 (py := 567) (pn := 561) at_558 (by decide) (by decide) rfl (fun q => absurd q (fun z => by have := sm_inj (y := 1) (by omega) (by decide) z; omega)) (fun _ => ?_)
                              refine s_iload B X86 (pc' := 563) at_561 rfl rfl ?_
                              refine s_iconst B X86 (pc' := 564) (v := (3 : Int32)) at_563 rfl rfl ?_
                              refine b_icmp_ne B X86 (py := 571) (pn := 567) at_564 (by decide) (by decide) rfl (fun _ => ?_) (fun q => absurd q (fun z => by have := sm_inj (y := 3) (by omega) (by decide) z; omega))
                              refine s_iconst B X86 (pc' := 572) (v := (0 : Int32)) at_571 rfl rfl ?_
                              refine s_icmpN B X86 (pc' := 575) at_572 (by decide) rfl ?_
                              refine s_iconst B X86 (pc' := 576) (v := (1 : Int32)) at_575 rfl rfl ?_
                              refine s_goto B X86 (pc' := 580) at_576 (by decide) (by decide) ?_
                              refine s_istore B X86 (pc' := 582) (Ls' := #[.val (.int i0), .val (.int i1), .val (.int (Int32.ofNat n1)), .val (.int (Int32.ofNat n2)), .val (.int (2 : Int32)), .val (.int (Int32.ofNat tl)), .val (.int (Int32.ofNat jk)), .val (.int (Int32.ofNat ln)), .val (.int (Int32.ofNat ex)), .val (.ref a), .val (.int (Int32.ofNat (2 + ln))), .val (.ref r), .val (.int (1 : Int32)), .val (.ref c0)]) at_580 rfl rfl ?_
                              refine s_iload B X86 (pc' := 584) at_582 rfl rfl ?_
                              exact r_nar B X86 (t := .boolean) (by simp) rfl at_584 ⟨rfl, Nk545⟩ (by decide) (by decide)
                            · refine s_aload B Xk545 (pc' := 552) at_550 rfl rfl rfl ?_
                              refine p_virtual B Xk545 (y := mn0) (pc' := 555) (argsL := []) (under := []) (W := 0) ek545 (tw19 hw) (tw20 hw) (tw22 hw) (tw21 hw) (tw23 hw) (tw2 hw) (by decide) (rm_has l Z a0 hw r a (((2 + ln) + ex)) _ (pr) (((2 + ln) + ex)) 1 hk545 Rk545 (if_pos (by omega))) Rk545.1 (lenOf pd_5 rfl) rfl rfl (by decide) (by decide) rfl rfl (by decide) (by decide) rfl at_552 rfl (fun T87 X87 e87 => ?_)
                              show Go p e below _ (T87.setTop (mkF m 555 #[.val (.int i0), .val (.int i1), .val (.int (Int32.ofNat n1)), .val (.int (Int32.ofNat n2)), .val (.int (2 : Int32)), .val (.int (Int32.ofNat tl)), .val (.int (Int32.ofNat jk)), .val (.int (Int32.ofNat ln)), .val (.int (Int32.ofNat ex)), .val (.ref a), .val (.int (Int32.ofNat (2 + ln))), .val (.ref r), .val (.int (1 : Int32)), .val (.ref c0)] [(.int (1 : Int32))]))
                              refine s_iload B X87 (pc' := 557) at_555 rfl rfl ?_
                              refine s_iconst B X87 (pc' := 558) (v := (1 : Int32)) at_557 rfl rfl ?_
                              refine b_icmp_eq B X87 (py := 567) (pn := 561) at_558 (by decide) (by decide) rfl (fun _ => ?_) (fun q => absurd (congrArg Int32.ofNat q85) q)
                              refine s_iconst B X87 (pc' := 568) (v := (1 : Int32)) at_567 rfl rfl ?_
                              refine s_goto B X87 (pc' := 572) at_568 (by decide) (by decide) ?_
                              refine s_icmpN B X87 (pc' := 575) at_572 (by decide) rfl ?_
                              refine s_iconst B X87 (pc' := 576) (v := (1 : Int32)) at_575 rfl rfl ?_
                              refine s_goto B X87 (pc' := 580) at_576 (by decide) (by decide) ?_
                              refine s_istore B X87 (pc' := 582) (Ls' := #[.val (.int i0), .val (.int i1), .val (.int (Int32.ofNat n1)), .val (.int (Int32.ofNat n2)), .val (.int (2 : Int32)), .val (.int (Int32.ofNat tl)), .val (.int (Int32.ofNat jk)), .val (.int (Int32.ofNat ln)), .val (.int (Int32.ofNat ex)), .val (.ref a), .val (.int (Int32.ofNat (2 + ln))), .val (.ref r), .val (.int (1 : Int32)), .val (.ref c0)]) at_580 rfl rfl ?_
                              refine s_iload B X87 (pc' := 584) at_582 rfl rfl ?_
                              exact r_nar B X87 (t := .boolean) (by simp) rfl at_584 ⟨rfl, Nk545⟩ (by decide) (by decide)
                            · refine s_aload B Xk545 (pc' := 552) at_550 rfl rfl rfl ?_
                              refine p_virtual B Xk545 (y := mn0) (pc' := 555) (argsL := []) (under := []) (W := 0) ek545 (tw19 hw) (tw20 hw) (tw22 hw) (tw21 hw) (tw23 hw) (tw2 hw) (by decide) (rm_has l Z a0 hw r a (((2 + ln) + ex)) _ (pr) (((2 + ln) + ex)) 0 hk545 Rk545 (if_neg (by omega))) Rk545.1 (lenOf pd_5 rfl) rfl rfl (by decide) (by decide) rfl rfl (by decide) (by decide) rfl at_552 rfl (fun T88 X88 e88 => ?_)
                              show Go p e below _ (T88.setTop (mkF m 555 #[.val (.int i0), .val (.int i1), .val (.int (Int32.ofNat n1)), .val (.int (Int32.ofNat n2)), .val (.int (2 : Int32)), .val (.int (Int32.ofNat tl)), .val (.int (Int32.ofNat jk)), .val (.int (Int32.ofNat ln)), .val (.int (Int32.ofNat ex)), .val (.ref a), .val (.int (Int32.ofNat (2 + ln))), .val (.ref r), .val (.int (1 : Int32)), .val (.ref c0)] [(.int (0 : Int32))]))
                              refine s_iload B X88 (pc' := 557) at_555 rfl rfl ?_
                              refine s_iconst B X88 (pc' := 558) (v := (1 : Int32)) at_557 rfl rfl ?_
                              refine b_icmp_eq B X88 (py := 567) (pn := 561) at_558 (by decide) (by decide) rfl (fun q => absurd q (fun z => by have := sm_inj (y := 1) (by omega) (by decide) z; omega)) (fun _ => ?_)
                              refine s_iload B X88 (pc' := 563) at_561 rfl rfl ?_
                              refine s_iconst B X88 (pc' := 564) (v := (3 : Int32)) at_563 rfl rfl ?_
                              refine b_icmp_ne B X88 (py := 571) (pn := 567) at_564 (by decide) (by decide) rfl (fun _ => ?_) (fun q => absurd q (fun z => by have := sm_inj (y := 3) (by omega) (by decide) z; omega))
                              refine s_iconst B X88 (pc' := 572) (v := (0 : Int32)) at_571 rfl rfl ?_
                              refine s_icmpN B X88 (pc' := 575) at_572 (by decide) rfl ?_
                              refine s_iconst B X88 (pc' := 576) (v := (1 : Int32)) at_575 rfl rfl ?_
                              refine s_goto B X88 (pc' := 580) at_576 (by decide) (by decide) ?_
                              refine s_istore B X88 (pc' := 582) (Ls' := #[.val (.int i0), .val (.int i1), .val (.int (Int32.ofNat n1)), .val (.int (Int32.ofNat n2)), .val (.int (2 : Int32)), .val (.int (Int32.ofNat tl)), .val (.int (Int32.ofNat jk)), .val (.int (Int32.ofNat ln)), .val (.int (Int32.ofNat ex)), .val (.ref a), .val (.int (Int32.ofNat (2 + ln))), .val (.ref r), .val (.int (1 : Int32)), .val (.ref c0)]) at_580 rfl rfl ?_
                              refine s_iload B X88 (pc' := 584) at_582 rfl rfl ?_
                              exact r_nar B X88 (t := .boolean) (by simp) rfl at_584 ⟨rfl, Nk545⟩ (by decide) (by decide)
                            · refine s_aload B Xk545 (pc' := 552) at_550 rfl rfl rfl ?_
                              refine p_virtual B Xk545 (y := mn0) (pc' := 555) (argsL := []) (under := []) (W := 0) ek545 (tw19 hw) (tw20 hw) (tw22 hw) (tw21 hw) (tw23 hw) (tw2 hw) (by decide) (rm_has l Z a0 hw r a (((2 + ln) + ex)) _ (pr) (((2 + ln) + ex)) 1 hk545 Rk545 (if_pos (by omega))) Rk545.1 (lenOf pd_5 rfl) rfl rfl (by decide) (by decide) rfl rfl (by decide) (by decide) rfl at_552 rfl (fun T89 X89 e89 => ?_)
                              show Go p e below _ (T89.setTop (mkF m 555 #[.val (.int i0), .val (.int i1), .val (.int (Int32.ofNat n1)), .val (.int (Int32.ofNat n2)), .val (.int (2 : Int32)), .val (.int (Int32.ofNat tl)), .val (.int (Int32.ofNat jk)), .val (.int (Int32.ofNat ln)), .val (.int (Int32.ofNat ex)), .val (.ref a), .val (.int (Int32.ofNat (2 + ln))), .val (.ref r), .val (.int (1 : Int32)), .val (.ref c0)] [(.int (1 : Int32))]))
                              refine s_iload B X89 (pc' := 557) at_555 rfl rfl ?_
                              refine s_iconst B X89 (pc' := 558) (v := (1 : Int32)) at_557 rfl rfl ?_
                              refine b_icmp_eq B X89 (py := 567) (pn := 561) at_558 (by decide) (by decide) rfl (fun q => absurd q (fun z => by have := sm_inj (y := 1) (by omega) (by decide) z; omega)) (fun _ => ?_)
                              refine s_iload B X89 (pc' := 563) at_561 rfl rfl ?_
                              refine s_iconst B X89 (pc' := 564) (v := (3 : Int32)) at_563 rfl rfl ?_
                              refine b_icmp_ne B X89 (py := 571) (pn := 567) at_564 (by decide) (by decide) rfl (fun q => absurd (congrArg Int32.ofNat q85) q) (fun _ => ?_)
                              refine s_iconst B X89 (pc' := 568) (v := (1 : Int32)) at_567 rfl rfl ?_
                              refine s_goto B X89 (pc' := 572) at_568 (by decide) (by decide) ?_
                              refine s_icmpN B X89 (pc' := 575) at_572 (by decide) rfl ?_
                              refine s_iconst B X89 (pc' := 576) (v := (1 : Int32)) at_575 rfl rfl ?_
                              refine s_goto B X89 (pc' := 580) at_576 (by decide) (by decide) ?_
                              refine s_istore B X89 (pc' := 582) (Ls' := #[.val (.int i0), .val (.int i1), .val (.int (Int32.ofNat n1)), .val (.int (Int32.ofNat n2)), .val (.int (2 : Int32)), .val (.int (Int32.ofNat tl)), .val (.int (Int32.ofNat jk)), .val (.int (Int32.ofNat ln)), .val (.int (Int32.ofNat ex)), .val (.ref a), .val (.int (Int32.ofNat (2 + ln))), .val (.ref r), .val (.int (1 : Int32)), .val (.ref c0)]) at_580 rfl rfl ?_
                              refine s_iload B X89 (pc' := 584) at_582 rfl rfl ?_
                              exact r_nar B X89 (t := .boolean) (by simp) rfl at_584 ⟨rfl, Nk545⟩ (by decide) (by decide)
                          rcases (by omega : tl = 0 ∨ tl = 1 ∨ tl = 2 ∨ tl = 3) with q90 | q90 | q90 | q90
                          · refine s_iload B Xk530 (pc' := 534) at_532 rfl rfl ?_
                            refine s_iconst B Xk530 (pc' := 535) (v := (2 : Int32)) at_534 rfl rfl ?_
                            refine b_icmp_ne B Xk530 (py := 545) (pn := 538) at_535 (by decide) (by decide) rfl (fun _ => ?_) (fun q => absurd q (fun z => by have := sm_inj (y := 2) (by omega) (by decide) z; omega))
                            exact jn545 Tk530 h84 _ (0 + 1 + 1 + ln) (Xk530.mono (by decide) (by decide)) ek530 Nk530 R84 (fun z => by omega) (fun z => by omega)
                          · refine s_iload B Xk530 (pc' := 534) at_532 rfl rfl ?_
                            refine s_iconst B Xk530 (pc' := 535) (v := (2 : Int32)) at_534 rfl rfl ?_
                            refine b_icmp_ne B Xk530 (py := 545) (pn := 538) at_535 (by decide) (by decide) rfl (fun _ => ?_) (fun q => absurd q (fun z => by have := sm_inj (y := 2) (by omega) (by decide) z; omega))
                            exact jn545 Tk530 h84 _ (0 + 1 + 1 + ln) (Xk530.mono (by decide) (by decide)) ek530 Nk530 R84 (fun z => by omega) (fun z => by omega)
                          · refine s_iload B Xk530 (pc' := 534) at_532 rfl rfl ?_
                            refine s_iconst B Xk530 (pc' := 535) (v := (2 : Int32)) at_534 rfl rfl ?_
                            refine b_icmp_ne B Xk530 (py := 545) (pn := 538) at_535 (by decide) (by decide) rfl (fun q => absurd (congrArg Int32.ofNat q90) q) (fun _ => ?_)
                            refine s_aload B Xk530 (pc' := 540) at_538 rfl rfl rfl ?_
                            refine s_iconst B Xk530 (pc' := 541) (v := (1 : Int32)) at_540 rfl rfl ?_
                            refine c_virtual B Xk530 (y := mn10) (pc' := 544) (argsL := [(.int (1 : Int32))]) (under := []) (W := 0) ek530 (tw61 hw) (tw62 hw) (tw64 hw) (tw63 hw) (tw65 hw) (tw2 hw) (by decide) (rm_readBoolean l Z a0 hw r a (((2 + ln) + ex)) f (0 + 1 + 1 + ln) (((2 + ln) + ex)) 1 h84 R84 (by omega) ((show 2 + ln = 0 + 1 + 1 + ln by omega) ▸ (hb2 (by omega)).1) ((show 2 + ln + 1 = 0 + 1 + 1 + ln + 1 by omega) ▸ (hb2 (by omega)).2)) R84.1 (lenOf pd_7 rfl) rfl rfl (by decide) (by decide) (by decide) (by decide) rfl at_541 rfl (fun v91 T91 L91 X91 hQ91 => ?_)
                            obtain ⟨⟨x91, rfl⟩, Nq91, Kq91, R91⟩ := hQ91
                            obtain ⟨h91, e91⟩ : ∃ z, T91.heap = z := ⟨_, rfl⟩
                            rw [e91] at Kq91 R91
                            have N91 := Fr.app Nk530 Nq91
                            show Go p e below _ (T91.setTop (mkF m 544 #[.val (.int i0), .val (.int i1), .val (.int (Int32.ofNat n1)), .val (.int (Int32.ofNat n2)), .val (.int (2 : Int32)), .val (.int (Int32.ofNat tl)), .val (.int (Int32.ofNat jk)), .val (.int (Int32.ofNat ln)), .val (.int (Int32.ofNat ex)), .val (.ref a), .val (.int (Int32.ofNat (2 + ln))), .val (.ref r), .val (.int (1 : Int32)), .val (.ref c0)] [(.int x91)]))
                            refine s_pop B X91 (pc' := 545) at_544 rfl rfl ?_
                            exact jn545 T91 h91 _ (0 + 1 + 1 + ln + 1 + 1 + 1) (X91.mono (by decide) (by decide)) e91 N91 R91 (fun z => by omega) (fun z => by omega)
                          · refine s_iload B Xk530 (pc' := 534) at_532 rfl rfl ?_
                            refine s_iconst B Xk530 (pc' := 535) (v := (2 : Int32)) at_534 rfl rfl ?_
                            refine b_icmp_ne B Xk530 (py := 545) (pn := 538) at_535 (by decide) (by decide) rfl (fun _ => ?_) (fun q => absurd q (fun z => by have := sm_inj (y := 2) (by omega) (by decide) z; omega))
                            exact jn545 Tk530 h84 _ (0 + 1 + 1 + ln) (Xk530.mono (by decide) (by decide)) ek530 Nk530 R84 (fun z => by omega) (fun z => by omega)
                        rcases (by omega : jk = 0 ∨ jk = 1) with q92 | q92
                        · refine s_aload B X84 (pc' := 517) at_515 rfl rfl rfl ?_
                          refine p_virtual B X84 (y := mn0) (pc' := 520) (argsL := []) (under := []) (W := 0) e84 (tw19 hw) (tw20 hw) (tw22 hw) (tw21 hw) (tw23 hw) (tw2 hw) (by decide) (rm_has l Z a0 hw c0 a (((2 + ln) + ex)) _ (0 + 1 + 1 + 1 + 1 + n1 + 1 + 1 + n2) (0 + 1 + 1 + ln) 0 h84 C84 (if_neg (by omega))) C84.1 (lenOf pd_5 rfl) rfl rfl (by decide) (by decide) rfl rfl (by decide) (by decide) rfl at_517 rfl (fun T93 X93 e93 => ?_)
                          show Go p e below _ (T93.setTop (mkF m 520 #[.val (.int i0), .val (.int i1), .val (.int (Int32.ofNat n1)), .val (.int (Int32.ofNat n2)), .val (.int (2 : Int32)), .val (.int (Int32.ofNat tl)), .val (.int (Int32.ofNat jk)), .val (.int (Int32.ofNat ln)), .val (.int (Int32.ofNat ex)), .val (.ref a), .val (.int (Int32.ofNat (2 + ln))), .val (.ref r), .val (.int (1 : Int32)), .val (.ref c0)] [(.int (0 : Int32))]))
                          refine s_iload B X93 (pc' := 522) at_520 rfl rfl ?_
                          refine b_icmp_ne B X93 (py := 529) (pn := 525) at_522 (by decide) (by decide) rfl (fun q => absurd ((congrArg Int32.ofNat q92)).symm q) (fun _ => ?_)
                          refine s_iconst B X93 (pc' := 526) (v := (1 : Int32)) at_525 rfl rfl ?_
                          refine s_goto B X93 (pc' := 530) at_526 (by decide) (by decide) ?_
                          exact jn530 T93 _ (X93.mono (by decide) (by decide)) e93 N84
                        · refine s_aload B X84 (pc' := 517) at_515 rfl rfl rfl ?_
                          refine p_virtual B X84 (y := mn0) (pc' := 520) (argsL := []) (under := []) (W := 0) e84 (tw19 hw) (tw20 hw) (tw22 hw) (tw21 hw) (tw23 hw) (tw2 hw) (by decide) (rm_has l Z a0 hw c0 a (((2 + ln) + ex)) _ (0 + 1 + 1 + 1 + 1 + n1 + 1 + 1 + n2) (0 + 1 + 1 + ln) 1 h84 C84 (if_pos (by omega))) C84.1 (lenOf pd_5 rfl) rfl rfl (by decide) (by decide) rfl rfl (by decide) (by decide) rfl at_517 rfl (fun T94 X94 e94 => ?_)
                          show Go p e below _ (T94.setTop (mkF m 520 #[.val (.int i0), .val (.int i1), .val (.int (Int32.ofNat n1)), .val (.int (Int32.ofNat n2)), .val (.int (2 : Int32)), .val (.int (Int32.ofNat tl)), .val (.int (Int32.ofNat jk)), .val (.int (Int32.ofNat ln)), .val (.int (Int32.ofNat ex)), .val (.ref a), .val (.int (Int32.ofNat (2 + ln))), .val (.ref r), .val (.int (1 : Int32)), .val (.ref c0)] [(.int (1 : Int32))]))
                          refine s_iload B X94 (pc' := 522) at_520 rfl rfl ?_
                          refine b_icmp_ne B X94 (py := 529) (pn := 525) at_522 (by decide) (by decide) rfl (fun q => absurd ((congrArg Int32.ofNat q92)).symm q) (fun _ => ?_)
                          refine s_iconst B X94 (pc' := 526) (v := (1 : Int32)) at_525 rfl rfl ?_
                          refine s_goto B X94 (pc' := 530) at_526 (by decide) (by decide) ?_
                          exact jn530 T94 _ (X94.mono (by decide) (by decide)) e94 N84
                      refine s_aload B X83 (pc' := 468) at_466 rfl rfl rfl ?_
                      refine p_virtual B X83 (y := mn0) (pc' := 471) (argsL := []) (under := []) (W := 0) e83 (tw19 hw) (tw20 hw) (tw22 hw) (tw21 hw) (tw23 hw) (tw2 hw) (by decide) (rm_has l Z a0 hw c0 a (((2 + ln) + ex)) _ (0 + 1 + 1 + 1 + 1 + n1) (0 + 1 + 1 + ln) 1 h83 C83 (if_pos (by omega))) C83.1 (lenOf pd_5 rfl) rfl rfl (by decide) (by decide) rfl rfl (by decide) (by decide) rfl at_468 rfl (fun T95 X95 e95 => ?_)
                      show Go p e below _ (T95.setTop (mkF m 471 #[.val (.int i0), .val (.int i1), .val (.int (Int32.ofNat n1)), .val (.int (Int32.ofNat n2)), .val (.int (2 : Int32)), .val (.int (Int32.ofNat tl)), .val (.int (Int32.ofNat jk)), .val (.int (Int32.ofNat ln)), .val (.int (Int32.ofNat ex)), .val (.ref a), .val (.int (Int32.ofNat (2 + ln))), .val (.ref r), .val (.int (1 : Int32)), .val (.ref c0)] [(.int (1 : Int32))]))
                      refine s_iload B X95 (pc' := 473) at_471 rfl rfl ?_
                      refine s_iconst B X95 (pc' := 474) (v := (2 : Int32)) at_473 rfl rfl ?_
                      refine s_icmpY B X95 (pc' := 482) at_474 (by decide) (by decide) (by decide) ?_
                      refine s_iconst B X95 (pc' := 483) (v := (1 : Int32)) at_482 rfl rfl ?_
                      refine s_goto B X95 (pc' := 487) at_483 (by decide) (by decide) ?_
                      refine s_icmpN B X95 (pc' := 490) at_487 (by decide) rfl ?_
                      refine s_iconst B X95 (pc' := 491) (v := (1 : Int32)) at_490 rfl rfl ?_
                      refine s_goto B X95 (pc' := 495) at_491 (by decide) (by decide) ?_
                      exact jn495 T95 _ (X95.mono (by decide) (by decide)) e95 N83
                    by_cases q96 : 0 < ln
                    · refine s_aload B Xk416 (pc' := 425) at_423 rfl rfl rfl ?_
                      refine p_virtual B Xk416 (y := mn0) (pc' := 428) (argsL := []) (under := []) (W := 0) ek416 (tw19 hw) (tw20 hw) (tw22 hw) (tw21 hw) (tw23 hw) (tw2 hw) (by decide) (rm_has l Z a0 hw c0 a (((2 + ln) + ex)) _ (0 + 1 + 1) (0 + 1 + 1 + ln) 1 h82 C82 (if_pos (by omega))) C82.1 (lenOf pd_5 rfl) rfl rfl (by decide) (by decide) rfl rfl (by decide) (by decide) rfl at_425 rfl (fun T97 X97 e97 => ?_)
                      show Go p e below _ (T97.setTop (mkF m 428 #[.val (.int i0), .val (.int i1), .val (.int (Int32.ofNat n1)), .val (.int (Int32.ofNat n2)), .val (.int (2 : Int32)), .val (.int (Int32.ofNat tl)), .val (.int (Int32.ofNat jk)), .val (.int (Int32.ofNat ln)), .val (.int (Int32.ofNat ex)), .val (.ref a), .val (.int (Int32.ofNat (2 + ln))), .val (.ref r), .val (.int (1 : Int32)), .val (.ref c0)] [(.int (1 : Int32))]))
                      refine s_iload B X97 (pc' := 430) at_428 rfl rfl ?_
                      refine b_if_le B X97 (py := 437) (pn := 433) at_430 (by decide) (by decide) rfl (fun q => absurd ((sm_lt (x := 0) (y := ln) (by decide) (by omega)).mpr q96) q) (fun _ => ?_)
                      refine s_iconst B X97 (pc' := 434) (v := (1 : Int32)) at_433 rfl rfl ?_
                      refine s_goto B X97 (pc' := 438) at_434 (by decide) (by decide) ?_
                      refine s_icmpN B X97 (pc' := 441) at_438 (by decide) rfl ?_
                      refine s_iconst B X97 (pc' := 442) (v := (1 : Int32)) at_441 rfl rfl ?_
                      refine s_goto B X97 (pc' := 446) at_442 (by decide) (by decide) ?_
                      exact jn446 T97 _ (X97.mono (by decide) (by decide)) e97 Nk416
                    · refine s_aload B Xk416 (pc' := 425) at_423 rfl rfl rfl ?_
                      refine p_virtual B Xk416 (y := mn0) (pc' := 428) (argsL := []) (under := []) (W := 0) ek416 (tw19 hw) (tw20 hw) (tw22 hw) (tw21 hw) (tw23 hw) (tw2 hw) (by decide) (rm_has l Z a0 hw c0 a (((2 + ln) + ex)) _ (0 + 1 + 1) (0 + 1 + 1 + ln) 0 h82 C82 (if_neg (by omega))) C82.1 (lenOf pd_5 rfl) rfl rfl (by decide) (by decide) rfl rfl (by decide) (by decide) rfl at_425 rfl (fun T98 X98 e98 => ?_)
                      show Go p e below _ (T98.setTop (mkF m 428 #[.val (.int i0), .val (.int i1), .val (.int (Int32.ofNat n1)), .val (.int (Int32.ofNat n2)), .val (.int (2 : Int32)), .val (.int (Int32.ofNat tl)), .val (.int (Int32.ofNat jk)), .val (.int (Int32.ofNat ln)), .val (.int (Int32.ofNat ex)), .val (.ref a), .val (.int (Int32.ofNat (2 + ln))), .val (.ref r), .val (.int (1 : Int32)), .val (.ref c0)] [(.int (0 : Int32))]))
                      refine s_iload B X98 (pc' := 430) at_428 rfl rfl ?_
                      refine b_if_le B X98 (py := 437) (pn := 433) at_430 (by decide) (by decide) rfl (fun _ => ?_) (fun q => absurd q (fun z => q96 ((sm_lt (x := 0) (y := ln) (by decide) (by omega)).mp z)))
                      refine s_iconst B X98 (pc' := 438) (v := (0 : Int32)) at_437 rfl rfl ?_
                      refine s_icmpN B X98 (pc' := 441) at_438 (by decide) rfl ?_
                      refine s_iconst B X98 (pc' := 442) (v := (1 : Int32)) at_441 rfl rfl ?_
                      refine s_goto B X98 (pc' := 446) at_442 (by decide) (by decide) ?_
                      exact jn446 T98 _ (X98.mono (by decide) (by decide)) e98 Nk416
                  by_cases q99 : 0 < ex
                  · refine s_aload B X82 (pc' := 395) at_393 rfl rfl rfl ?_
                    refine p_virtual B X82 (y := mn0) (pc' := 398) (argsL := []) (under := []) (W := 0) e82 (tw19 hw) (tw20 hw) (tw22 hw) (tw21 hw) (tw23 hw) (tw2 hw) (by decide) (rm_has l Z a0 hw r a (((2 + ln) + ex)) _ (0 + 1 + 1 + ln) (((2 + ln) + ex)) 1 h82 R82 (if_pos (by omega))) R82.1 (lenOf pd_5 rfl) rfl rfl (by decide) (by decide) rfl rfl (by decide) (by decide) rfl at_395 rfl (fun T100 X100 e100 => ?_)
                    show Go p e below _ (T100.setTop (mkF m 398 #[.val (.int i0), .val (.int i1), .val (.int (Int32.ofNat n1)), .val (.int (Int32.ofNat n2)), .val (.int (2 : Int32)), .val (.int (Int32.ofNat tl)), .val (.int (Int32.ofNat jk)), .val (.int (Int32.ofNat ln)), .val (.int (Int32.ofNat ex)), .val (.ref a), .val (.int (Int32.ofNat (2 + ln))), .val (.ref r), .val (.int (1 : Int32)), .val (.ref c0)] [(.int (1 : Int32))]))
                    refine s_iload B X100 (pc' := 400) at_398 rfl rfl ?_
                    refine b_if_le B X100 (py := 407) (pn := 403) at_400 (by decide) (by decide) rfl (fun q => absurd ((sm_lt (x := 0) (y := ex) (by decide) (by omega)).mpr q99) q) (fun _ => ?_)
                    refine s_iconst B X100 (pc' := 404) (v := (1 : Int32)) at_403 rfl rfl ?_
                    refine s_goto B X100 (pc' := 408) at_404 (by decide) (by decide) ?_
                    refine s_icmpN B X100 (pc' := 411) at_408 (by decide) rfl ?_
                    refine s_iconst B X100 (pc' := 412) (v := (1 : Int32)) at_411 rfl rfl ?_
                    refine s_goto B X100 (pc' := 416) at_412 (by decide) (by decide) ?_
                    exact jn416 T100 _ (X100.mono (by decide) (by decide)) e100 N82
                  · refine s_aload B X82 (pc' := 395) at_393 rfl rfl rfl ?_
                    refine p_virtual B X82 (y := mn0) (pc' := 398) (argsL := []) (under := []) (W := 0) e82 (tw19 hw) (tw20 hw) (tw22 hw) (tw21 hw) (tw23 hw) (tw2 hw) (by decide) (rm_has l Z a0 hw r a (((2 + ln) + ex)) _ (0 + 1 + 1 + ln) (((2 + ln) + ex)) 0 h82 R82 (if_neg (by omega))) R82.1 (lenOf pd_5 rfl) rfl rfl (by decide) (by decide) rfl rfl (by decide) (by decide) rfl at_395 rfl (fun T101 X101 e101 => ?_)
                    show Go p e below _ (T101.setTop (mkF m 398 #[.val (.int i0), .val (.int i1), .val (.int (Int32.ofNat n1)), .val (.int (Int32.ofNat n2)), .val (.int (2 : Int32)), .val (.int (Int32.ofNat tl)), .val (.int (Int32.ofNat jk)), .val (.int (Int32.ofNat ln)), .val (.int (Int32.ofNat ex)), .val (.ref a), .val (.int (Int32.ofNat (2 + ln))), .val (.ref r), .val (.int (1 : Int32)), .val (.ref c0)] [(.int (0 : Int32))]))
                    refine s_iload B X101 (pc' := 400) at_398 rfl rfl ?_
                    refine b_if_le B X101 (py := 407) (pn := 403) at_400 (by decide) (by decide) rfl (fun _ => ?_) (fun q => absurd q (fun z => q99 ((sm_lt (x := 0) (y := ex) (by decide) (by omega)).mp z)))
                    refine s_iconst B X101 (pc' := 408) (v := (0 : Int32)) at_407 rfl rfl ?_
                    refine s_icmpN B X101 (pc' := 411) at_408 (by decide) rfl ?_
                    refine s_iconst B X101 (pc' := 412) (v := (1 : Int32)) at_411 rfl rfl ?_
                    refine s_goto B X101 (pc' := 416) at_412 (by decide) (by decide) ?_
                    exact jn416 T101 _ (X101.mono (by decide) (by decide)) e101 N82
                rcases (by omega : tl = 0 ∨ tl = 1 ∨ tl = 2 ∨ tl = 3) with q102 | q102 | q102 | q102
                · refine s_iload B Xj283 (pc' := 285) at_283 rfl rfl ?_
                  refine s_iconst B Xj283 (pc' := 286) (v := (1 : Int32)) at_285 rfl rfl ?_
                  refine b_icmp_ne B Xj283 (py := 302) (pn := 289) at_286 (by decide) (by decide) rfl (fun _ => ?_) (fun q => absurd q (fun z => by have := sm_inj (y := 1) (by omega) (by decide) z; omega))
                  refine s_iload B Xj283 (pc' := 304) at_302 rfl rfl ?_
                  refine s_iconst B Xj283 (pc' := 305) (v := (2 : Int32)) at_304 rfl rfl ?_
                  refine b_icmp_ne B Xj283 (py := 334) (pn := 308) at_305 (by decide) (by decide) rfl (fun _ => ?_) (fun q => absurd q (fun z => by have := sm_inj (y := 2) (by omega) (by decide) z; omega))
                  refine s_iload B Xj283 (pc' := 336) at_334 rfl rfl ?_
                  refine s_iconst B Xj283 (pc' := 337) (v := (3 : Int32)) at_336 rfl rfl ?_
                  refine b_icmp_ne B Xj283 (py := 361) (pn := 340) at_337 (by decide) (by decide) rfl (fun _ => ?_) (fun q => absurd q (fun z => by have := sm_inj (y := 3) (by omega) (by decide) z; omega))
                  exact jn361 Tj283 hj283 _ _ Xj283 ej283 Nj283 Aj283 y283_0 y283_1 y283_2 y283_3 y283_4 y283_5 (fun z => by omega)
                · refine s_iload B Xj283 (pc' := 285) at_283 rfl rfl ?_
                  refine s_iconst B Xj283 (pc' := 286) (v := (1 : Int32)) at_285 rfl rfl ?_
                  refine b_icmp_ne B Xj283 (py := 302) (pn := 289) at_286 (by decide) (by decide) rfl (fun q => absurd (congrArg Int32.ofNat q102) q) (fun _ => ?_)
                  refine s_aload B Xj283 (pc' := 291) at_289 rfl rfl rfl ?_
                  refine s_iload B Xj283 (pc' := 293) at_291 rfl rfl ?_
                  refine s_iloadN B Xj283 (pc' := 294) at_293 rfl rfl ?_
                  refine s_bipush B Xj283 (pc' := 296) (v := (24 : Int32)) at_294 rfl rfl ?_
                  refine s_iushr B Xj283 (pc' := 297) (v := ((i1.toUInt32 >>> ((24 : Int32) &&& 31).toUInt32).toInt32)) at_296 rfl rfl ?_
                  refine s_i2b B Xj283 (pc' := 298) (v := ((i1.toUInt32 >>> ((24 : Int32) &&& 31).toUInt32).toInt32).toInt8.toInt32) at_297 rfl rfl ?_
                  refine s_stBA B Xj283 (pc' := 299) (j := (2 + ln)) (x := ((i1.toUInt32 >>> ((24 : Int32) &&& 31).toUInt32).toInt32).toInt8.toInt32) ej283 Aj283 (by omega) (by omega) at_298 rfl (fun T103 h103 X103 e103 W103 Ab103 => ?_)
                  have N103 := Fr.snoc X103 Nj283 ga
                  have p103_0 : (updB f ((2 + ln)) (nar .byte ((i1.toUInt32 >>> ((24 : Int32) &&& 31).toUInt32).toInt32).toInt8.toInt32)) (0) &&& 255 = Int32.ofNat (48) := by rw [updB_ne (by omega)]; exact y283_0
                  have p103_1 : (updB f ((2 + ln)) (nar .byte ((i1.toUInt32 >>> ((24 : Int32) &&& 31).toUInt32).toInt32).toInt8.toInt32)) (1) &&& 255 = Int32.ofNat (ln) := by rw [updB_ne (by omega)]; exact y283_1
                  have p103_2 : (updB f ((2 + ln)) (nar .byte ((i1.toUInt32 >>> ((24 : Int32) &&& 31).toUInt32).toInt32).toInt8.toInt32)) (2) &&& 255 = Int32.ofNat (4) := by rw [updB_ne (by omega)]; exact y283_2
                  have p103_3 : (updB f ((2 + ln)) (nar .byte ((i1.toUInt32 >>> ((24 : Int32) &&& 31).toUInt32).toInt32).toInt8.toInt32)) (3) &&& 255 = Int32.ofNat (n1) := by rw [updB_ne (by omega)]; exact y283_3
                  have p103_4 : (updB f ((2 + ln)) (nar .byte ((i1.toUInt32 >>> ((24 : Int32) &&& 31).toUInt32).toInt32).toInt8.toInt32)) ((2 + (2 + n1))) &&& 255 = Int32.ofNat (4) := by rw [updB_ne (by omega)]; exact y283_4
                  have p103_5 : (updB f ((2 + ln)) (nar .byte ((i1.toUInt32 >>> ((24 : Int32) &&& 31).toUInt32).toInt32).toInt8.toInt32)) (((2 + (2 + n1)) + 1)) &&& 255 = Int32.ofNat (n2) := by rw [updB_ne (by omega)]; exact y283_5
                  show Go p e below _ (T103.setTop (mkF m 299 #[.val (.int i0), .val (.int i1), .val (.int (Int32.ofNat n1)), .val (.int (Int32.ofNat n2)), .val (.int (2 : Int32)), .val (.int (Int32.ofNat tl)), .val (.int (Int32.ofNat jk)), .val (.int (Int32.ofNat ln)), .val (.int (Int32.ofNat ex)), .val (.ref a), .val (.int (Int32.ofNat (2 + ln))), .unset, .unset, .unset] []))
                  refine s_goto B X103 (pc' := 361) at_299 (by decide) (by decide) ?_
                  exact jn361 T103 h103 _ _ X103 e103 N103 Ab103 p103_0 p103_1 p103_2 p103_3 p103_4 p103_5 (fun z => by omega)
                · refine s_iload B Xj283 (pc' := 285) at_283 rfl rfl ?_
                  refine s_iconst B Xj283 (pc' := 286) (v := (1 : Int32)) at_285 rfl rfl ?_
                  refine b_icmp_ne B Xj283 (py := 302) (pn := 289) at_286 (by decide) (by decide) rfl (fun _ => ?_) (fun q => absurd q (fun z => by have := sm_inj (y := 1) (by omega) (by decide) z; omega))
                  refine s_iload B Xj283 (pc' := 304) at_302 rfl rfl ?_
                  refine s_iconst B Xj283 (pc' := 305) (v := (2 : Int32)) at_304 rfl rfl ?_
                  refine b_icmp_ne B Xj283 (py := 334) (pn := 308) at_305 (by decide) (by decide) rfl (fun q => absurd (congrArg Int32.ofNat q102) q) (fun _ => ?_)
                  refine s_aload B Xj283 (pc' := 310) at_308 rfl rfl rfl ?_
                  refine s_iload B Xj283 (pc' := 312) at_310 rfl rfl ?_
                  refine s_iconst B Xj283 (pc' := 313) (v := (1 : Int32)) at_312 rfl rfl ?_
                  refine s_stBA B Xj283 (pc' := 314) (j := (2 + ln)) (x := (1 : Int32)) ej283 Aj283 (by omega) (by omega) at_313 rfl (fun T104 h104 X104 e104 W104 Ab104 => ?_)
                  have N104 := Fr.snoc X104 Nj283 ga
                  have p104_0 : (updB f ((2 + ln)) (nar .byte (1 : Int32))) (0) &&& 255 = Int32.ofNat (48) := by rw [updB_ne (by omega)]; exact y283_0
                  have p104_1 : (updB f ((2 + ln)) (nar .byte (1 : Int32))) (1) &&& 255 = Int32.ofNat (ln) := by rw [updB_ne (by omega)]; exact y283_1
                  have p104_2 : (updB f ((2 + ln)) (nar .byte (1 : Int32))) (2) &&& 255 = Int32.ofNat (4) := by rw [updB_ne (by omega)]; exact y283_2
                  have p104_3 : (updB f ((2 + ln)) (nar .byte (1 : Int32))) (3) &&& 255 = Int32.ofNat (n1) := by rw [updB_ne (by omega)]; exact y283_3
                  have p104_4 : (updB f ((2 + ln)) (nar .byte (1 : Int32))) ((2 + (2 + n1))) &&& 255 = Int32.ofNat (4) := by rw [updB_ne (by omega)]; exact y283_4
                  have p104_5 : (updB f ((2 + ln)) (nar .byte (1 : Int32))) (((2 + (2 + n1)) + 1)) &&& 255 = Int32.ofNat (n2) := by rw [updB_ne (by omega)]; exact y283_5
                  have p104_n : (updB f ((2 + ln)) (nar .byte (1 : Int32))) ((2 + ln)) &&& 255 = Int32.ofNat (1) := by rw [updB_same]; exact own_nb (x := 1) (by decide)
                  show Go p e below _ (T104.setTop (mkF m 314 #[.val (.int i0), .val (.int i1), .val (.int (Int32.ofNat n1)), .val (.int (Int32.ofNat n2)), .val (.int (2 : Int32)), .val (.int (Int32.ofNat tl)), .val (.int (Int32.ofNat jk)), .val (.int (Int32.ofNat ln)), .val (.int (Int32.ofNat ex)), .val (.ref a), .val (.int (Int32.ofNat (2 + ln))), .unset, .unset, .unset] []))
                  refine s_aload B X104 (pc' := 316) at_314 rfl rfl rfl ?_
                  refine s_iload B X104 (pc' := 318) at_316 rfl rfl ?_
                  refine s_iconst B X104 (pc' := 319) (v := (1 : Int32)) at_318 rfl rfl ?_
                  refine s_iadd B X104 (pc' := 320) (v := (Int32.ofNat ((2 + ln) + 1))) at_319 (sm_add (x := (2 + ln)) (y := 1) (by omega) (by omega)) rfl ?_
                  refine s_iconst B X104 (pc' := 321) (v := (1 : Int32)) at_320 rfl rfl ?_
                  refine s_stBA B X104 (pc' := 322) (j := ((2 + ln) + 1)) (x := (1 : Int32)) e104 Ab104 (by omega) (by omega) at_321 rfl (fun T105 h105 X105 e105 W105 Ab105 => ?_)
                  have N105 := Fr.snoc X105 N104 ga
                  have p105_0 : (updB (updB f ((2 + ln)) (nar .byte (1 : Int32))) (((2 + ln) + 1)) (nar .byte (1 : Int32))) (0) &&& 255 = Int32.ofNat (48) := by rw [updB_ne (by omega)]; exact p104_0
                  have p105_1 : (updB (updB f ((2 + ln)) (nar .byte (1 : Int32))) (((2 + ln) + 1)) (nar .byte (1 : Int32))) (1) &&& 255 = Int32.ofNat (ln) := by rw [updB_ne (by omega)]; exact p104_1
                  have p105_2 : (updB (updB f ((2 + ln)) (nar .byte (1 : Int32))) (((2 + ln) + 1)) (nar .byte (1 : Int32))) (2) &&& 255 = Int32.ofNat (4) := by rw [updB_ne (by omega)]; exact p104_2
                  have p105_3 : (updB (updB f ((2 + ln)) (nar .byte (1 : Int32))) (((2 + ln) + 1)) (nar .byte (1 : Int32))) (3) &&& 255 = Int32.ofNat (n1) := by rw [updB_ne (by omega)]; exact p104_3
                  have p105_4 : (updB (updB f ((2 + ln)) (nar .byte (1 : Int32))) (((2 + ln) + 1)) (nar .byte (1 : Int32))) ((2 + (2 + n1))) &&& 255 = Int32.ofNat (4) := by rw [updB_ne (by omega)]; exact p104_4
                  have p105_5 : (updB (updB f ((2 + ln)) (nar .byte (1 : Int32))) (((2 + ln) + 1)) (nar .byte (1 : Int32))) (((2 + (2 + n1)) + 1)) &&& 255 = Int32.ofNat (n2) := by rw [updB_ne (by omega)]; exact p104_5
                  have p105_6 : (updB (updB f ((2 + ln)) (nar .byte (1 : Int32))) (((2 + ln) + 1)) (nar .byte (1 : Int32))) ((2 + ln)) &&& 255 = Int32.ofNat (1) := by rw [updB_ne (by omega)]; exact p104_n
                  have p105_n : (updB (updB f ((2 + ln)) (nar .byte (1 : Int32))) (((2 + ln) + 1)) (nar .byte (1 : Int32))) (((2 + ln) + 1)) &&& 255 = Int32.ofNat (1) := by rw [updB_same]; exact own_nb (x := 1) (by decide)
                  show Go p e below _ (T105.setTop (mkF m 322 #[.val (.int i0), .val (.int i1), .val (.int (Int32.ofNat n1)), .val (.int (Int32.ofNat n2)), .val (.int (2 : Int32)), .val (.int (Int32.ofNat tl)), .val (.int (Int32.ofNat jk)), .val (.int (Int32.ofNat ln)), .val (.int (Int32.ofNat ex)), .val (.ref a), .val (.int (Int32.ofNat (2 + ln))), .unset, .unset, .unset] []))
                  refine s_aload B X105 (pc' := 324) at_322 rfl rfl rfl ?_
                  refine s_iload B X105 (pc' := 326) at_324 rfl rfl ?_
                  refine s_iconst B X105 (pc' := 327) (v := (2 : Int32)) at_326 rfl rfl ?_
                  refine s_iadd B X105 (pc' := 328) (v := (Int32.ofNat ((2 + ln) + 2))) at_327 (sm_add (x := (2 + ln)) (y := 2) (by omega) (by omega)) rfl ?_
                  refine s_iloadN B X105 (pc' := 329) at_328 rfl rfl ?_
                  refine s_i2b B X105 (pc' := 330) (v := i1.toInt8.toInt32) at_329 rfl rfl ?_
                  refine s_stBA B X105 (pc' := 331) (j := ((2 + ln) + 2)) (x := i1.toInt8.toInt32) e105 Ab105 (by omega) (by omega) at_330 rfl (fun T106 h106 X106 e106 W106 Ab106 => ?_)
                  have N106 := Fr.snoc X106 N105 ga
                  have p106_0 : (updB (updB (updB f ((2 + ln)) (nar .byte (1 : Int32))) (((2 + ln) + 1)) (nar .byte (1 : Int32))) (((2 + ln) + 2)) (nar .byte i1.toInt8.toInt32)) (0) &&& 255 = Int32.ofNat (48) := by rw [updB_ne (by omega)]; exact p105_0
                  have p106_1 : (updB (updB (updB f ((2 + ln)) (nar .byte (1 : Int32))) (((2 + ln) + 1)) (nar .byte (1 : Int32))) (((2 + ln) + 2)) (nar .byte i1.toInt8.toInt32)) (1) &&& 255 = Int32.ofNat (ln) := by rw [updB_ne (by omega)]; exact p105_1
                  have p106_2 : (updB (updB (updB f ((2 + ln)) (nar .byte (1 : Int32))) (((2 + ln) + 1)) (nar .byte (1 : Int32))) (((2 + ln) + 2)) (nar .byte i1.toInt8.toInt32)) (2) &&& 255 = Int32.ofNat (4) := by rw [updB_ne (by omega)]; exact p105_2
                  have p106_3 : (updB (updB (updB f ((2 + ln)) (nar .byte (1 : Int32))) (((2 + ln) + 1)) (nar .byte (1 : Int32))) (((2 + ln) + 2)) (nar .byte i1.toInt8.toInt32)) (3) &&& 255 = Int32.ofNat (n1) := by rw [updB_ne (by omega)]; exact p105_3
                  have p106_4 : (updB (updB (updB f ((2 + ln)) (nar .byte (1 : Int32))) (((2 + ln) + 1)) (nar .byte (1 : Int32))) (((2 + ln) + 2)) (nar .byte i1.toInt8.toInt32)) ((2 + (2 + n1))) &&& 255 = Int32.ofNat (4) := by rw [updB_ne (by omega)]; exact p105_4
                  have p106_5 : (updB (updB (updB f ((2 + ln)) (nar .byte (1 : Int32))) (((2 + ln) + 1)) (nar .byte (1 : Int32))) (((2 + ln) + 2)) (nar .byte i1.toInt8.toInt32)) (((2 + (2 + n1)) + 1)) &&& 255 = Int32.ofNat (n2) := by rw [updB_ne (by omega)]; exact p105_5
                  have p106_6 : (updB (updB (updB f ((2 + ln)) (nar .byte (1 : Int32))) (((2 + ln) + 1)) (nar .byte (1 : Int32))) (((2 + ln) + 2)) (nar .byte i1.toInt8.toInt32)) ((2 + ln)) &&& 255 = Int32.ofNat (1) := by rw [updB_ne (by omega)]; exact p105_6
                  have p106_7 : (updB (updB (updB f ((2 + ln)) (nar .byte (1 : Int32))) (((2 + ln) + 1)) (nar .byte (1 : Int32))) (((2 + ln) + 2)) (nar .byte i1.toInt8.toInt32)) (((2 + ln) + 1)) &&& 255 = Int32.ofNat (1) := by rw [updB_ne (by omega)]; exact p105_n
                  show Go p e below _ (T106.setTop (mkF m 331 #[.val (.int i0), .val (.int i1), .val (.int (Int32.ofNat n1)), .val (.int (Int32.ofNat n2)), .val (.int (2 : Int32)), .val (.int (Int32.ofNat tl)), .val (.int (Int32.ofNat jk)), .val (.int (Int32.ofNat ln)), .val (.int (Int32.ofNat ex)), .val (.ref a), .val (.int (Int32.ofNat (2 + ln))), .unset, .unset, .unset] []))
                  refine s_goto B X106 (pc' := 361) at_331 (by decide) (by decide) ?_
                  exact jn361 T106 h106 _ _ X106 e106 N106 Ab106 p106_0 p106_1 p106_2 p106_3 p106_4 p106_5 (fun _ => ⟨p106_6, p106_7⟩)
                · refine s_iload B Xj283 (pc' := 285) at_283 rfl rfl ?_
                  refine s_iconst B Xj283 (pc' := 286) (v := (1 : Int32)) at_285 rfl rfl ?_
                  refine b_icmp_ne B Xj283 (py := 302) (pn := 289) at_286 (by decide) (by decide) rfl (fun _ => ?_) (fun q => absurd q (fun z => by have := sm_inj (y := 1) (by omega) (by decide) z; omega))
                  refine s_iload B Xj283 (pc' := 304) at_302 rfl rfl ?_
                  refine s_iconst B Xj283 (pc' := 305) (v := (2 : Int32)) at_304 rfl rfl ?_
                  refine b_icmp_ne B Xj283 (py := 334) (pn := 308) at_305 (by decide) (by decide) rfl (fun _ => ?_) (fun q => absurd q (fun z => by have := sm_inj (y := 2) (by omega) (by decide) z; omega))
                  refine s_iload B Xj283 (pc' := 336) at_334 rfl rfl ?_
                  refine s_iconst B Xj283 (pc' := 337) (v := (3 : Int32)) at_336 rfl rfl ?_
                  refine b_icmp_ne B Xj283 (py := 361) (pn := 340) at_337 (by decide) (by decide) rfl (fun q => absurd (congrArg Int32.ofNat q102) q) (fun _ => ?_)
                  refine s_aload B Xj283 (pc' := 342) at_340 rfl rfl rfl ?_
                  refine s_iload B Xj283 (pc' := 344) at_342 rfl rfl ?_
                  refine s_iloadN B Xj283 (pc' := 345) at_344 rfl rfl ?_
                  refine s_bipush B Xj283 (pc' := 347) (v := (24 : Int32)) at_345 rfl rfl ?_
                  refine s_iushr B Xj283 (pc' := 348) (v := ((i1.toUInt32 >>> ((24 : Int32) &&& 31).toUInt32).toInt32)) at_347 rfl rfl ?_
                  refine s_i2b B Xj283 (pc' := 349) (v := ((i1.toUInt32 >>> ((24 : Int32) &&& 31).toUInt32).toInt32).toInt8.toInt32) at_348 rfl rfl ?_
                  refine s_stBA B Xj283 (pc' := 350) (j := (2 + ln)) (x := ((i1.toUInt32 >>> ((24 : Int32) &&& 31).toUInt32).toInt32).toInt8.toInt32) ej283 Aj283 (by omega) (by omega) at_349 rfl (fun T107 h107 X107 e107 W107 Ab107 => ?_)
                  have N107 := Fr.snoc X107 Nj283 ga
                  have p107_0 : (updB f ((2 + ln)) (nar .byte ((i1.toUInt32 >>> ((24 : Int32) &&& 31).toUInt32).toInt32).toInt8.toInt32)) (0) &&& 255 = Int32.ofNat (48) := by rw [updB_ne (by omega)]; exact y283_0
                  have p107_1 : (updB f ((2 + ln)) (nar .byte ((i1.toUInt32 >>> ((24 : Int32) &&& 31).toUInt32).toInt32).toInt8.toInt32)) (1) &&& 255 = Int32.ofNat (ln) := by rw [updB_ne (by omega)]; exact y283_1
                  have p107_2 : (updB f ((2 + ln)) (nar .byte ((i1.toUInt32 >>> ((24 : Int32) &&& 31).toUInt32).toInt32).toInt8.toInt32)) (2) &&& 255 = Int32.ofNat (4) := by rw [updB_ne (by omega)]; exact y283_2
                  have p107_3 : (updB f ((2 + ln)) (nar .byte ((i1.toUInt32 >>> ((24 : Int32) &&& 31).toUInt32).toInt32).toInt8.toInt32)) (3) &&& 255 = Int32.ofNat (n1) := by rw [updB_ne (by omega)]; exact y283_3
                  have p107_4 : (updB f ((2 + ln)) (nar .byte ((i1.toUInt32 >>> ((24 : Int32) &&& 31).toUInt32).toInt32).toInt8.toInt32)) ((2 + (2 + n1))) &&& 255 = Int32.ofNat (4) := by rw [updB_ne (by omega)]; exact y283_4
                  have p107_5 : (updB f ((2 + ln)) (nar .byte ((i1.toUInt32 >>> ((24 : Int32) &&& 31).toUInt32).toInt32).toInt8.toInt32)) (((2 + (2 + n1)) + 1)) &&& 255 = Int32.ofNat (n2) := by rw [updB_ne (by omega)]; exact y283_5
                  show Go p e below _ (T107.setTop (mkF m 350 #[.val (.int i0), .val (.int i1), .val (.int (Int32.ofNat n1)), .val (.int (Int32.ofNat n2)), .val (.int (2 : Int32)), .val (.int (Int32.ofNat tl)), .val (.int (Int32.ofNat jk)), .val (.int (Int32.ofNat ln)), .val (.int (Int32.ofNat ex)), .val (.ref a), .val (.int (Int32.ofNat (2 + ln))), .unset, .unset, .unset] []))
                  refine s_aload B X107 (pc' := 352) at_350 rfl rfl rfl ?_
                  refine s_iload B X107 (pc' := 354) at_352 rfl rfl ?_
                  refine s_iconst B X107 (pc' := 355) (v := (1 : Int32)) at_354 rfl rfl ?_
                  refine s_iadd B X107 (pc' := 356) (v := (Int32.ofNat ((2 + ln) + 1))) at_355 (sm_add (x := (2 + ln)) (y := 1) (by omega) (by omega)) rfl ?_
                  refine s_iloadN B X107 (pc' := 357) at_356 rfl rfl ?_
                  refine s_iconst B X107 (pc' := 358) (v := (4 : Int32)) at_357 rfl rfl ?_
                  refine s_iushr B X107 (pc' := 359) (v := ((i1.toUInt32 >>> ((4 : Int32) &&& 31).toUInt32).toInt32)) at_358 rfl rfl ?_
                  refine s_i2b B X107 (pc' := 360) (v := ((i1.toUInt32 >>> ((4 : Int32) &&& 31).toUInt32).toInt32).toInt8.toInt32) at_359 rfl rfl ?_
                  refine s_stBA B X107 (pc' := 361) (j := ((2 + ln) + 1)) (x := ((i1.toUInt32 >>> ((4 : Int32) &&& 31).toUInt32).toInt32).toInt8.toInt32) e107 Ab107 (by omega) (by omega) at_360 rfl (fun T108 h108 X108 e108 W108 Ab108 => ?_)
                  have N108 := Fr.snoc X108 N107 ga
                  have p108_0 : (updB (updB f ((2 + ln)) (nar .byte ((i1.toUInt32 >>> ((24 : Int32) &&& 31).toUInt32).toInt32).toInt8.toInt32)) (((2 + ln) + 1)) (nar .byte ((i1.toUInt32 >>> ((4 : Int32) &&& 31).toUInt32).toInt32).toInt8.toInt32)) (0) &&& 255 = Int32.ofNat (48) := by rw [updB_ne (by omega)]; exact p107_0
                  have p108_1 : (updB (updB f ((2 + ln)) (nar .byte ((i1.toUInt32 >>> ((24 : Int32) &&& 31).toUInt32).toInt32).toInt8.toInt32)) (((2 + ln) + 1)) (nar .byte ((i1.toUInt32 >>> ((4 : Int32) &&& 31).toUInt32).toInt32).toInt8.toInt32)) (1) &&& 255 = Int32.ofNat (ln) := by rw [updB_ne (by omega)]; exact p107_1
                  have p108_2 : (updB (updB f ((2 + ln)) (nar .byte ((i1.toUInt32 >>> ((24 : Int32) &&& 31).toUInt32).toInt32).toInt8.toInt32)) (((2 + ln) + 1)) (nar .byte ((i1.toUInt32 >>> ((4 : Int32) &&& 31).toUInt32).toInt32).toInt8.toInt32)) (2) &&& 255 = Int32.ofNat (4) := by rw [updB_ne (by omega)]; exact p107_2
                  have p108_3 : (updB (updB f ((2 + ln)) (nar .byte ((i1.toUInt32 >>> ((24 : Int32) &&& 31).toUInt32).toInt32).toInt8.toInt32)) (((2 + ln) + 1)) (nar .byte ((i1.toUInt32 >>> ((4 : Int32) &&& 31).toUInt32).toInt32).toInt8.toInt32)) (3) &&& 255 = Int32.ofNat (n1) := by rw [updB_ne (by omega)]; exact p107_3
                  have p108_4 : (updB (updB f ((2 + ln)) (nar .byte ((i1.toUInt32 >>> ((24 : Int32) &&& 31).toUInt32).toInt32).toInt8.toInt32)) (((2 + ln) + 1)) (nar .byte ((i1.toUInt32 >>> ((4 : Int32) &&& 31).toUInt32).toInt32).toInt8.toInt32)) ((2 + (2 + n1))) &&& 255 = Int32.ofNat (4) := by rw [updB_ne (by omega)]; exact p107_4
                  have p108_5 : (updB (updB f ((2 + ln)) (nar .byte ((i1.toUInt32 >>> ((24 : Int32) &&& 31).toUInt32).toInt32).toInt8.toInt32)) (((2 + ln) + 1)) (nar .byte ((i1.toUInt32 >>> ((4 : Int32) &&& 31).toUInt32).toInt32).toInt8.toInt32)) (((2 + (2 + n1)) + 1)) &&& 255 = Int32.ofNat (n2) := by rw [updB_ne (by omega)]; exact p107_5
                  show Go p e below _ (T108.setTop (mkF m 361 #[.val (.int i0), .val (.int i1), .val (.int (Int32.ofNat n1)), .val (.int (Int32.ofNat n2)), .val (.int (2 : Int32)), .val (.int (Int32.ofNat tl)), .val (.int (Int32.ofNat jk)), .val (.int (Int32.ofNat ln)), .val (.int (Int32.ofNat ex)), .val (.ref a), .val (.int (Int32.ofNat (2 + ln))), .unset, .unset, .unset] []))
                  exact jn361 T108 h108 _ _ X108 e108 N108 Ab108 p108_0 p108_1 p108_2 p108_3 p108_4 p108_5 (fun z => by omega)
              show Go p e below _ (Tj257.setTop (mkF m 265 #[.val (.int i0), .val (.int i1), .val (.int (Int32.ofNat n1)), .val (.int (Int32.ofNat n2)), .val (.int (2 : Int32)), .val (.int (Int32.ofNat tl)), .val (.int (Int32.ofNat jk)), .val (.int (Int32.ofNat ln)), .val (.int (Int32.ofNat ex)), .val (.ref a), .val (.int (Int32.ofNat ((2 + (2 + n1)) + (2 + n2)))), .unset, .unset, .unset] []))
              rcases (by omega : jk = 0 ∨ jk = 1) with q109 | q109
              · refine s_iload B Xj257 (pc' := 267) at_265 rfl rfl ?_
                refine b_if_eq B Xj257 (py := 283) (pn := 270) at_267 (by decide) (by decide) rfl (fun _ => ?_) (fun q => absurd (congrArg Int32.ofNat q109) q)
                exact jn283 Tj257 hj257 _ _ _ Xj257 ej257 Nj257 Aj257 y257_0 y257_1 y257_2 y257_3 y257_4 y257_5 (by omega)
              · refine s_iload B Xj257 (pc' := 267) at_265 rfl rfl ?_
                refine b_if_eq B Xj257 (py := 283) (pn := 270) at_267 (by decide) (by decide) rfl (fun q => absurd q (fun z => by have := sm_inj (y := 0) (by omega) (by decide) z; omega)) (fun _ => ?_)
                refine s_aload B Xj257 (pc' := 272) at_270 rfl rfl rfl ?_
                refine s_iload B Xj257 (pc' := 274) at_272 rfl rfl ?_
                refine s_iloadN B Xj257 (pc' := 275) at_274 rfl rfl ?_
                refine s_bipush B Xj257 (pc' := 277) (v := (16 : Int32)) at_275 rfl rfl ?_
                refine s_iushr B Xj257 (pc' := 278) (v := ((i1.toUInt32 >>> ((16 : Int32) &&& 31).toUInt32).toInt32)) at_277 rfl rfl ?_
                refine s_i2b B Xj257 (pc' := 279) (v := ((i1.toUInt32 >>> ((16 : Int32) &&& 31).toUInt32).toInt32).toInt8.toInt32) at_278 rfl rfl ?_
                refine s_stBA B Xj257 (pc' := 280) (j := ((2 + (2 + n1)) + (2 + n2))) (x := ((i1.toUInt32 >>> ((16 : Int32) &&& 31).toUInt32).toInt32).toInt8.toInt32) ej257 Aj257 (by omega) (by omega) at_279 rfl (fun T110 h110 X110 e110 W110 Ab110 => ?_)
                have N110 := Fr.snoc X110 Nj257 ga
                have p110_0 : (updB f (((2 + (2 + n1)) + (2 + n2))) (nar .byte ((i1.toUInt32 >>> ((16 : Int32) &&& 31).toUInt32).toInt32).toInt8.toInt32)) (0) &&& 255 = Int32.ofNat (48) := by rw [updB_ne (by omega)]; exact y257_0
                have p110_1 : (updB f (((2 + (2 + n1)) + (2 + n2))) (nar .byte ((i1.toUInt32 >>> ((16 : Int32) &&& 31).toUInt32).toInt32).toInt8.toInt32)) (1) &&& 255 = Int32.ofNat (ln) := by rw [updB_ne (by omega)]; exact y257_1
                have p110_2 : (updB f (((2 + (2 + n1)) + (2 + n2))) (nar .byte ((i1.toUInt32 >>> ((16 : Int32) &&& 31).toUInt32).toInt32).toInt8.toInt32)) (2) &&& 255 = Int32.ofNat (4) := by rw [updB_ne (by omega)]; exact y257_2
                have p110_3 : (updB f (((2 + (2 + n1)) + (2 + n2))) (nar .byte ((i1.toUInt32 >>> ((16 : Int32) &&& 31).toUInt32).toInt32).toInt8.toInt32)) (3) &&& 255 = Int32.ofNat (n1) := by rw [updB_ne (by omega)]; exact y257_3
                have p110_4 : (updB f (((2 + (2 + n1)) + (2 + n2))) (nar .byte ((i1.toUInt32 >>> ((16 : Int32) &&& 31).toUInt32).toInt32).toInt8.toInt32)) ((2 + (2 + n1))) &&& 255 = Int32.ofNat (4) := by rw [updB_ne (by omega)]; exact y257_4
                have p110_5 : (updB f (((2 + (2 + n1)) + (2 + n2))) (nar .byte ((i1.toUInt32 >>> ((16 : Int32) &&& 31).toUInt32).toInt32).toInt8.toInt32)) (((2 + (2 + n1)) + 1)) &&& 255 = Int32.ofNat (n2) := by rw [updB_ne (by omega)]; exact y257_5
                show Go p e below _ (T110.setTop (mkF m 280 #[.val (.int i0), .val (.int i1), .val (.int (Int32.ofNat n1)), .val (.int (Int32.ofNat n2)), .val (.int (2 : Int32)), .val (.int (Int32.ofNat tl)), .val (.int (Int32.ofNat jk)), .val (.int (Int32.ofNat ln)), .val (.int (Int32.ofNat ex)), .val (.ref a), .val (.int (Int32.ofNat ((2 + (2 + n1)) + (2 + n2)))), .unset, .unset, .unset] []))
                refine s_iinc B X110 (pc' := 283) (v := (Int32.ofNat (((2 + (2 + n1)) + (2 + n2)) + 1))) (Ls' := #[.val (.int i0), .val (.int i1), .val (.int (Int32.ofNat n1)), .val (.int (Int32.ofNat n2)), .val (.int (2 : Int32)), .val (.int (Int32.ofNat tl)), .val (.int (Int32.ofNat jk)), .val (.int (Int32.ofNat ln)), .val (.int (Int32.ofNat ex)), .val (.ref a), .val (.int (Int32.ofNat (((2 + (2 + n1)) + (2 + n2)) + 1))), .unset, .unset, .unset]) at_280 rfl (sm_inc (by omega)) rfl rfl ?_
                exact jn283 T110 h110 _ _ _ X110 e110 N110 Ab110 p110_0 p110_1 p110_2 p110_3 p110_4 p110_5 (by omega)
            by_cases q111 : n2 < 1
            · refine s_iloadN B X78 (pc' := 241) at_240 rfl rfl ?_
              refine s_iconst B X78 (pc' := 242) (v := (1 : Int32)) at_241 rfl rfl ?_
              refine b_icmp_lt B X78 (py := 257) (pn := 245) at_242 (by decide) (by decide) rfl (fun _ => ?_) (fun q => absurd ((sm_lt (x := n2) (y := 1) (by omega) (by decide)).mpr q111) q)
              exact jn257 T78 h78 _ _ X78 e78 N78 Ab78 p78_0 p78_1 p78_2 p78_3 p78_4 p78_n 
            · refine s_iloadN B X78 (pc' := 241) at_240 rfl rfl ?_
              refine s_iconst B X78 (pc' := 242) (v := (1 : Int32)) at_241 rfl rfl ?_
              refine b_icmp_lt B X78 (py := 257) (pn := 245) at_242 (by decide) (by decide) rfl (fun q => absurd q (fun z => q111 ((sm_lt (x := n2) (y := 1) (by omega) (by decide)).mp z))) (fun _ => ?_)
              refine s_aload B X78 (pc' := 247) at_245 rfl rfl rfl ?_
              refine s_iload B X78 (pc' := 249) at_247 rfl rfl ?_
              refine s_iconst B X78 (pc' := 250) (v := (2 : Int32)) at_249 rfl rfl ?_
              refine s_iadd B X78 (pc' := 251) (v := (Int32.ofNat ((2 + (2 + n1)) + 2))) at_250 (sm_add (x := (2 + (2 + n1))) (y := 2) (by omega) (by omega)) rfl ?_
              refine s_iloadN B X78 (pc' := 252) at_251 rfl rfl ?_
              refine s_bipush B X78 (pc' := 254) (v := (8 : Int32)) at_252 rfl rfl ?_
              refine s_iushr B X78 (pc' := 255) (v := ((i1.toUInt32 >>> ((8 : Int32) &&& 31).toUInt32).toInt32)) at_254 rfl rfl ?_
              refine s_i2b B X78 (pc' := 256) (v := ((i1.toUInt32 >>> ((8 : Int32) &&& 31).toUInt32).toInt32).toInt8.toInt32) at_255 rfl rfl ?_
              refine s_stBA B X78 (pc' := 257) (j := ((2 + (2 + n1)) + 2)) (x := ((i1.toUInt32 >>> ((8 : Int32) &&& 31).toUInt32).toInt32).toInt8.toInt32) e78 Ab78 (by omega) (by omega) at_256 rfl (fun T112 h112 X112 e112 W112 Ab112 => ?_)
              have N112 := Fr.snoc X112 N78 ga
              have p112_0 : (updB (updB (updB f ((2 + (2 + n1))) (nar .byte (4 : Int32))) (((2 + (2 + n1)) + 1)) (nar .byte (Int32.ofNat n2))) (((2 + (2 + n1)) + 2)) (nar .byte ((i1.toUInt32 >>> ((8 : Int32) &&& 31).toUInt32).toInt32).toInt8.toInt32)) (0) &&& 255 = Int32.ofNat (48) := by rw [updB_ne (by omega)]; exact p78_0
              have p112_1 : (updB (updB (updB f ((2 + (2 + n1))) (nar .byte (4 : Int32))) (((2 + (2 + n1)) + 1)) (nar .byte (Int32.ofNat n2))) (((2 + (2 + n1)) + 2)) (nar .byte ((i1.toUInt32 >>> ((8 : Int32) &&& 31).toUInt32).toInt32).toInt8.toInt32)) (1) &&& 255 = Int32.ofNat (ln) := by rw [updB_ne (by omega)]; exact p78_1
              have p112_2 : (updB (updB (updB f ((2 + (2 + n1))) (nar .byte (4 : Int32))) (((2 + (2 + n1)) + 1)) (nar .byte (Int32.ofNat n2))) (((2 + (2 + n1)) + 2)) (nar .byte ((i1.toUInt32 >>> ((8 : Int32) &&& 31).toUInt32).toInt32).toInt8.toInt32)) (2) &&& 255 = Int32.ofNat (4) := by rw [updB_ne (by omega)]; exact p78_2
              have p112_3 : (updB (updB (updB f ((2 + (2 + n1))) (nar .byte (4 : Int32))) (((2 + (2 + n1)) + 1)) (nar .byte (Int32.ofNat n2))) (((2 + (2 + n1)) + 2)) (nar .byte ((i1.toUInt32 >>> ((8 : Int32) &&& 31).toUInt32).toInt32).toInt8.toInt32)) (3) &&& 255 = Int32.ofNat (n1) := by rw [updB_ne (by omega)]; exact p78_3
              have p112_4 : (updB (updB (updB f ((2 + (2 + n1))) (nar .byte (4 : Int32))) (((2 + (2 + n1)) + 1)) (nar .byte (Int32.ofNat n2))) (((2 + (2 + n1)) + 2)) (nar .byte ((i1.toUInt32 >>> ((8 : Int32) &&& 31).toUInt32).toInt32).toInt8.toInt32)) ((2 + (2 + n1))) &&& 255 = Int32.ofNat (4) := by rw [updB_ne (by omega)]; exact p78_4
              have p112_5 : (updB (updB (updB f ((2 + (2 + n1))) (nar .byte (4 : Int32))) (((2 + (2 + n1)) + 1)) (nar .byte (Int32.ofNat n2))) (((2 + (2 + n1)) + 2)) (nar .byte ((i1.toUInt32 >>> ((8 : Int32) &&& 31).toUInt32).toInt32).toInt8.toInt32)) (((2 + (2 + n1)) + 1)) &&& 255 = Int32.ofNat (n2) := by rw [updB_ne (by omega)]; exact p78_n
              show Go p e below _ (T112.setTop (mkF m 257 #[.val (.int i0), .val (.int i1), .val (.int (Int32.ofNat n1)), .val (.int (Int32.ofNat n2)), .val (.int (2 : Int32)), .val (.int (Int32.ofNat tl)), .val (.int (Int32.ofNat jk)), .val (.int (Int32.ofNat ln)), .val (.int (Int32.ofNat ex)), .val (.ref a), .val (.int (Int32.ofNat (2 + (2 + n1)))), .unset, .unset, .unset] []))
              exact jn257 T112 h112 _ _ X112 e112 N112 Ab112 p112_0 p112_1 p112_2 p112_3 p112_4 p112_5 
          by_cases q113 : n1 < 1
          · refine s_iloadN B X76 (pc' := 198) at_197 rfl rfl ?_
            refine s_iconst B X76 (pc' := 199) (v := (1 : Int32)) at_198 rfl rfl ?_
            refine b_icmp_lt B X76 (py := 211) (pn := 202) at_199 (by decide) (by decide) rfl (fun _ => ?_) (fun q => absurd ((sm_lt (x := n1) (y := 1) (by omega) (by decide)).mpr q113) q)
            exact jn211 T76 h76 _ _ X76 e76 N76 Ab76 p76_0 p76_1 p76_2 p76_n 
          · refine s_iloadN B X76 (pc' := 198) at_197 rfl rfl ?_
            refine s_iconst B X76 (pc' := 199) (v := (1 : Int32)) at_198 rfl rfl ?_
            refine b_icmp_lt B X76 (py := 211) (pn := 202) at_199 (by decide) (by decide) rfl (fun q => absurd q (fun z => q113 ((sm_lt (x := n1) (y := 1) (by omega) (by decide)).mp z))) (fun _ => ?_)
            refine s_aload B X76 (pc' := 204) at_202 rfl rfl rfl ?_
            refine s_iload B X76 (pc' := 206) at_204 rfl rfl ?_
            refine s_iconst B X76 (pc' := 207) (v := (2 : Int32)) at_206 rfl rfl ?_
            refine s_iadd B X76 (pc' := 208) (v := (4 : Int32)) at_207 rfl rfl ?_
            refine s_iloadN B X76 (pc' := 209) at_208 rfl rfl ?_
            refine s_i2b B X76 (pc' := 210) (v := i1.toInt8.toInt32) at_209 rfl rfl ?_
            refine s_stBA B X76 (pc' := 211) (j := 4) (x := i1.toInt8.toInt32) e76 Ab76 (by omega) (by omega) at_210 rfl (fun T114 h114 X114 e114 W114 Ab114 => ?_)
            have N114 := Fr.snoc X114 N76 ga
            have p114_0 : (updB (updB (updB (updB (updB (fun _ => 0) (0) (nar .byte (48 : Int32))) (1) (nar .byte (Int32.ofNat ln))) (2) (nar .byte (4 : Int32))) (3) (nar .byte (Int32.ofNat n1))) (4) (nar .byte i1.toInt8.toInt32)) (0) &&& 255 = Int32.ofNat (48) := by rw [updB_ne (by omega)]; exact p76_0
            have p114_1 : (updB (updB (updB (updB (updB (fun _ => 0) (0) (nar .byte (48 : Int32))) (1) (nar .byte (Int32.ofNat ln))) (2) (nar .byte (4 : Int32))) (3) (nar .byte (Int32.ofNat n1))) (4) (nar .byte i1.toInt8.toInt32)) (1) &&& 255 = Int32.ofNat (ln) := by rw [updB_ne (by omega)]; exact p76_1
            have p114_2 : (updB (updB (updB (updB (updB (fun _ => 0) (0) (nar .byte (48 : Int32))) (1) (nar .byte (Int32.ofNat ln))) (2) (nar .byte (4 : Int32))) (3) (nar .byte (Int32.ofNat n1))) (4) (nar .byte i1.toInt8.toInt32)) (2) &&& 255 = Int32.ofNat (4) := by rw [updB_ne (by omega)]; exact p76_2
            have p114_3 : (updB (updB (updB (updB (updB (fun _ => 0) (0) (nar .byte (48 : Int32))) (1) (nar .byte (Int32.ofNat ln))) (2) (nar .byte (4 : Int32))) (3) (nar .byte (Int32.ofNat n1))) (4) (nar .byte i1.toInt8.toInt32)) (3) &&& 255 = Int32.ofNat (n1) := by rw [updB_ne (by omega)]; exact p76_n
            show Go p e below _ (T114.setTop (mkF m 211 #[.val (.int i0), .val (.int i1), .val (.int (Int32.ofNat n1)), .val (.int (Int32.ofNat n2)), .val (.int (2 : Int32)), .val (.int (Int32.ofNat tl)), .val (.int (Int32.ofNat jk)), .val (.int (Int32.ofNat ln)), .val (.int (Int32.ofNat ex)), .val (.ref a), .val (.int (2 : Int32)), .unset, .unset, .unset] []))
            exact jn211 T114 h114 _ _ X114 e114 N114 Ab114 p114_0 p114_1 p114_2 p114_3 
        rcases (by omega : tl = 0 ∨ tl = 1 ∨ tl = 2 ∨ tl = 3) with q115 | q115 | q115 | q115
        · refine s_iload B X0 (pc' := 119) at_117 rfl rfl ?_
          refine b_if_ne B X0 (py := 126) (pn := 122) at_119 (by decide) (by decide) rfl (fun q => absurd (congrArg Int32.ofNat q115) q) (fun _ => ?_)
          refine s_iconst B X0 (pc' := 123) (v := (0 : Int32)) at_122 rfl rfl ?_
          refine s_goto B X0 (pc' := 147) at_123 (by decide) (by decide) ?_
          exact jn147 0 (by omega)
        · refine s_iload B X0 (pc' := 119) at_117 rfl rfl ?_
          refine b_if_ne B X0 (py := 126) (pn := 122) at_119 (by decide) (by decide) rfl (fun _ => ?_) (fun q => absurd q (fun z => by have := sm_inj (y := 0) (by omega) (by decide) z; omega))
          refine s_iload B X0 (pc' := 128) at_126 rfl rfl ?_
          refine s_iconst B X0 (pc' := 129) (v := (1 : Int32)) at_128 rfl rfl ?_
          refine b_icmp_ne B X0 (py := 136) (pn := 132) at_129 (by decide) (by decide) rfl (fun q => absurd (congrArg Int32.ofNat q115) q) (fun _ => ?_)
          refine s_iconst B X0 (pc' := 133) (v := (1 : Int32)) at_132 rfl rfl ?_
          refine s_goto B X0 (pc' := 147) at_133 (by decide) (by decide) ?_
          exact jn147 1 (by omega)
        · refine s_iload B X0 (pc' := 119) at_117 rfl rfl ?_
          refine b_if_ne B X0 (py := 126) (pn := 122) at_119 (by decide) (by decide) rfl (fun _ => ?_) (fun q => absurd q (fun z => by have := sm_inj (y := 0) (by omega) (by decide) z; omega))
          refine s_iload B X0 (pc' := 128) at_126 rfl rfl ?_
          refine s_iconst B X0 (pc' := 129) (v := (1 : Int32)) at_128 rfl rfl ?_
          refine b_icmp_ne B X0 (py := 136) (pn := 132) at_129 (by decide) (by decide) rfl (fun _ => ?_) (fun q => absurd q (fun z => by have := sm_inj (y := 1) (by omega) (by decide) z; omega))
          refine s_iload B X0 (pc' := 138) at_136 rfl rfl ?_
          refine s_iconst B X0 (pc' := 139) (v := (2 : Int32)) at_138 rfl rfl ?_
          refine b_icmp_ne B X0 (py := 146) (pn := 142) at_139 (by decide) (by decide) rfl (fun q => absurd (congrArg Int32.ofNat q115) q) (fun _ => ?_)
          refine s_iconst B X0 (pc' := 143) (v := (3 : Int32)) at_142 rfl rfl ?_
          refine s_goto B X0 (pc' := 147) at_143 (by decide) (by decide) ?_
          exact jn147 3 (by omega)
        · refine s_iload B X0 (pc' := 119) at_117 rfl rfl ?_
          refine b_if_ne B X0 (py := 126) (pn := 122) at_119 (by decide) (by decide) rfl (fun _ => ?_) (fun q => absurd q (fun z => by have := sm_inj (y := 0) (by omega) (by decide) z; omega))
          refine s_iload B X0 (pc' := 128) at_126 rfl rfl ?_
          refine s_iconst B X0 (pc' := 129) (v := (1 : Int32)) at_128 rfl rfl ?_
          refine b_icmp_ne B X0 (py := 136) (pn := 132) at_129 (by decide) (by decide) rfl (fun _ => ?_) (fun q => absurd q (fun z => by have := sm_inj (y := 1) (by omega) (by decide) z; omega))
          refine s_iload B X0 (pc' := 138) at_136 rfl rfl ?_
          refine s_iconst B X0 (pc' := 139) (v := (2 : Int32)) at_138 rfl rfl ?_
          refine b_icmp_ne B X0 (py := 146) (pn := 142) at_139 (by decide) (by decide) rfl (fun _ => ?_) (fun q => absurd q (fun z => by have := sm_inj (y := 2) (by omega) (by decide) z; omega))
          refine s_iconst B X0 (pc' := 147) (v := (2 : Int32)) at_146 rfl rfl ?_
          exact jn147 2 (by omega)
      rcases (by omega : jk = 0 ∨ jk = 1) with q116 | q116
      · refine s_iload B X0 (pc' := 111) at_109 rfl rfl ?_
        refine b_if_eq B X0 (py := 117) (pn := 114) at_111 (by decide) (by decide) rfl (fun _ => ?_) (fun q => absurd (congrArg Int32.ofNat q116) q)
        exact jn117 _ (by omega)
      · refine s_iload B X0 (pc' := 111) at_109 rfl rfl ?_
        refine b_if_eq B X0 (py := 117) (pn := 114) at_111 (by decide) (by decide) rfl (fun q => absurd q (fun z => by have := sm_inj (y := 0) (by omega) (by decide) z; omega)) (fun _ => ?_)
        refine s_iinc B X0 (pc' := 117) (v := (Int32.ofNat (((0 + (2 + n1)) + (2 + n2)) + 1))) (Ls' := #[.val (.int i0), .val (.int i1), .val (.int (Int32.ofNat n1)), .val (.int (Int32.ofNat n2)), .val (.int (2 : Int32)), .val (.int (Int32.ofNat tl)), .val (.int (Int32.ofNat jk)), .val (.int (Int32.ofNat (((0 + (2 + n1)) + (2 + n2)) + 1))), .unset, .unset, .unset, .unset, .unset, .unset]) at_114 rfl (sm_inc (by omega)) rfl rfl ?_
        exact jn117 _ (by omega)
  · refine s_new B X0 (pc' := 12) (n0 := 3) e0 (tw0 hw) (tw1 hw) (tw2 hw) (by decide) (by decide) at_9 rfl (fun T117 h117 r g117 X117 e117 E117 A117 D117 => ?_)
    have Kx117 := (Keep.refl Z.heap []).ext E117
    have lr : Z.heap.size ≤ r := Nat.le_of_eq g117.symm
    have gr : Z.heap.size ≤ r := Nat.le_trans (Nat.le_refl _) lr
    have D117_bytes : Fld Z h117 r "com/example/waymark/waymark/ber/BerReader" "bytes" "[B" .null := D117 (Or.inr (tw14 hw)) (ty := (.array .byte)) (by decide)
    have D117_position : Fld Z h117 r "com/example/waymark/waymark/ber/BerReader" "position" "I" (.int (0 : Int32)) := D117 (Or.inl (tw16 hw)) (ty := .int) (by decide)
    have D117_end : Fld Z h117 r "com/example/waymark/waymark/ber/BerReader" "end" "I" (.int (0 : Int32)) := D117 (Or.inr (tw18 hw)) (ty := .int) (by decide)
    show Go p e below _ (T117.setTop (mkF m 12 #[.val (.int i0), .val (.int i1), .unset, .unset, .unset, .unset, .unset, .unset, .unset, .unset, .unset, .unset, .unset, .unset] [(.ref r)]))
    refine s_dup B X117 (pc' := 13) at_12 rfl rfl ?_
    refine s_iconst B X117 (pc' := 14) (v := (0 : Int32)) at_13 rfl rfl ?_
    refine s_newP B X117 (pc' := 16) (aty := .byte) (N := 0) (cap := 0) e117 (tw3 hw) (by decide) (by decide) (by decide) (by decide) (by decide) (by decide) at_14 rfl (fun T118 h118 a k118 g118 X118 e118 E118 A118 => ?_)
    have Kx118 := (Keep.refl h117 []).ext E118
    have E118' := A117.keep Kx118
    have D118_bytes := D117_bytes.keep Kx118 nin0
    have D118_position := D117_position.keep Kx118 nin0
    have D118_end := D117_end.keep Kx118 nin0
    have ga : Z.heap.size ≤ a := Nat.le_trans (Nat.le_trans gr (Nat.le_of_lt A117.lt)) (Nat.le_of_eq g118.symm)
    have ar : a ≠ r := Nat.ne_of_gt (Nat.lt_of_lt_of_le A117.lt (Nat.le_of_eq g118.symm))
    have Ab118 : BA Z h118 a (0) (fun _ => 0) := ⟨⟨k118, A118.congr fun i _ => rfl⟩, fun _ _ => rfl⟩
    show Go p e below _ (T118.setTop (mkF m 16 #[.val (.int i0), .val (.int i1), .unset, .unset, .unset, .unset, .unset, .unset, .unset, .unset, .unset, .unset, .unset, .unset] [(.ref a), (.ref r), (.ref r)]))
    refine c_init B X118 (y := mn7) (pc' := 19) (argsL := [(.ref a)]) (under := [(.ref r)]) (W := 1) e118 rfl (tw4 hw) (tw5 hw) (tw6 hw) (tw2 hw) (by decide) (rm_init1 l Z a0 hw r a (0) _ h118 gr E118' D118_bytes D118_position D118_end Ab118)  (lenOf pd_4 rfl) rfl rfl (by decide) (by decide) (by decide) (by decide) rfl at_16 rfl (fun v119 T119 L119 X119 hQ119 => ?_)
    obtain ⟨rfl, Nq119, Kq119, Er, C1, C2, C3⟩ := hQ119
    obtain ⟨h119, e119⟩ : ∃ z, T119.heap = z := ⟨_, rfl⟩
    rw [e119] at Kq119 Er C1 C2 C3
    have N119 := Fr.app (Fr.nil _) Nq119
    have Ab119 := Ab118.keep Kq119 (ninS ar nin0)
    have R119 : RD Z h119 r a (0) (fun _ => 0) 0 (0) := ⟨Er, ⟨C1, C2, C3⟩, Ab119, ⟨gr, ga, ar⟩, Nat.zero_le _, Nat.le_refl _, by omega⟩
    show Go p e below _ (T119.setTop (mkF m 19 #[.val (.int i0), .val (.int i1), .unset, .unset, .unset, .unset, .unset, .unset, .unset, .unset, .unset, .unset, .unset, .unset] [(.ref r)]))
    refine s_astoreN B X119 (pc' := 20) (Ls' := #[.val (.int i0), .val (.int i1), .val (.ref r), .unset, .unset, .unset, .unset, .unset, .unset, .unset, .unset, .unset, .unset, .unset]) at_19 rfl rfl rfl ?_
    refine s_aloadN B X119 (pc' := 21) at_20 rfl rfl rfl ?_
    refine p_virtual B X119 (y := mn0) (pc' := 24) (argsL := []) (under := []) (W := 0) e119 (tw19 hw) (tw20 hw) (tw22 hw) (tw21 hw) (tw23 hw) (tw2 hw) (by decide) (rm_has l Z a0 hw r a (0) _ (0) (0) 0 h119 R119 (if_neg (by omega))) R119.1 (lenOf pd_5 rfl) rfl rfl (by decide) (by decide) rfl rfl (by decide) (by decide) rfl at_21 rfl (fun T120 X120 e120 => ?_)
    show Go p e below _ (T120.setTop (mkF m 24 #[.val (.int i0), .val (.int i1), .val (.ref r), .unset, .unset, .unset, .unset, .unset, .unset, .unset, .unset, .unset, .unset, .unset] [(.int (0 : Int32))]))
    refine s_ifN B X120 (pc' := 27) at_24 (by decide) rfl ?_
    refine s_iconst B X120 (pc' := 28) (v := (1 : Int32)) at_27 rfl rfl ?_
    refine s_goto B X120 (pc' := 32) at_28 (by decide) (by decide) ?_
    exact r_nar B X120 (t := .boolean) (by simp) rfl at_32 ⟨rfl, N119⟩ (by decide) (by decide)
set_option maxRecDepth 65536 in
set_option maxHeartbeats 40000000 in
theorem comes_1 {Post : Tables → Env → Array Value → State → Outcome → State → Prop} (hpost : ∀ tb e args s v u, (limb_1_1.after args s (.returned v) u = true ∧ limb_1_2.after args s (.returned v) u = true ∧ True) → FrameEnd s (.returned v) u (Jvm.fieldLocs frame_1_writes args s ++ Jvm.arrayLocs frame_1_arrays args s ++ Jvm.staticLocs frame_1_statics s) 32 128 → Post tb e args s (.returned v) u) :
    ArmFor flags0 classFile x code maxLocals ret World_1 tables_1 room_1 Calls_1 rest_1 Pre_1 Post := by
  intro l hfl _ _ p e ha hc hk s m args below hf hA hF happ hP
  obtain ⟨hcalls, hrest, hpre⟩ := hP
  obtain ⟨-, -, -, hnamed, -, -, -, hat⟩ := (Spec.applies_iff hf).mp happ
  obtain ⟨hg, hn⟩ := and_e (Cond.before_iff.mp (show (Jvm.Cond.and given_1 narrow_1).before args s = true from hpre))
  obtain ⟨h1, hg⟩ := and_e hg
  obtain ⟨w0, w1, rfl⟩ : ∃ w0 w1 : Value, args = #[w0, w1] := by
    have hs : args.size = 2 := by simpa [Cond.value, given_1] using h1
    obtain ⟨L⟩ := args
    match L, hs with
    | [w0, w1], _ => exact ⟨w0, w1, rfl⟩
  have hw := fun d (hd : d ∈ tables_1) => atoms_spec (ws := Jvm.Cond.code x code maxLocals ret :: tables_1) hat d (List.mem_cons_of_mem _ hd)
  have hfit : Fit s := fun {y c} hc i hi => by
    obtain ⟨ha, rfl⟩ := Array.getElem?_eq_some_iff.mp hc
    have q := List.all_eq_true.mp ((Array.all_eq_true_iff_forall_mem.mp hF) _ (Array.getElem_mem ha)) i (List.mem_range.mpr hi)
    simpa [Array.getElem?_eq_getElem hi] using q
  obtain ⟨hg0, hg⟩ := and_e hg
  have hg1 := hg
  obtain ⟨i0, ei0⟩ := is_v hg0
  obtain rfl : w0 = (.int i0) := Option.some.inj ei0
  obtain ⟨i1, ei1⟩ := is_v hg1
  obtain rfl : w1 = (.int i1) := Option.some.inj ei1
  obtain ⟨n, o, h1, h2, h3, _, L, rfl, ⟨rfl, N⟩, hq⟩ := rm_law l s _ hw i0 i1 p e ha hc hk s m _ below hf ((Spec.applies_iff_loose hf).mp happ).1 ⟨rfl, State.Warmed39.refl s, rfl⟩ trivial
  refine ⟨n, _, h1, h2, h3, hpost _ _ _ _ _ _ ⟨Cond.after_iff.mpr rfl, Cond.after_iff.mpr (eq_i res_at (Term.int_eval (1)) rfl), trivial⟩ ⟨hq.1, hq.2.1, (hq.2.2.sift fun y hy => Or.inr (N y hy)).mono (by decide) (by decide)⟩⟩
theorem main_1_1 : Claimed_1_1 := comes_1 fun _ _ _ _ _ _ h hF => ⟨h.1, Jvm.LamKit.wideOf hF⟩
theorem main_1_2 : Claimed_1_2 := comes_1 fun _ _ _ _ _ _ h hF => ⟨h.2.1, Jvm.LamKit.wideOf hF⟩
end Jvm.Pilot.@@N@@
namespace Jvm.Pilot.@@N@@
open Jvm Jvm.ClassFile Sem Op Lib Jvm.Free Jvm.Stand Jvm.Pilot.@@N@@.Jvm.D
/-! MADE BY PROGRAM (witnessworld.py) out of the Statement's table words and the real class files: 12 classes; the members and pool entries that the words name. The judged class is class 1, her method 1. -/
namespace start1
open Jvm.ClassFile
def u (s : String) : CpInfo := .utf8 (stringToUtf16 s)
/-- a pool by its gaps: so many unusable entries, then the entry; so many at the end -/
def gap : Nat → List CpInfo → List CpInfo
  | 0, r => r
  | n + 1, r => .unusable :: gap n r
def poolList (es : List (Nat × CpInfo)) (last : Nat) : List CpInfo := es.foldr (fun e r => gap e.1 (e.2 :: r)) (gap last [])
def pool (es : List (Nat × CpInfo)) (last : Nat) : Array CpInfo := ⟨poolList es last⟩
def fileOf (pool : Array CpInfo) (this : Nat) (attrs : Array Attribute := #[]) (ms : Array MethodInfo := #[]) (fl : Nat := 33) (sup : Nat := 0) (ifs : Array Nat := #[]) (fds : Array FieldInfo := #[]) : ClassFile where
  minorVersion := 0
  majorVersion := 65
  constantPool := pool
  accessFlags := fl
  thisClass := this
  superClass := sup
  interfaces := ifs
  fields := fds
  methods := ms
  attributes := attrs
def plain (name : String) (sup : Option ClassId) : Class where
  name := name
  kind := .ordinary
  loader := none
  accessFlags := 33
  super := sup
  interfaces := #[]
  cf := none
  fields := #[]
  methods := #[]
  instanceTypes := #[]
  staticTypes := #[]
  resolved := #[]
  callSites := []
  init := .initialized
  statics := none
  mirror := none

def pool0 : Array CpInfo := pool [(5, u "<init>"), (0, u "()V"), (1, .class_ 10), (1, u "java/lang/Object")] 113

def k0c0 : Code := { maxStack := 0, maxLocals := 1, code := object_method_1_code, exceptionTable := #[], attributes := #[] }
def k0m0 : Method := { name := "<init>", desc := "()V", sig := { parameters := [], returnType := none }, accessFlags := 1, code := some k0c0 }
/-- java/lang/Object -/
def k0 : Class := { plain "java/lang/Object" none with
  accessFlags := 33
  interfaces := #[]
  cf := some (fileOf pool0 8 #[] #[{ accessFlags := 1, nameIndex := 5, descriptorIndex := 6, attributes := #[] }] 33 0 #[] #[])
  fields := #[]
  methods := #[k0m0]
  instanceTypes := #[]
  staticTypes := #[]
  resolved := Array.replicate 124 none
  statics := none }

def pool1 : Array CpInfo := pool [(2, .class_ 4), (1, u "java/lang/Object"), (0, u "<init>"), (0, u "()V"), (0, .class_ 8), (0, u "com/example/waymark/waymark/ber/BerReader"), (0, .methodref 7 10), (0, .nameAndType 5 11), (0, u "([B)V"), (0, .methodref 7 13), (0, .nameAndType 14 15), (0, u "hasRemaining"), (0, u "()Z"), (0, .methodref 7 17), (0, .nameAndType 18 19), (0, u "readConstructed"), (0, u "(I)Lcom/example/waymark/waymark/ber/BerReader;"), (0, .methodref 7 21), (0, .nameAndType 22 23), (0, u "readOctets"), (0, u "(I)[B"), (0, .methodref 7 25), (0, .nameAndType 26 27), (0, u "readBoolean"), (0, u "(I)Z"), (0, .class_ 29), (0, u "com/example/waymark/waymark/ber/BerReaderHasRemainingPinLaw"), (2, u "law"), (0, u "(II)Z")] 8

def k1m0 : Method := { name := "<init>", desc := "()V", sig := { parameters := [], returnType := none }, accessFlags := 2, code := none }
def k1c1 : Code := { maxStack := 4, maxLocals := 14, code := code, exceptionTable := #[], attributes := #[] }
def k1m1 : Method := { name := "law", desc := "(II)Z", sig := { parameters := [.int, .int], returnType := some .boolean }, accessFlags := 9, code := some k1c1 }
/-- com/example/waymark/waymark/ber/BerReaderHasRemainingPinLaw -/
def k1 : Class := { plain "com/example/waymark/waymark/ber/BerReaderHasRemainingPinLaw" (some 0) with
  accessFlags := 49
  interfaces := #[]
  cf := some (fileOf pool1 28 #[] #[{ accessFlags := 2, nameIndex := 5, descriptorIndex := 6, attributes := #[] }, { accessFlags := 9, nameIndex := 32, descriptorIndex := 33, attributes := #[] }] 49 2 #[] #[])
  fields := #[]
  methods := #[k1m0, k1m1]
  instanceTypes := #[]
  staticTypes := #[]
  resolved := Array.replicate 42 none
  statics := none }

def pool2 : Array CpInfo := pool [(1, .methodref 2 3), (0, .class_ 4), (0, .nameAndType 5 6), (0, u "com/example/waymark/waymark/ber/BerReader"), (0, u "<init>"), (0, u "([BII)V"), (0, .methodref 8 9), (0, .class_ 10), (0, .nameAndType 5 11), (0, u "java/lang/Object"), (0, u "()V"), (0, .fieldref 2 13), (0, .nameAndType 14 15), (0, u "bytes"), (0, u "[B"), (0, .fieldref 2 17), (0, .nameAndType 18 19), (0, u "position"), (0, u "I"), (0, .fieldref 2 21), (0, .nameAndType 22 19), (0, u "end"), (5, u "()I"), (6, u "next"), (1, .methodref 2 38), (0, .nameAndType 39 40), (0, u "readLength"), (0, u "(Lcom/example/waymark/waymark/ber/BerReader$ByteSource;)J"), (12, u "(I)[B"), (8, .methodref 2 63), (0, .nameAndType 64 65), (0, u "header"), (0, u "(I)I"), (0, .methodref 67 68), (0, .class_ 69), (0, .nameAndType 70 71), (0, u "java/lang/System"), (0, u "arraycopy"), (0, u "(Ljava/lang/Object;ILjava/lang/Object;II)V"), (2, u "readOctets"), (24, .methodref 2 100), (0, .nameAndType 101 28), (0, u "peekTag"), (0, .invokeDynamic 5 103), (0, .nameAndType 35 104), (0, u "(Lcom/example/waymark/waymark/ber/BerReader;)Lcom/example/waymark/waymark/ber/BerReader$ByteSource;"), (3, .interfaceMethodref 109 110), (0, .class_ 111), (0, .nameAndType 35 28), (0, u "com/example/waymark/waymark/ber/BerReader$ByteSource"), (7, u "LONG_FORM"), (2, u "MAX_LENGTH_BYTES"), (1, u "([B)V"), (9, u "hasRemaining"), (0, u "()Z"), (0, u "readConstructed"), (0, u "(I)Lcom/example/waymark/waymark/ber/BerReader;"), (2, u "readBoolean"), (0, u "(I)Z"), (2, u "lambda$header$1"), (6, .methodType 28), (11, .methodHandle 5 164), (0, .methodref 2 165), (0, .nameAndType 144 28), (4, .methodHandle 6 171), (0, .methodref 172 173), (0, .class_ 174), (0, .nameAndType 175 176), (0, u "java/lang/invoke/LambdaMetafactory"), (0, u "metafactory"), (0, u "(Ljava/lang/invoke/MethodHandles$Lookup;Ljava/lang/String;Ljava/lang/invoke/MethodType;Ljava/lang/invoke/MethodType;Ljava/lang/invoke/MethodHandle;Ljava/lang/invoke/MethodType;)Ljava/lang/invoke/CallSite;")] 13

def k2c0 : Code := { maxStack := 4, maxLocals := 2, code := prog_2_method_1_code, exceptionTable := #[], attributes := #[] }
def k2m0 : Method := { name := "<init>", desc := "([B)V", sig := { parameters := [(.array .byte)], returnType := none }, accessFlags := 1, code := some k2c0 }
def k2c1 : Code := { maxStack := 2, maxLocals := 4, code := prog_2_method_2_code, exceptionTable := #[], attributes := #[] }
def k2m1 : Method := { name := "<init>", desc := "([BII)V", sig := { parameters := [(.array .byte), .int, .int], returnType := none }, accessFlags := 2, code := some k2c1 }
def k2c2 : Code := { maxStack := 2, maxLocals := 1, code := prog_2_method_4_code, exceptionTable := #[], attributes := #[] }
def k2m2 : Method := { name := "hasRemaining", desc := "()Z", sig := { parameters := [], returnType := some .boolean }, accessFlags := 1, code := some k2c2 }
def k2c3 : Code := { maxStack := 3, maxLocals := 1, code := prog_2_method_5_code, exceptionTable := #[], attributes := #[] }
def k2m3 : Method := { name := "peekTag", desc := "()I", sig := { parameters := [], returnType := some .int }, accessFlags := 1, code := some k2c3 }
def k2c4 : Code := { maxStack := 6, maxLocals := 4, code := prog_2_method_6_code, exceptionTable := #[], attributes := #[] }
def k2m4 : Method := { name := "readConstructed", desc := "(I)Lcom/example/waymark/waymark/ber/BerReader;", sig := { parameters := [.int], returnType := some (.object "com/example/waymark/waymark/ber/BerReader") }, accessFlags := 1, code := some k2c4 }
def k2c5 : Code := { maxStack := 5, maxLocals := 4, code := prog_2_method_7_code, exceptionTable := #[], attributes := #[] }
def k2m5 : Method := { name := "readOctets", desc := "(I)[B", sig := { parameters := [.int], returnType := some (.array .byte) }, accessFlags := 1, code := some k2c5 }
def k2c6 : Code := { maxStack := 5, maxLocals := 3, code := prog_2_method_10_code, exceptionTable := #[], attributes := #[] }
def k2m6 : Method := { name := "readBoolean", desc := "(I)Z", sig := { parameters := [.int], returnType := some .boolean }, accessFlags := 1, code := some k2c6 }
def k2c7 : Code := { maxStack := 6, maxLocals := 5, code := prog_2_method_11_code, exceptionTable := #[], attributes := #[] }
def k2m7 : Method := { name := "header", desc := "(I)I", sig := { parameters := [.int], returnType := some .int }, accessFlags := 2, code := some k2c7 }
def k2c8 : Code := { maxStack := 4, maxLocals := 6, code := prog_2_method_13_code, exceptionTable := #[], attributes := #[] }
def k2m8 : Method := { name := "readLength", desc := "(Lcom/example/waymark/waymark/ber/BerReader$ByteSource;)J", sig := { parameters := [(.object "com/example/waymark/waymark/ber/BerReader$ByteSource")], returnType := some .long }, accessFlags := 10, code := some k2c8 }
def k2c9 : Code := { maxStack := 5, maxLocals := 1, code := prog_2_method_14_code, exceptionTable := #[], attributes := #[] }
def k2m9 : Method := { name := "lambda$header$1", desc := "()I", sig := { parameters := [], returnType := some .int }, accessFlags := 4098, code := some k2c9 }
/-- com/example/waymark/waymark/ber/BerReader -/
def k2 : Class := { plain "com/example/waymark/waymark/ber/BerReader" (some 0) with
  accessFlags := 49
  interfaces := #[]
  cf := some (fileOf pool2 2 #[.nestMembers #[109], .bootstrapMethods #[⟨0, #[]⟩, ⟨0, #[]⟩, ⟨0, #[]⟩, ⟨0, #[]⟩, ⟨0, #[]⟩, ⟨170, #[151, 163, 151]⟩, ⟨0, #[]⟩, ⟨0, #[]⟩]] #[{ accessFlags := 1, nameIndex := 5, descriptorIndex := 124, attributes := #[] }, { accessFlags := 2, nameIndex := 5, descriptorIndex := 6, attributes := #[] }, { accessFlags := 1, nameIndex := 134, descriptorIndex := 135, attributes := #[] }, { accessFlags := 1, nameIndex := 101, descriptorIndex := 28, attributes := #[] }, { accessFlags := 1, nameIndex := 136, descriptorIndex := 137, attributes := #[] }, { accessFlags := 1, nameIndex := 74, descriptorIndex := 53, attributes := #[] }, { accessFlags := 1, nameIndex := 140, descriptorIndex := 141, attributes := #[] }, { accessFlags := 2, nameIndex := 64, descriptorIndex := 65, attributes := #[] }, { accessFlags := 10, nameIndex := 39, descriptorIndex := 40, attributes := #[] }, { accessFlags := 4098, nameIndex := 144, descriptorIndex := 28, attributes := #[] }] 49 8 #[] #[{ accessFlags := 26, nameIndex := 119, descriptorIndex := 19, attributes := #[] }, { accessFlags := 26, nameIndex := 122, descriptorIndex := 19, attributes := #[] }, { accessFlags := 18, nameIndex := 14, descriptorIndex := 15, attributes := #[] }, { accessFlags := 18, nameIndex := 22, descriptorIndex := 19, attributes := #[] }, { accessFlags := 2, nameIndex := 18, descriptorIndex := 19, attributes := #[] }])
  fields := #[{ name := "LONG_FORM", type := .int, accessFlags := 26, slot := 0, constantValue := 0 }, { name := "MAX_LENGTH_BYTES", type := .int, accessFlags := 26, slot := 1, constantValue := 0 }, { name := "bytes", type := (.array .byte), accessFlags := 18, slot := 0, constantValue := 0 }, { name := "end", type := .int, accessFlags := 18, slot := 1, constantValue := 0 }, { name := "position", type := .int, accessFlags := 2, slot := 2, constantValue := 0 }]
  methods := #[k2m0, k2m1, k2m2, k2m3, k2m4, k2m5, k2m6, k2m7, k2m8, k2m9]
  instanceTypes := #[(.array .byte), .int, .int]
  staticTypes := #[.int, .int]
  resolved := Array.replicate 190 none
  callSites := [(7, 27, .makes 11)]
  statics := none }

def pool3 : Array CpInfo := pool [(1, .class_ 2), (0, u "com/example/waymark/waymark/ber/BerReader$ByteSource"), (0, .class_ 4), (0, u "java/lang/Object"), (0, u "next"), (0, u "()I"), (9, .class_ 17), (0, u "com/example/waymark/waymark/ber/BerReader")] 2

def k3m0 : Method := { name := "next", desc := "()I", sig := { parameters := [], returnType := some .int }, accessFlags := 1025, code := none }
/-- com/example/waymark/waymark/ber/BerReader$ByteSource -/
def k3 : Class := { plain "com/example/waymark/waymark/ber/BerReader$ByteSource" (some 0) with
  accessFlags := 1536
  interfaces := #[]
  cf := some (fileOf pool3 1 #[.nestHost 16] #[{ accessFlags := 1025, nameIndex := 5, descriptorIndex := 6, attributes := #[] }] 1536 3 #[] #[])
  fields := #[]
  methods := #[k3m0]
  instanceTypes := #[]
  staticTypes := #[]
  resolved := Array.replicate 20 none
  statics := none }

def pool4 : Array CpInfo := pool [(2, .class_ 4), (1, u "java/lang/Object"), (0, u "<init>"), (0, u "()V"), (1, .class_ 10), (1, u "java/lang/System"), (0, u "allowSecurityManager"), (0, u "I"), (16, u "cons"), (0, u "Ljava/io/Console;"), (77, .class_ 110), (1, u "java/lang/System$CallersHolder"), (43, u "initialErrStream"), (0, u "Ljava/io/PrintStream;"), (19, u "security"), (0, u "Ljava/lang/SecurityManager;"), (31, .class_ 209), (0, u "java/lang/System$1"), (7, u "props"), (0, u "Ljava/util/Properties;"), (2, u "lineSeparator"), (0, u "Ljava/lang/String;"), (96, .class_ 321), (1, u "java/lang/System$LoggerFinder"), (5, .class_ 328), (0, u "java/lang/System$Logger"), (67, u "err"), (2, u "out"), (91, u "notSupportedJnuEncoding"), (15, u "in"), (17, u "initialIn"), (0, u "Ljava/io/InputStream;"), (35, u "bootLayer"), (0, u "Ljava/lang/ModuleLayer;"), (99, .class_ 664), (0, u "java/lang/System$2"), (9, u "NEVER"), (2, u "MAYBE"), (49, u "arraycopy"), (0, u "(Ljava/lang/Object;ILjava/lang/Object;II)V"), (72, .class_ 802), (0, u "java/lang/System$Logger$Level")] 31

def k4m0 : Method := { name := "<init>", desc := "()V", sig := { parameters := [], returnType := none }, accessFlags := 2, code := none }
def k4m1 : Method := { name := "arraycopy", desc := "(Ljava/lang/Object;ILjava/lang/Object;II)V", sig := { parameters := [(.object "java/lang/Object"), .int, (.object "java/lang/Object"), .int, .int], returnType := none }, accessFlags := 265, code := none }
/-- java/lang/System -/
def k4 : Class := { plain "java/lang/System" (some 0) with
  accessFlags := 49
  interfaces := #[]
  cf := some (fileOf pool4 8 #[.nestMembers #[319, 327, 801, 108, 663, 208]] #[{ accessFlags := 2, nameIndex := 5, descriptorIndex := 6, attributes := #[] }, { accessFlags := 265, nameIndex := 727, descriptorIndex := 728, attributes := #[] }] 49 2 #[] #[{ accessFlags := 25, nameIndex := 507, descriptorIndex := 526, attributes := #[] }, { accessFlags := 25, nameIndex := 399, descriptorIndex := 155, attributes := #[] }, { accessFlags := 25, nameIndex := 396, descriptorIndex := 155, attributes := #[] }, { accessFlags := 10, nameIndex := 525, descriptorIndex := 526, attributes := #[] }, { accessFlags := 26, nameIndex := 674, descriptorIndex := 12, attributes := #[] }, { accessFlags := 26, nameIndex := 677, descriptorIndex := 12, attributes := #[] }, { accessFlags := 10, nameIndex := 11, descriptorIndex := 12, attributes := #[] }, { accessFlags := 74, nameIndex := 175, descriptorIndex := 176, attributes := #[] }, { accessFlags := 10, nameIndex := 491, descriptorIndex := 222, attributes := #[] }, { accessFlags := 74, nameIndex := 29, descriptorIndex := 30, attributes := #[] }, { accessFlags := 74, nameIndex := 154, descriptorIndex := 155, attributes := #[] }, { accessFlags := 10, nameIndex := 217, descriptorIndex := 218, attributes := #[] }, { accessFlags := 10, nameIndex := 221, descriptorIndex := 222, attributes := #[] }, { accessFlags := 8, nameIndex := 562, descriptorIndex := 563, attributes := #[] }])
  fields := #[{ name := "in", type := (.object "java/io/InputStream"), accessFlags := 25, slot := 0, constantValue := 0 }, { name := "out", type := (.object "java/io/PrintStream"), accessFlags := 25, slot := 1, constantValue := 0 }, { name := "err", type := (.object "java/io/PrintStream"), accessFlags := 25, slot := 2, constantValue := 0 }, { name := "initialIn", type := (.object "java/io/InputStream"), accessFlags := 10, slot := 3, constantValue := 0 }, { name := "NEVER", type := .int, accessFlags := 26, slot := 4, constantValue := 0 }, { name := "MAYBE", type := .int, accessFlags := 26, slot := 5, constantValue := 0 }, { name := "allowSecurityManager", type := .int, accessFlags := 10, slot := 6, constantValue := 0 }, { name := "security", type := (.object "java/lang/SecurityManager"), accessFlags := 74, slot := 7, constantValue := 0 }, { name := "notSupportedJnuEncoding", type := (.object "java/lang/String"), accessFlags := 10, slot := 8, constantValue := 0 }, { name := "cons", type := (.object "java/io/Console"), accessFlags := 74, slot := 9, constantValue := 0 }, { name := "initialErrStream", type := (.object "java/io/PrintStream"), accessFlags := 74, slot := 10, constantValue := 0 }, { name := "props", type := (.object "java/util/Properties"), accessFlags := 10, slot := 11, constantValue := 0 }, { name := "lineSeparator", type := (.object "java/lang/String"), accessFlags := 10, slot := 12, constantValue := 0 }, { name := "bootLayer", type := (.object "java/lang/ModuleLayer"), accessFlags := 8, slot := 13, constantValue := 0 }]
  methods := #[k4m0, k4m1]
  instanceTypes := #[]
  staticTypes := #[(.object "java/io/InputStream"), (.object "java/io/PrintStream"), (.object "java/io/PrintStream"), (.object "java/io/InputStream"), .int, .int, .int, (.object "java/lang/SecurityManager"), (.object "java/lang/String"), (.object "java/io/Console"), (.object "java/io/PrintStream"), (.object "java/util/Properties"), (.object "java/lang/String"), (.object "java/lang/ModuleLayer")]
  resolved := Array.replicate 834 none
  statics := none }

def pool5 : Array CpInfo := pool [(1, u "java/lang/Cloneable"), (0, .class_ 1), (0, u "java/lang/Object"), (0, .class_ 3)] 3

/-- java/lang/Cloneable -/
def k5 : Class := { plain "java/lang/Cloneable" (some 0) with
  accessFlags := 1537
  interfaces := #[]
  cf := some (fileOf pool5 2 #[] #[] 1537 4 #[] #[])
  fields := #[]
  methods := #[]
  instanceTypes := #[]
  staticTypes := #[]
  resolved := Array.replicate 8 none
  statics := none }

def pool6 : Array CpInfo := pool [(1, u "java/io/Serializable"), (0, .class_ 1), (0, u "java/lang/Object"), (0, .class_ 3)] 3

/-- java/io/Serializable -/
def k6 : Class := { plain "java/io/Serializable" (some 0) with
  accessFlags := 1537
  interfaces := #[]
  cf := some (fileOf pool6 2 #[] #[] 1537 4 #[] #[])
  fields := #[]
  methods := #[]
  instanceTypes := #[]
  staticTypes := #[]
  resolved := Array.replicate 8 none
  statics := none }

/-- the primitive byte -/
def k7 : Class := { plain "byte" none with kind := .primitive 'B', accessFlags := 0x411 }
/-- [B -/
def k8 : Class := { plain "[B" (some 0) with kind := .array 7 .byte, interfaces := #[5, 6], accessFlags := 1041 }

/-- the primitive int -/
def k9 : Class := { plain "int" none with kind := .primitive 'I', accessFlags := 0x411 }
/-- [I -/
def k10 : Class := { plain "[I" (some 0) with kind := .array 9 .int, interfaces := #[5, 6], accessFlags := 1041 }

def classes0 : Array Class := #[k0, k1, k2, k3, k4, k5, k6, k7, k8, k9, k10]
/-- the class that the rule has made for the site at 27 of com/example/waymark/waymark/ber/BerReader.header -/
def k11 : Class := Jvm.LamKit.madeRec { classes := classes0 } "com/example/waymark/waymark/ber/BerReader" (Jvm.Lambda.Shape.mk "com/example/waymark/waymark/ber/BerReader$ByteSource" "next" (Jvm.ClassFile.MethodDescriptor.mk ([] : List Jvm.ClassFile.FieldType) (Option.some Jvm.ClassFile.FieldType.int)) ([(Jvm.ClassFile.FieldType.object "com/example/waymark/waymark/ber/BerReader")] : List Jvm.ClassFile.FieldType) (5 : Nat) "com/example/waymark/waymark/ber/BerReader" "lambda$header$1" (Jvm.ClassFile.MethodDescriptor.mk ([] : List Jvm.ClassFile.FieldType) (Option.some Jvm.ClassFile.FieldType.int)) false (Jvm.ClassFile.MethodDescriptor.mk ([] : List Jvm.ClassFile.FieldType) (Option.some Jvm.ClassFile.FieldType.int))) 11

def heap : Heap := #[]
def classes : Array Class := #[k0, k1, k2, k3, k4, k5, k6, k7, k8, k9, k10, k11]
def interned : List (Array UInt16 × Addr) := []
def slotsUsed : Nat := 0
def theMethod : MethodId := ⟨1, 1⟩
def args0 : Array Value := #[.int 5, .int 6]
def aboutOver (below : List Frame) : State where
  vm := { classes := classes, interned := interned.toArray }
  heap := heap
  slotsUsed := slotsUsed
  threads := #[{ frames := .invoking theMethod args0 :: below }]
def below0 : List Frame := [.native { method := ⟨0, 0⟩, args := #[] }]
def about1 : State := aboutOver below0
def p0 : Program := .bare "" "" ""
def e0 : Env := launch0.env 0 0 0
theorem w_frames : about1.frames = Frame.invoking theMethod args0 :: below0 := rfl
set_option maxRecDepth 65536 in
theorem w_args : argsFit about1.vm theMethod args0 = true := by decide +kernel
set_option maxRecDepth 65536 in
theorem w_heap : heapFits about1 = true := by decide +kernel
set_option maxRecDepth 65536 in
theorem w_runnable : about1.curStatus? = some .runnable := by decide +kernel
set_option maxRecDepth 65536 in
theorem w_alone : about1.alone = true := by decide +kernel
set_option maxRecDepth 65536 in
theorem w_named : about1.methodNamed? x = some theMethod := by decide +kernel
set_option maxRecDepth 65536 in
theorem w_hears : about1.hears theMethod below0 = true := by decide +kernel
set_option maxRecDepth 65536 in
theorem w_ripe : about1.ripe theMethod args0 below0 = true := by decide +kernel
theorem w_running : about1.status = .running := rfl
set_option maxRecDepth 65536 in
theorem w_room : about1.hasRoom e0.platform room_1 = true :=
  launch0.hasRoom_least _ room_1 (by decide +kernel) (by decide +kernel) (by decide +kernel) (by decide +kernel) (by decide +kernel) (by decide +kernel)
theorem allAtoms_all (ts : List Jvm.Cond) (a : Array Jvm.Value) (st : Jvm.State) : (allAtoms ts).before a st = ts.all (fun c => c.before a st) := by
  induction ts with
  | nil => rfl
  | cons c t ih =>
    show (Jvm.Cond.and c (allAtoms t)).before a st = _
    rw [Jvm.Cond.before_and, ih, List.all_cons]
def words1 : List Jvm.Cond := Jvm.Cond.code x code maxLocals ret :: tables_1
/-- a 'code' word, met by the world's own term for the bytes: nothing is compared byte by byte -/
theorem code_word {y : MethodName} {bytes : ByteArray} {mx : Nat} {rt : Option FieldType} {a : Array Value} {s : State} {m : MethodId} {meth : Method} {c : Code} (h1 : s.methodNamed? y = some m) (h2 : s.vm.method? m = some meth) (h3 : meth.code = some c) (h4 : c.code = bytes)
    (h5 : (c.maxLocals == mx && c.exceptionTable.isEmpty && decide (c.maxStack ≤ mostOperands) && decide (meth.sig.returnType = rt) && !meth.locks && decide (parseMethodDescriptor y.desc = some meth.sig)) = true) : (Jvm.Cond.code y bytes mx rt).before a s = true := by
  simp only [Bool.and_eq_true, beq_iff_eq, Bool.not_eq_true', decide_eq_true_eq] at h5
  obtain ⟨⟨⟨⟨⟨g1, g2⟩, g3⟩, g4⟩, g5⟩, g6⟩ := h5
  simp [Cond.before, Cond.holds, Cond.value, h1, h2, h3, h4, g1, g2, g3, g4, g5, g6]
def isCode : Jvm.Cond → Bool
  | .code _ _ _ _ => true
  | _ => false
theorem all_split {L : List Jvm.Cond} {P : Jvm.Cond → Bool} (h1 : L.all (fun c => isCode c || P c) = true) (h2 : ∀ c ∈ L.filter isCode, P c = true) : L.all P = true := by
  refine List.all_eq_true.mpr fun c hc => ?_
  have h := List.all_eq_true.mp h1 c hc
  rcases Bool.eq_false_or_eq_true (isCode c) with hi | hi
  · exact h2 c (List.mem_filter.mpr ⟨hc, hi⟩)
  · simpa [hi] using h
set_option maxRecDepth 65536 in
theorem w_c0 : (Jvm.Cond.code x code maxLocals ret).before args0 about1 = true := code_word (m := ⟨1, 1⟩) (meth := k1m1) (c := k1c1) (by decide +kernel) rfl rfl rfl (by decide +kernel)
set_option maxRecDepth 65536 in
theorem w_c1 : (Jvm.Cond.code ({ cls := "com/example/waymark/waymark/ber/BerReader", name := "<init>", desc := "([B)V" } : Jvm.MethodName) prog_2_method_1_code (2 : Nat) (Option.none : Option Jvm.ClassFile.FieldType)).before args0 about1 = true := code_word (m := ⟨2, 0⟩) (meth := k2m0) (c := k2c0) (by decide +kernel) rfl rfl rfl (by decide +kernel)
set_option maxRecDepth 65536 in
theorem w_c2 : (Jvm.Cond.code ({ cls := "com/example/waymark/waymark/ber/BerReader", name := "<init>", desc := "([BII)V" } : Jvm.MethodName) prog_2_method_2_code (4 : Nat) (Option.none : Option Jvm.ClassFile.FieldType)).before args0 about1 = true := code_word (m := ⟨2, 1⟩) (meth := k2m1) (c := k2c1) (by decide +kernel) rfl rfl rfl (by decide +kernel)
set_option maxRecDepth 65536 in
theorem w_c3 : (Jvm.Cond.code ({ cls := "java/lang/Object", name := "<init>", desc := "()V" } : Jvm.MethodName) object_method_1_code (1 : Nat) (Option.none : Option Jvm.ClassFile.FieldType)).before args0 about1 = true := code_word (m := ⟨0, 0⟩) (meth := k0m0) (c := k0c0) (by decide +kernel) rfl rfl rfl (by decide +kernel)
set_option maxRecDepth 65536 in
theorem w_c4 : (Jvm.Cond.code ({ cls := "com/example/waymark/waymark/ber/BerReader", name := "hasRemaining", desc := "()Z" } : Jvm.MethodName) prog_2_method_4_code (1 : Nat) (Option.some Jvm.ClassFile.FieldType.boolean)).before args0 about1 = true := code_word (m := ⟨2, 2⟩) (meth := k2m2) (c := k2c2) (by decide +kernel) rfl rfl rfl (by decide +kernel)
set_option maxRecDepth 65536 in
theorem w_c5 : (Jvm.Cond.code ({ cls := "com/example/waymark/waymark/ber/BerReader", name := "readConstructed", desc := "(I)Lcom/example/waymark/waymark/ber/BerReader;" } : Jvm.MethodName) prog_2_method_6_code (4 : Nat) (Option.some (Jvm.ClassFile.FieldType.object "com/example/waymark/waymark/ber/BerReader"))).before args0 about1 = true := code_word (m := ⟨2, 4⟩) (meth := k2m4) (c := k2c4) (by decide +kernel) rfl rfl rfl (by decide +kernel)
set_option maxRecDepth 65536 in
theorem w_c6 : (Jvm.Cond.code ({ cls := "com/example/waymark/waymark/ber/BerReader", name := "header", desc := "(I)I" } : Jvm.MethodName) prog_2_method_11_code (5 : Nat) (Option.some Jvm.ClassFile.FieldType.int)).before args0 about1 = true := code_word (m := ⟨2, 7⟩) (meth := k2m7) (c := k2c7) (by decide +kernel) rfl rfl rfl (by decide +kernel)
set_option maxRecDepth 65536 in
theorem w_c7 : (Jvm.Cond.code ({ cls := "com/example/waymark/waymark/ber/BerReader", name := "peekTag", desc := "()I" } : Jvm.MethodName) prog_2_method_5_code (1 : Nat) (Option.some Jvm.ClassFile.FieldType.int)).before args0 about1 = true := code_word (m := ⟨2, 3⟩) (meth := k2m3) (c := k2c3) (by decide +kernel) rfl rfl rfl (by decide +kernel)
set_option maxRecDepth 65536 in
theorem w_c8 : (Jvm.Cond.code ({ cls := "com/example/waymark/waymark/ber/BerReader", name := "readLength", desc := "(Lcom/example/waymark/waymark/ber/BerReader$ByteSource;)J" } : Jvm.MethodName) prog_2_method_13_code (6 : Nat) (Option.some Jvm.ClassFile.FieldType.long)).before args0 about1 = true := code_word (m := ⟨2, 8⟩) (meth := k2m8) (c := k2c8) (by decide +kernel) rfl rfl rfl (by decide +kernel)
set_option maxRecDepth 65536 in
theorem w_c9 : (Jvm.Cond.code ({ cls := "com/example/waymark/waymark/ber/BerReader", name := "lambda$header$1", desc := "()I" } : Jvm.MethodName) prog_2_method_14_code (1 : Nat) (Option.some Jvm.ClassFile.FieldType.int)).before args0 about1 = true := code_word (m := ⟨2, 9⟩) (meth := k2m9) (c := k2c9) (by decide +kernel) rfl rfl rfl (by decide +kernel)
set_option maxRecDepth 65536 in
theorem w_c10 : (Jvm.Cond.code ({ cls := "com/example/waymark/waymark/ber/BerReader", name := "readOctets", desc := "(I)[B" } : Jvm.MethodName) prog_2_method_7_code (4 : Nat) (Option.some (Jvm.ClassFile.FieldType.array Jvm.ClassFile.FieldType.byte))).before args0 about1 = true := code_word (m := ⟨2, 5⟩) (meth := k2m5) (c := k2c5) (by decide +kernel) rfl rfl rfl (by decide +kernel)
set_option maxRecDepth 65536 in
theorem w_c11 : (Jvm.Cond.code ({ cls := "com/example/waymark/waymark/ber/BerReader", name := "readBoolean", desc := "(I)Z" } : Jvm.MethodName) prog_2_method_10_code (3 : Nat) (Option.some Jvm.ClassFile.FieldType.boolean)).before args0 about1 = true := code_word (m := ⟨2, 6⟩) (meth := k2m6) (c := k2c6) (by decide +kernel) rfl rfl rfl (by decide +kernel)
def codes1 : List Jvm.Cond := [Jvm.Cond.code x code maxLocals ret, Jvm.Cond.code ({ cls := "com/example/waymark/waymark/ber/BerReader", name := "<init>", desc := "([B)V" } : Jvm.MethodName) prog_2_method_1_code (2 : Nat) (Option.none : Option Jvm.ClassFile.FieldType), Jvm.Cond.code ({ cls := "com/example/waymark/waymark/ber/BerReader", name := "<init>", desc := "([BII)V" } : Jvm.MethodName) prog_2_method_2_code (4 : Nat) (Option.none : Option Jvm.ClassFile.FieldType), Jvm.Cond.code ({ cls := "java/lang/Object", name := "<init>", desc := "()V" } : Jvm.MethodName) object_method_1_code (1 : Nat) (Option.none : Option Jvm.ClassFile.FieldType), Jvm.Cond.code ({ cls := "com/example/waymark/waymark/ber/BerReader", name := "hasRemaining", desc := "()Z" } : Jvm.MethodName) prog_2_method_4_code (1 : Nat) (Option.some Jvm.ClassFile.FieldType.boolean), Jvm.Cond.code ({ cls := "com/example/waymark/waymark/ber/BerReader", name := "readConstructed", desc := "(I)Lcom/example/waymark/waymark/ber/BerReader;" } : Jvm.MethodName) prog_2_method_6_code (4 : Nat) (Option.some (Jvm.ClassFile.FieldType.object "com/example/waymark/waymark/ber/BerReader")), Jvm.Cond.code ({ cls := "com/example/waymark/waymark/ber/BerReader", name := "header", desc := "(I)I" } : Jvm.MethodName) prog_2_method_11_code (5 : Nat) (Option.some Jvm.ClassFile.FieldType.int), Jvm.Cond.code ({ cls := "com/example/waymark/waymark/ber/BerReader", name := "peekTag", desc := "()I" } : Jvm.MethodName) prog_2_method_5_code (1 : Nat) (Option.some Jvm.ClassFile.FieldType.int), Jvm.Cond.code ({ cls := "com/example/waymark/waymark/ber/BerReader", name := "readLength", desc := "(Lcom/example/waymark/waymark/ber/BerReader$ByteSource;)J" } : Jvm.MethodName) prog_2_method_13_code (6 : Nat) (Option.some Jvm.ClassFile.FieldType.long), Jvm.Cond.code ({ cls := "com/example/waymark/waymark/ber/BerReader", name := "lambda$header$1", desc := "()I" } : Jvm.MethodName) prog_2_method_14_code (1 : Nat) (Option.some Jvm.ClassFile.FieldType.int), Jvm.Cond.code ({ cls := "com/example/waymark/waymark/ber/BerReader", name := "readOctets", desc := "(I)[B" } : Jvm.MethodName) prog_2_method_7_code (4 : Nat) (Option.some (Jvm.ClassFile.FieldType.array Jvm.ClassFile.FieldType.byte)), Jvm.Cond.code ({ cls := "com/example/waymark/waymark/ber/BerReader", name := "readBoolean", desc := "(I)Z" } : Jvm.MethodName) prog_2_method_10_code (3 : Nat) (Option.some Jvm.ClassFile.FieldType.boolean)]
set_option maxRecDepth 65536 in
theorem codes_eq : words1.filter isCode = codes1 := rfl
theorem w_codes : ∀ c ∈ words1.filter isCode, c.before args0 about1 = true := by
  rw [codes_eq]
  intro c hc
  simp only [codes1, List.mem_cons, List.not_mem_nil, or_false] at hc
  rcases hc with rfl | rfl | rfl | rfl | rfl | rfl | rfl | rfl | rfl | rfl | rfl | rfl
  · exact w_c0
  · exact w_c1
  · exact w_c2
  · exact w_c3
  · exact w_c4
  · exact w_c5
  · exact w_c6
  · exact w_c7
  · exact w_c8
  · exact w_c9
  · exact w_c10
  · exact w_c11
set_option maxRecDepth 65536 in
theorem w_t1 : (words1.take 24).all (fun c => isCode c || c.before args0 about1) = true := by decide +kernel
set_option maxRecDepth 65536 in
theorem w_t2 : ((words1.drop 24).take 24).all (fun c => isCode c || c.before args0 about1) = true := by decide +kernel
set_option maxRecDepth 65536 in
theorem w_t3 : ((words1.drop 24).drop 24).all (fun c => isCode c || c.before args0 about1) = true := by decide +kernel
theorem w_tables : (allAtoms (Jvm.Cond.code x code maxLocals ret :: tables_1)).before args0 about1 = true := by
  rw [allAtoms_all]
  show words1.all (fun c => c.before args0 about1) = true
  refine all_split ?_ w_codes
  rw [← List.take_append_drop 24 words1, List.all_append, w_t1, ← List.take_append_drop 24 (words1.drop 24), List.all_append, w_t2, w_t3]
  rfl
set_option maxRecDepth 65536 in
theorem w_case : (Jvm.Cond.and given_1 narrow_1).before args0 about1 = true := by decide +kernel
theorem w_applies : (headSpec (Jvm.Cond.code x code maxLocals ret :: tables_1) room_1).applies x e0.platform about1 = true :=
  (Spec.applies_iff w_frames).mpr ⟨w_running, w_runnable, w_alone, w_named, w_hears, w_ripe, w_room, w_tables⟩
theorem atStart : AtStart classFile x code maxLocals ret World_1 tables_1 room_1 Calls_1 rest_1 Pre_1 launch0 p0 e0 about1 theMethod args0 below0 :=
  ⟨lists_1, trivial, launch0.admits_env _ _ _, launch0.least_env, fairChoices_fair.cas, fairChoices_fair.clock, w_frames, w_args, w_heap, w_applies, trivial, trivial, w_case⟩
end start1
theorem witness_1 : WitnessClaimed_1 := ⟨start1.p0, start1.e0, start1.about1, start1.theMethod, start1.args0, start1.below0, start1.atStart⟩
end Jvm.Pilot.@@N@@
