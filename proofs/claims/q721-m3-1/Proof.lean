import JvmDerived
import JvmDerived.Pilot.@@N@@Statement
import JvmDerived.Pilot.@@N@@Code
set_option linter.unusedVariables false
set_option linter.unusedSimpArgs false

namespace Jvm.OwnKit
open Sem ClassFile Op Lib Jvm.Stand Jvm.Free Jvm.LawKit Jvm.RoadKit
section Kit
variable {p : Program} {l : Launch} {e : Env} {R : Room} {s : State} {m : MethodId} {args : Array Value} {below : List Frame} {meth : Method} {c : Code} {T : State} {locs : List Loc} {cells slots : Nat} {Z : State} {a0 : Array Value} {h : Heap} {own nm : String} {bytes : ByteArray} {maxL : Nat} {ret : Option FieldType} {P : Outcome → State → Prop} {pc pc' : Nat} {Ls Ls' : Array Slot} {rest : List Value}
/-- from here the run ends, and P holds of its end -/
def Go (p : Program) (e : Env) (below : List Frame) (P : Outcome → State → Prop) (T0 : State) : Prop := ∃ t o, Steps p.tables e below T0 t ∧ t.status = .running ∧ Ended t below o ∧ P o t
theorem Go.on {T1 T2 : State} (st : ∀ t, Steps p.tables e below T2 t → Steps p.tables e below T1 t) (k : Go p e below P T2) : Go p e below P T1 := by
  obtain ⟨t, o, h1, h2⟩ := k; exact ⟨t, o, st t h1, h2⟩
/-- what a walk knows of the method that it walks -/
def Ctx (p : Program) (s : State) (m : MethodId) (meth : Method) (c : Code) (Z : State) (own nm : String) (bytes : ByteArray) (maxL : Nat) (ret : Option FieldType) : Prop :=
  p.tables.exec = Jvm.exec ∧ c.code = bytes ∧ c.maxLocals = maxL ∧ s.vm.findClass own = some m.cls ∧ meth.name = nm ∧ meth.sig.returnType = ret ∧ meth.locks = false ∧ Z.Warmed39 s.vm
/-- what a body's end says -/
def OEnds (s : State) (Q : Option Value → Heap → List Loc → Prop) (k n : Nat) (o : Outcome) (t : State) : Prop := ∃ v L, o = .returned v ∧ Q v t.heap L ∧ FrameEnd s o t L k n
/-- a contract: called with the arguments 'as' at the heap h0 it returns as Q says -/
abbrev OMeets (l : Launch) (Z : State) (y : MethodName) (bytes : ByteArray) (maxL : Nat) (ret : Option FieldType) (ws : List Jvm.Cond) (rm : Room) (as : Array Value) (h0 : Heap) (Q : Option Value → Heap → List Loc → Prop) : Prop :=
  MetFree l y (head1 (Jvm.Cond.code y bytes maxL ret :: ws) rm) (fun a U => a = as ∧ Z.Warmed39 U.vm ∧ U.heap = h0) (fun _ _ _ _ _ => True) (fun _ U o U' => ∃ v L, o = .returned v ∧ Q v U'.heap L ∧ FrameEnd U o U' L rm.cells rm.slots)
/-- it returns r, writes nothing and makes nothing -/
def PureQ (r : Option Value) (h0 : Heap) (v : Option Value) (h : Heap) (L : List Loc) : Prop := v = r ∧ L = [] ∧ h = h0
theorem OMeets.of {y : MethodName} {ws : List Jvm.Cond} {rm : Room} {as : Array Value} {h0 : Heap} {Q : Option Value → Heap → List Loc → Prop} (hpn : plainFor y = true) (ls : Array Slot) (hent : ∀ m, entryFrame m as maxL = mkF m 0 ls [])
    (body : ∀ p e s m below meth c s₁, Ctx p s m meth c Z y.cls y.name bytes maxL ret → Stand p l e rm s m as below meth c s₁ [] 0 0 → s₁.heap = h0 → Go p e below (OEnds s Q rm.cells rm.slots) (s₁.setTop (mkF m 0 ls []))) : OMeets l Z y bytes maxL ret ws rm as h0 Q := by
  refine MetFree.of_bodySF hpn hisR ?_
  intro p e s m args below meth c s₁ Bd hml0 hP hK
  obtain ⟨rfl, hZ, hh⟩ := hP
  have e0 : s₁.heap = h0 := by rw [← hh, Bd.state]; rfl
  have X0 := Stand.of_body Bd
  have B : Ctx p s m meth c Z y.cls y.name bytes maxL ret := ⟨Bd.exec, Bd.bytes, hml0, findClass_of_methodNamed Bd.named, (name_of_methodNamed Bd.named Bd.method).1, Bd.returns, Bd.notSynchronized, hZ⟩
  obtain ⟨t, o, h1, h2, h3, h4⟩ := body p e s m below meth c s₁ B X0 e0
  exact ⟨t, o, castTop (hent m) h1, h2, h3, h4⟩
/-! the single steps -/

theorem s_iloadN (B : Ctx p s m meth c Z own nm bytes maxL ret) (X : Stand p l e R s m args below meth c T locs cells slots) {k0 : Fin 4} {v : Int32} (hd : decode bytes pc = .ok (.iload_n k0, 1)) (hl : Ls[k0.val]? = some (.val (.int v))) (hp : pc + 1 = pc') (k : Go p e below P (T.setTop (mkF m pc' Ls (.int v :: rest)))) : Go p e below P (T.setTop (mkF m pc Ls (rest))) := by
  subst hp; exact Go.on (fun t => XS.iloadN X.here B.1 rfl (hb B.2.1 hd) hl) k
theorem s_iload (B : Ctx p s m meth c Z own nm bytes maxL ret) (X : Stand p l e R s m args below meth c T locs cells slots) {k0 : Nat} {v : Int32} (hd : decode bytes pc = .ok (.iload k0, 2)) (hl : Ls[k0]? = some (.val (.int v))) (hp : pc + 2 = pc') (k : Go p e below P (T.setTop (mkF m pc' Ls (.int v :: rest)))) : Go p e below P (T.setTop (mkF m pc Ls (rest))) := by
  subst hp; exact Go.on (fun t => XS.iload X.here B.1 rfl (hb B.2.1 hd) hl) k
theorem s_istoreN (B : Ctx p s m meth c Z own nm bytes maxL ret) (X : Stand p l e R s m args below meth c T locs cells slots) {k0 : Fin 4} {v : Int32} (hd : decode bytes pc = .ok (.istore_n k0, 1)) (hl : storeLocals Ls k0.val (.int v) = some Ls') (hp : pc + 1 = pc') (k : Go p e below P (T.setTop (mkF m pc' Ls' (rest)))) : Go p e below P (T.setTop (mkF m pc Ls (.int v :: rest))) := by
  subst hp; exact Go.on (fun t => XS.istoreN X.here B.1 rfl (hb B.2.1 hd) rfl hl) k
theorem s_istore (B : Ctx p s m meth c Z own nm bytes maxL ret) (X : Stand p l e R s m args below meth c T locs cells slots) {k0 : Nat} {v : Int32} (hd : decode bytes pc = .ok (.istore k0, 2)) (hl : storeLocals Ls k0 (.int v) = some Ls') (hp : pc + 2 = pc') (k : Go p e below P (T.setTop (mkF m pc' Ls' (rest)))) : Go p e below P (T.setTop (mkF m pc Ls (.int v :: rest))) := by
  subst hp; exact Go.on (fun t => XS.istore X.here B.1 rfl (hb B.2.1 hd) rfl hl) k
theorem s_lloadN (B : Ctx p s m meth c Z own nm bytes maxL ret) (X : Stand p l e R s m args below meth c T locs cells slots) {k0 : Fin 4} {v : Int64} (hd : decode bytes pc = .ok (.lload_n k0, 1)) (hl : Ls[k0.val]? = some (.val (.long v))) (hp : pc + 1 = pc') (k : Go p e below P (T.setTop (mkF m pc' Ls (.long v :: rest)))) : Go p e below P (T.setTop (mkF m pc Ls (rest))) := by
  subst hp; exact Go.on (fun t => XS.lloadN X.here B.1 rfl (hb B.2.1 hd) hl) k
theorem s_lload (B : Ctx p s m meth c Z own nm bytes maxL ret) (X : Stand p l e R s m args below meth c T locs cells slots) {k0 : Nat} {v : Int64} (hd : decode bytes pc = .ok (.lload k0, 2)) (hl : Ls[k0]? = some (.val (.long v))) (hp : pc + 2 = pc') (k : Go p e below P (T.setTop (mkF m pc' Ls (.long v :: rest)))) : Go p e below P (T.setTop (mkF m pc Ls (rest))) := by
  subst hp; exact Go.on (fun t => XS.lload X.here B.1 rfl (hb B.2.1 hd) hl) k
theorem s_lstoreN (B : Ctx p s m meth c Z own nm bytes maxL ret) (X : Stand p l e R s m args below meth c T locs cells slots) {k0 : Fin 4} {v : Int64} (hd : decode bytes pc = .ok (.lstore_n k0, 1)) (hl : storeLocals Ls k0.val (.long v) = some Ls') (hp : pc + 1 = pc') (k : Go p e below P (T.setTop (mkF m pc' Ls' (rest)))) : Go p e below P (T.setTop (mkF m pc Ls (.long v :: rest))) := by
  subst hp; exact Go.on (fun t => XS.lstoreN X.here B.1 rfl (hb B.2.1 hd) rfl hl) k
theorem s_lstore (B : Ctx p s m meth c Z own nm bytes maxL ret) (X : Stand p l e R s m args below meth c T locs cells slots) {k0 : Nat} {v : Int64} (hd : decode bytes pc = .ok (.lstore k0, 2)) (hl : storeLocals Ls k0 (.long v) = some Ls') (hp : pc + 2 = pc') (k : Go p e below P (T.setTop (mkF m pc' Ls' (rest)))) : Go p e below P (T.setTop (mkF m pc Ls (.long v :: rest))) := by
  subst hp; exact Go.on (fun t => XS.lstore X.here B.1 rfl (hb B.2.1 hd) rfl hl) k
theorem s_aloadN (B : Ctx p s m meth c Z own nm bytes maxL ret) (X : Stand p l e R s m args below meth c T locs cells slots) {k0 : Fin 4} {v : Value} (hd : decode bytes pc = .ok (.aload_n k0, 1)) (hl : Ls[k0.val]? = some (.val v)) (hv : v.isRef = true) (hp : pc + 1 = pc') (k : Go p e below P (T.setTop (mkF m pc' Ls (v :: rest)))) : Go p e below P (T.setTop (mkF m pc Ls (rest))) := by
  subst hp; exact Go.on (fun t => XS.aloadN X.here B.1 rfl (hb B.2.1 hd) hl hv) k
theorem s_aload (B : Ctx p s m meth c Z own nm bytes maxL ret) (X : Stand p l e R s m args below meth c T locs cells slots) {k0 : Nat} {v : Value} (hd : decode bytes pc = .ok (.aload k0, 2)) (hl : Ls[k0]? = some (.val v)) (hv : v.isRef = true) (hp : pc + 2 = pc') (k : Go p e below P (T.setTop (mkF m pc' Ls (v :: rest)))) : Go p e below P (T.setTop (mkF m pc Ls (rest))) := by
  subst hp; exact Go.on (fun t => XS.aload X.here B.1 rfl (hb B.2.1 hd) hl hv) k
theorem s_astoreN (B : Ctx p s m meth c Z own nm bytes maxL ret) (X : Stand p l e R s m args below meth c T locs cells slots) {k0 : Fin 4} {v : Value} (hd : decode bytes pc = .ok (.astore_n k0, 1)) (hv : v.isRef = true) (hl : storeLocals Ls k0.val v = some Ls') (hp : pc + 1 = pc') (k : Go p e below P (T.setTop (mkF m pc' Ls' (rest)))) : Go p e below P (T.setTop (mkF m pc Ls (v :: rest))) := by
  subst hp; exact Go.on (fun t => XS.astoreN X.here B.1 rfl (hb B.2.1 hd) rfl hv hl) k
theorem s_astore (B : Ctx p s m meth c Z own nm bytes maxL ret) (X : Stand p l e R s m args below meth c T locs cells slots) {k0 : Nat} {v : Value} (hd : decode bytes pc = .ok (.astore k0, 2)) (hv : v.isRef = true) (hl : storeLocals Ls k0 v = some Ls') (hp : pc + 2 = pc') (k : Go p e below P (T.setTop (mkF m pc' Ls' (rest)))) : Go p e below P (T.setTop (mkF m pc Ls (v :: rest))) := by
  subst hp; exact Go.on (fun t => XS.astore X.here B.1 rfl (hb B.2.1 hd) rfl hv hl) k
theorem s_iconst (B : Ctx p s m meth c Z own nm bytes maxL ret) (X : Stand p l e R s m args below meth c T locs cells slots) {i : Int} {v : Int32} (hd : decode bytes pc = .ok (.iconst i, 1)) (hv : Int32.ofInt i = v) (hp : pc + 1 = pc') (k : Go p e below P (T.setTop (mkF m pc' Ls (.int v :: rest)))) : Go p e below P (T.setTop (mkF m pc Ls (rest))) := by
  subst hp; subst hv; exact Go.on (fun t => XS.iconst X.here B.1 rfl (hb B.2.1 hd)) k
theorem s_bipush (B : Ctx p s m meth c Z own nm bytes maxL ret) (X : Stand p l e R s m args below meth c T locs cells slots) {i : Int} {v : Int32} (hd : decode bytes pc = .ok (.bipush i, 2)) (hv : (Int8.ofInt i).toInt32 = v) (hp : pc + 2 = pc') (k : Go p e below P (T.setTop (mkF m pc' Ls (.int v :: rest)))) : Go p e below P (T.setTop (mkF m pc Ls (rest))) := by
  subst hp; subst hv; exact Go.on (fun t => XS.bipush X.here B.1 rfl (hb B.2.1 hd)) k
theorem s_sipush (B : Ctx p s m meth c Z own nm bytes maxL ret) (X : Stand p l e R s m args below meth c T locs cells slots) {i : Int} {v : Int32} (hd : decode bytes pc = .ok (.sipush i, 3)) (hv : (Int16.ofInt i).toInt32 = v) (hp : pc + 3 = pc') (k : Go p e below P (T.setTop (mkF m pc' Ls (.int v :: rest)))) : Go p e below P (T.setTop (mkF m pc Ls (rest))) := by
  subst hp; subst hv; exact Go.on (fun t => XS.sipush X.here B.1 rfl (hb B.2.1 hd)) k
theorem s_lconst (B : Ctx p s m meth c Z own nm bytes maxL ret) (X : Stand p l e R s m args below meth c T locs cells slots) {i : Fin 2} {v : Int64} (hd : decode bytes pc = .ok (.lconst i, 1)) (hv : Int64.ofNat i = v) (hp : pc + 1 = pc') (k : Go p e below P (T.setTop (mkF m pc' Ls (.long v :: rest)))) : Go p e below P (T.setTop (mkF m pc Ls (rest))) := by
  subst hp; subst hv; exact Go.on (fun t => XS.lconst X.here B.1 rfl (hb B.2.1 hd)) k
theorem s_aconst_null (B : Ctx p s m meth c Z own nm bytes maxL ret) (X : Stand p l e R s m args below meth c T locs cells slots)  (hd : decode bytes pc = .ok (.aconst_null, 1))  (hp : pc + 1 = pc') (k : Go p e below P (T.setTop (mkF m pc' Ls (.null :: rest)))) : Go p e below P (T.setTop (mkF m pc Ls (rest))) := by
  subst hp; exact Go.on (fun t => XS.aconstNull X.here B.1 rfl (hb B.2.1 hd)) k
theorem s_iadd (B : Ctx p s m meth c Z own nm bytes maxL ret) (X : Stand p l e R s m args below meth c T locs cells slots) {x : Int32} {y : Int32} {v : Int32} (hd : decode bytes pc = .ok (.iadd, 1)) (hv : x + y = v)  (hp : pc + 1 = pc') (k : Go p e below P (T.setTop (mkF m pc' Ls (.int v :: rest)))) : Go p e below P (T.setTop (mkF m pc Ls (.int y :: .int x :: rest))) := by
  subst hp; subst hv; exact Go.on (fun t => XS.iadd X.here B.1 rfl (hb B.2.1 hd) rfl ) k
theorem s_isub (B : Ctx p s m meth c Z own nm bytes maxL ret) (X : Stand p l e R s m args below meth c T locs cells slots) {x : Int32} {y : Int32} {v : Int32} (hd : decode bytes pc = .ok (.isub, 1)) (hv : x - y = v)  (hp : pc + 1 = pc') (k : Go p e below P (T.setTop (mkF m pc' Ls (.int v :: rest)))) : Go p e below P (T.setTop (mkF m pc Ls (.int y :: .int x :: rest))) := by
  subst hp; subst hv; exact Go.on (fun t => XS.isub X.here B.1 rfl (hb B.2.1 hd) rfl ) k
theorem s_imul (B : Ctx p s m meth c Z own nm bytes maxL ret) (X : Stand p l e R s m args below meth c T locs cells slots) {x : Int32} {y : Int32} {v : Int32} (hd : decode bytes pc = .ok (.imul, 1)) (hv : x * y = v)  (hp : pc + 1 = pc') (k : Go p e below P (T.setTop (mkF m pc' Ls (.int v :: rest)))) : Go p e below P (T.setTop (mkF m pc Ls (.int y :: .int x :: rest))) := by
  subst hp; subst hv; exact Go.on (fun t => XS.imul X.here B.1 rfl (hb B.2.1 hd) rfl ) k
theorem s_iand (B : Ctx p s m meth c Z own nm bytes maxL ret) (X : Stand p l e R s m args below meth c T locs cells slots) {x : Int32} {y : Int32} {v : Int32} (hd : decode bytes pc = .ok (.iand, 1)) (hv : x &&& y = v)  (hp : pc + 1 = pc') (k : Go p e below P (T.setTop (mkF m pc' Ls (.int v :: rest)))) : Go p e below P (T.setTop (mkF m pc Ls (.int y :: .int x :: rest))) := by
  subst hp; subst hv; exact Go.on (fun t => XS.iand X.here B.1 rfl (hb B.2.1 hd) rfl ) k
theorem s_ior (B : Ctx p s m meth c Z own nm bytes maxL ret) (X : Stand p l e R s m args below meth c T locs cells slots) {x : Int32} {y : Int32} {v : Int32} (hd : decode bytes pc = .ok (.ior, 1)) (hv : x ||| y = v)  (hp : pc + 1 = pc') (k : Go p e below P (T.setTop (mkF m pc' Ls (.int v :: rest)))) : Go p e below P (T.setTop (mkF m pc Ls (.int y :: .int x :: rest))) := by
  subst hp; subst hv; exact Go.on (fun t => XS.ior X.here B.1 rfl (hb B.2.1 hd) rfl ) k
theorem s_ixor (B : Ctx p s m meth c Z own nm bytes maxL ret) (X : Stand p l e R s m args below meth c T locs cells slots) {x : Int32} {y : Int32} {v : Int32} (hd : decode bytes pc = .ok (.ixor, 1)) (hv : x ^^^ y = v)  (hp : pc + 1 = pc') (k : Go p e below P (T.setTop (mkF m pc' Ls (.int v :: rest)))) : Go p e below P (T.setTop (mkF m pc Ls (.int y :: .int x :: rest))) := by
  subst hp; subst hv; exact Go.on (fun t => XS.ixor X.here B.1 rfl (hb B.2.1 hd) rfl ) k
theorem s_ladd (B : Ctx p s m meth c Z own nm bytes maxL ret) (X : Stand p l e R s m args below meth c T locs cells slots) {x : Int64} {y : Int64} {v : Int64} (hd : decode bytes pc = .ok (.ladd, 1)) (hv : x + y = v)  (hp : pc + 1 = pc') (k : Go p e below P (T.setTop (mkF m pc' Ls (.long v :: rest)))) : Go p e below P (T.setTop (mkF m pc Ls (.long y :: .long x :: rest))) := by
  subst hp; subst hv; exact Go.on (fun t => XS.ladd X.here B.1 rfl (hb B.2.1 hd) rfl ) k
theorem s_lsub (B : Ctx p s m meth c Z own nm bytes maxL ret) (X : Stand p l e R s m args below meth c T locs cells slots) {x : Int64} {y : Int64} {v : Int64} (hd : decode bytes pc = .ok (.lsub, 1)) (hv : x - y = v)  (hp : pc + 1 = pc') (k : Go p e below P (T.setTop (mkF m pc' Ls (.long v :: rest)))) : Go p e below P (T.setTop (mkF m pc Ls (.long y :: .long x :: rest))) := by
  subst hp; subst hv; exact Go.on (fun t => XS.lsub X.here B.1 rfl (hb B.2.1 hd) rfl ) k
theorem s_lmul (B : Ctx p s m meth c Z own nm bytes maxL ret) (X : Stand p l e R s m args below meth c T locs cells slots) {x : Int64} {y : Int64} {v : Int64} (hd : decode bytes pc = .ok (.lmul, 1)) (hv : x * y = v)  (hp : pc + 1 = pc') (k : Go p e below P (T.setTop (mkF m pc' Ls (.long v :: rest)))) : Go p e below P (T.setTop (mkF m pc Ls (.long y :: .long x :: rest))) := by
  subst hp; subst hv; exact Go.on (fun t => XS.lmul X.here B.1 rfl (hb B.2.1 hd) rfl ) k
theorem s_land (B : Ctx p s m meth c Z own nm bytes maxL ret) (X : Stand p l e R s m args below meth c T locs cells slots) {x : Int64} {y : Int64} {v : Int64} (hd : decode bytes pc = .ok (.land, 1)) (hv : x &&& y = v)  (hp : pc + 1 = pc') (k : Go p e below P (T.setTop (mkF m pc' Ls (.long v :: rest)))) : Go p e below P (T.setTop (mkF m pc Ls (.long y :: .long x :: rest))) := by
  subst hp; subst hv; exact Go.on (fun t => XS.land X.here B.1 rfl (hb B.2.1 hd) rfl ) k
theorem s_lor (B : Ctx p s m meth c Z own nm bytes maxL ret) (X : Stand p l e R s m args below meth c T locs cells slots) {x : Int64} {y : Int64} {v : Int64} (hd : decode bytes pc = .ok (.lor, 1)) (hv : x ||| y = v)  (hp : pc + 1 = pc') (k : Go p e below P (T.setTop (mkF m pc' Ls (.long v :: rest)))) : Go p e below P (T.setTop (mkF m pc Ls (.long y :: .long x :: rest))) := by
  subst hp; subst hv; exact Go.on (fun t => XS.lor X.here B.1 rfl (hb B.2.1 hd) rfl ) k
theorem s_lxor (B : Ctx p s m meth c Z own nm bytes maxL ret) (X : Stand p l e R s m args below meth c T locs cells slots) {x : Int64} {y : Int64} {v : Int64} (hd : decode bytes pc = .ok (.lxor, 1)) (hv : x ^^^ y = v)  (hp : pc + 1 = pc') (k : Go p e below P (T.setTop (mkF m pc' Ls (.long v :: rest)))) : Go p e below P (T.setTop (mkF m pc Ls (.long y :: .long x :: rest))) := by
  subst hp; subst hv; exact Go.on (fun t => XS.lxor X.here B.1 rfl (hb B.2.1 hd) rfl ) k
theorem s_idiv (B : Ctx p s m meth c Z own nm bytes maxL ret) (X : Stand p l e R s m args below meth c T locs cells slots) {x : Int32} {y : Int32} {v : Int32} (hd : decode bytes pc = .ok (.idiv, 1)) (hv : x / y = v) (hy : y ≠ 0) (hp : pc + 1 = pc') (k : Go p e below P (T.setTop (mkF m pc' Ls (.int v :: rest)))) : Go p e below P (T.setTop (mkF m pc Ls (.int y :: .int x :: rest))) := by
  subst hp; subst hv; exact Go.on (fun t => XS.idiv X.here B.1 rfl (hb B.2.1 hd) rfl hy) k
theorem s_ldiv (B : Ctx p s m meth c Z own nm bytes maxL ret) (X : Stand p l e R s m args below meth c T locs cells slots) {x : Int64} {y : Int64} {v : Int64} (hd : decode bytes pc = .ok (.ldiv, 1)) (hv : x / y = v) (hy : y ≠ 0) (hp : pc + 1 = pc') (k : Go p e below P (T.setTop (mkF m pc' Ls (.long v :: rest)))) : Go p e below P (T.setTop (mkF m pc Ls (.long y :: .long x :: rest))) := by
  subst hp; subst hv; exact Go.on (fun t => XS.ldiv X.here B.1 rfl (hb B.2.1 hd) rfl hy) k
theorem s_irem (B : Ctx p s m meth c Z own nm bytes maxL ret) (X : Stand p l e R s m args below meth c T locs cells slots) {x y v : Int32} (hd : decode bytes pc = .ok (.irem, 1)) (hv : x % y = v) (hy : y ≠ 0) (hp : pc + 1 = pc') (k : Go p e below P (T.setTop (mkF m pc' Ls (.int v :: rest)))) : Go p e below P (T.setTop (mkF m pc Ls (.int y :: .int x :: rest))) := by
  subst hp; subst hv; exact Go.on (fun t => iremM X B.1 rfl (hb B.2.1 hd) rfl hy) k
theorem s_ishl (B : Ctx p s m meth c Z own nm bytes maxL ret) (X : Stand p l e R s m args below meth c T locs cells slots) {x : Int32} {y : Int32} {v : Int32} (hd : decode bytes pc = .ok (.ishl, 1)) (hv : x <<< (y &&& 31) = v)  (hp : pc + 1 = pc') (k : Go p e below P (T.setTop (mkF m pc' Ls (.int v :: rest)))) : Go p e below P (T.setTop (mkF m pc Ls (.int y :: .int x :: rest))) := by
  subst hp; subst hv; exact Go.on (fun t => XS.ishl X.here B.1 rfl (hb B.2.1 hd) rfl ) k
theorem s_ishr (B : Ctx p s m meth c Z own nm bytes maxL ret) (X : Stand p l e R s m args below meth c T locs cells slots) {x : Int32} {y : Int32} {v : Int32} (hd : decode bytes pc = .ok (.ishr, 1)) (hv : x >>> (y &&& 31) = v)  (hp : pc + 1 = pc') (k : Go p e below P (T.setTop (mkF m pc' Ls (.int v :: rest)))) : Go p e below P (T.setTop (mkF m pc Ls (.int y :: .int x :: rest))) := by
  subst hp; subst hv; exact Go.on (fun t => XS.ishr X.here B.1 rfl (hb B.2.1 hd) rfl ) k
theorem s_iushr (B : Ctx p s m meth c Z own nm bytes maxL ret) (X : Stand p l e R s m args below meth c T locs cells slots) {x : Int32} {y : Int32} {v : Int32} (hd : decode bytes pc = .ok (.iushr, 1)) (hv : (x.toUInt32 >>> (y &&& 31).toUInt32).toInt32 = v)  (hp : pc + 1 = pc') (k : Go p e below P (T.setTop (mkF m pc' Ls (.int v :: rest)))) : Go p e below P (T.setTop (mkF m pc Ls (.int y :: .int x :: rest))) := by
  subst hp; subst hv; exact Go.on (fun t => XS.iushr X.here B.1 rfl (hb B.2.1 hd) rfl ) k
theorem s_lshl (B : Ctx p s m meth c Z own nm bytes maxL ret) (X : Stand p l e R s m args below meth c T locs cells slots) {x : Int64} {y : Int32} {v : Int64} (hd : decode bytes pc = .ok (.lshl, 1)) (hv : x <<< (y &&& 0x3f).toInt64 = v)  (hp : pc + 1 = pc') (k : Go p e below P (T.setTop (mkF m pc' Ls (.long v :: rest)))) : Go p e below P (T.setTop (mkF m pc Ls (.int y :: .long x :: rest))) := by
  subst hp; subst hv; exact Go.on (fun t => XS.lshl X.here B.1 rfl (hb B.2.1 hd) rfl ) k
theorem s_lshr (B : Ctx p s m meth c Z own nm bytes maxL ret) (X : Stand p l e R s m args below meth c T locs cells slots) {x : Int64} {y : Int32} {v : Int64} (hd : decode bytes pc = .ok (.lshr, 1)) (hv : x >>> (y &&& 0x3f).toInt64 = v)  (hp : pc + 1 = pc') (k : Go p e below P (T.setTop (mkF m pc' Ls (.long v :: rest)))) : Go p e below P (T.setTop (mkF m pc Ls (.int y :: .long x :: rest))) := by
  subst hp; subst hv; exact Go.on (fun t => XS.lshr X.here B.1 rfl (hb B.2.1 hd) rfl ) k
theorem s_lushr (B : Ctx p s m meth c Z own nm bytes maxL ret) (X : Stand p l e R s m args below meth c T locs cells slots) {x : Int64} {y : Int32} {v : Int64} (hd : decode bytes pc = .ok (.lushr, 1)) (hv : (x.toUInt64 >>> (y &&& 0x3f).toInt64.toUInt64).toInt64 = v)  (hp : pc + 1 = pc') (k : Go p e below P (T.setTop (mkF m pc' Ls (.long v :: rest)))) : Go p e below P (T.setTop (mkF m pc Ls (.int y :: .long x :: rest))) := by
  subst hp; subst hv; exact Go.on (fun t => XS.lushr X.here B.1 rfl (hb B.2.1 hd) rfl ) k
theorem s_i2b (B : Ctx p s m meth c Z own nm bytes maxL ret) (X : Stand p l e R s m args below meth c T locs cells slots) {x : Int32} {v : Int32} (hd : decode bytes pc = .ok (.i2b, 1)) (hv : x.toInt8.toInt32 = v) (hp : pc + 1 = pc') (k : Go p e below P (T.setTop (mkF m pc' Ls (.int v :: rest)))) : Go p e below P (T.setTop (mkF m pc Ls (.int x :: rest))) := by
  subst hp; subst hv; exact Go.on (fun t => XS.i2b X.here B.1 rfl (hb B.2.1 hd) rfl) k
theorem s_i2c (B : Ctx p s m meth c Z own nm bytes maxL ret) (X : Stand p l e R s m args below meth c T locs cells slots) {x : Int32} {v : Int32} (hd : decode bytes pc = .ok (.i2c, 1)) (hv : x.toUInt32.toUInt16.toUInt32.toInt32 = v) (hp : pc + 1 = pc') (k : Go p e below P (T.setTop (mkF m pc' Ls (.int v :: rest)))) : Go p e below P (T.setTop (mkF m pc Ls (.int x :: rest))) := by
  subst hp; subst hv; exact Go.on (fun t => XS.i2c X.here B.1 rfl (hb B.2.1 hd) rfl) k
theorem s_i2s (B : Ctx p s m meth c Z own nm bytes maxL ret) (X : Stand p l e R s m args below meth c T locs cells slots) {x : Int32} {v : Int32} (hd : decode bytes pc = .ok (.i2s, 1)) (hv : x.toInt16.toInt32 = v) (hp : pc + 1 = pc') (k : Go p e below P (T.setTop (mkF m pc' Ls (.int v :: rest)))) : Go p e below P (T.setTop (mkF m pc Ls (.int x :: rest))) := by
  subst hp; subst hv; exact Go.on (fun t => XS.i2s X.here B.1 rfl (hb B.2.1 hd) rfl) k
theorem s_i2l (B : Ctx p s m meth c Z own nm bytes maxL ret) (X : Stand p l e R s m args below meth c T locs cells slots) {x : Int32} {v : Int64} (hd : decode bytes pc = .ok (.i2l, 1)) (hv : x.toInt64 = v) (hp : pc + 1 = pc') (k : Go p e below P (T.setTop (mkF m pc' Ls (.long v :: rest)))) : Go p e below P (T.setTop (mkF m pc Ls (.int x :: rest))) := by
  subst hp; subst hv; exact Go.on (fun t => XS.i2l X.here B.1 rfl (hb B.2.1 hd) rfl) k
theorem s_l2i (B : Ctx p s m meth c Z own nm bytes maxL ret) (X : Stand p l e R s m args below meth c T locs cells slots) {x : Int64} {v : Int32} (hd : decode bytes pc = .ok (.l2i, 1)) (hv : x.toInt32 = v) (hp : pc + 1 = pc') (k : Go p e below P (T.setTop (mkF m pc' Ls (.int v :: rest)))) : Go p e below P (T.setTop (mkF m pc Ls (.long x :: rest))) := by
  subst hp; subst hv; exact Go.on (fun t => XS.l2i X.here B.1 rfl (hb B.2.1 hd) rfl) k
theorem s_ineg (B : Ctx p s m meth c Z own nm bytes maxL ret) (X : Stand p l e R s m args below meth c T locs cells slots) {x : Int32} {v : Int32} (hd : decode bytes pc = .ok (.ineg, 1)) (hv : -x = v) (hp : pc + 1 = pc') (k : Go p e below P (T.setTop (mkF m pc' Ls (.int v :: rest)))) : Go p e below P (T.setTop (mkF m pc Ls (.int x :: rest))) := by
  subst hp; subst hv; exact Go.on (fun t => XS.ineg X.here B.1 rfl (hb B.2.1 hd) rfl) k
theorem s_lneg (B : Ctx p s m meth c Z own nm bytes maxL ret) (X : Stand p l e R s m args below meth c T locs cells slots) {x : Int64} {v : Int64} (hd : decode bytes pc = .ok (.lneg, 1)) (hv : -x = v) (hp : pc + 1 = pc') (k : Go p e below P (T.setTop (mkF m pc' Ls (.long v :: rest)))) : Go p e below P (T.setTop (mkF m pc Ls (.long x :: rest))) := by
  subst hp; subst hv; exact Go.on (fun t => XS.lneg X.here B.1 rfl (hb B.2.1 hd) rfl) k
theorem s_lcmp (B : Ctx p s m meth c Z own nm bytes maxL ret) (X : Stand p l e R s m args below meth c T locs cells slots) {x y : Int64} (hd : decode bytes pc = .ok (.lcmp, 1))  (hp : pc + 1 = pc') (k : Go p e below P (T.setTop (mkF m pc' Ls (.int (lcmpW x y) :: rest)))) : Go p e below P (T.setTop (mkF m pc Ls (.long y :: .long x :: rest))) := by
  subst hp; exact Go.on (fun t => XS.lcmp X.here B.1 rfl (hb B.2.1 hd) rfl) k
theorem s_dup (B : Ctx p s m meth c Z own nm bytes maxL ret) (X : Stand p l e R s m args below meth c T locs cells slots) {v : Value} (hd : decode bytes pc = .ok (.dup, 1)) (hc : v.category = 1) (hp : pc + 1 = pc') (k : Go p e below P (T.setTop (mkF m pc' Ls (v :: v :: rest)))) : Go p e below P (T.setTop (mkF m pc Ls (v :: rest))) := by
  subst hp; exact Go.on (fun t => XS.dup X.here B.1 rfl (hb B.2.1 hd) rfl hc) k
theorem s_pop (B : Ctx p s m meth c Z own nm bytes maxL ret) (X : Stand p l e R s m args below meth c T locs cells slots) {v : Value} (hd : decode bytes pc = .ok (.pop, 1)) (hc : v.category = 1) (hp : pc + 1 = pc') (k : Go p e below P (T.setTop (mkF m pc' Ls (rest)))) : Go p e below P (T.setTop (mkF m pc Ls (v :: rest))) := by
  subst hp; exact Go.on (fun t => XS.pop X.here B.1 rfl (hb B.2.1 hd) rfl hc) k
theorem s_swap (B : Ctx p s m meth c Z own nm bytes maxL ret) (X : Stand p l e R s m args below meth c T locs cells slots) {v w : Value} (hd : decode bytes pc = .ok (.swap, 1)) (hc : v.category = 1) (hc2 : w.category = 1) (hp : pc + 1 = pc') (k : Go p e below P (T.setTop (mkF m pc' Ls (w :: v :: rest)))) : Go p e below P (T.setTop (mkF m pc Ls (v :: w :: rest))) := by
  subst hp; exact Go.on (fun t => XS.swap X.here B.1 rfl (hb B.2.1 hd) rfl hc hc2) k
theorem s_dup_x1 (B : Ctx p s m meth c Z own nm bytes maxL ret) (X : Stand p l e R s m args below meth c T locs cells slots) {v w : Value} (hd : decode bytes pc = .ok (.dup_x1, 1)) (hc : v.category = 1) (hc2 : w.category = 1) (hp : pc + 1 = pc') (k : Go p e below P (T.setTop (mkF m pc' Ls (v :: w :: v :: rest)))) : Go p e below P (T.setTop (mkF m pc Ls (v :: w :: rest))) := by
  subst hp; exact Go.on (fun t => XS.dupX1 X.here B.1 rfl (hb B.2.1 hd) rfl hc hc2) k
theorem s_dup2 (B : Ctx p s m meth c Z own nm bytes maxL ret) (X : Stand p l e R s m args below meth c T locs cells slots) {v w : Value} (hd : decode bytes pc = .ok (.dup2, 1)) (hc : v.category = 1) (hc2 : w.category = 1) (hp : pc + 1 = pc') (k : Go p e below P (T.setTop (mkF m pc' Ls (v :: w :: v :: w :: rest)))) : Go p e below P (T.setTop (mkF m pc Ls (v :: w :: rest))) := by
  subst hp; exact Go.on (fun t => XT.dup2 X.here B.1 rfl (hb B.2.1 hd) rfl hc hc2) k
theorem s_iinc (B : Ctx p s m meth c Z own nm bytes maxL ret) (X : Stand p l e R s m args below meth c T locs cells slots) {k0 : Nat} {i : Int} {x v : Int32} (hd : decode bytes pc = .ok (.iinc k0 i, 3)) (hl : Ls[k0]? = some (.val (.int x))) (hv : x + Int32.ofInt i = v) (hl' : storeLocals Ls k0 (.int v) = some Ls') (hp : pc + 3 = pc') (k : Go p e below P (T.setTop (mkF m pc' Ls' (rest)))) : Go p e below P (T.setTop (mkF m pc Ls (rest))) := by
  subst hp; subst hv; exact Go.on (fun t => XS.iinc X.here B.1 rfl (hb B.2.1 hd) hl hl') k
theorem s_goto (B : Ctx p s m meth c Z own nm bytes maxL ret) (X : Stand p l e R s m args below meth c T locs cells slots)  {o : Int} (hd : decode bytes pc = .ok (.goto o, 3))  (ho : 0 ≤ (pc : Int) + o) (hp : ((pc : Int) + o).toNat = pc') (k : Go p e below P (T.setTop (mkF m pc' Ls (rest)))) : Go p e below P (T.setTop (mkF m pc Ls (rest))) := Go.on (fun t => XS.goto X.here B.1 rfl rfl (hb B.2.1 hd) ho hp) k
theorem s_ifY (B : Ctx p s m meth c Z own nm bytes maxL ret) (X : Stand p l e R s m args below meth c T locs cells slots) {cd : ClassFile.Cond} {x : Int32} {o : Int} (hd : decode bytes pc = .ok (.ifCond cd o, 3)) (hc : ifCond.holds cd x = true) (ho : 0 ≤ (pc : Int) + o) (hp : ((pc : Int) + o).toNat = pc') (k : Go p e below P (T.setTop (mkF m pc' Ls (rest)))) : Go p e below P (T.setTop (mkF m pc Ls (.int x :: rest))) := Go.on (fun t => XS.ifYes X.here B.1 rfl rfl (hb B.2.1 hd) rfl hc ho hp) k
theorem s_ifN (B : Ctx p s m meth c Z own nm bytes maxL ret) (X : Stand p l e R s m args below meth c T locs cells slots) {cd : ClassFile.Cond} {x : Int32} {o : Int} (hd : decode bytes pc = .ok (.ifCond cd o, 3)) (hc : ifCond.holds cd x = false) (hp : pc + 3 = pc') (k : Go p e below P (T.setTop (mkF m pc' Ls (rest)))) : Go p e below P (T.setTop (mkF m pc Ls (.int x :: rest))) := by
  subst hp; exact Go.on (fun t => XS.ifNo X.here B.1 rfl (hb B.2.1 hd) rfl hc) k
theorem s_icmpY (B : Ctx p s m meth c Z own nm bytes maxL ret) (X : Stand p l e R s m args below meth c T locs cells slots) {cd : ClassFile.Cond} {x y : Int32} {o : Int} (hd : decode bytes pc = .ok (.if_icmp cd o, 3)) (hc : if_icmp.holds cd x y = true) (ho : 0 ≤ (pc : Int) + o) (hp : ((pc : Int) + o).toNat = pc') (k : Go p e below P (T.setTop (mkF m pc' Ls (rest)))) : Go p e below P (T.setTop (mkF m pc Ls (.int y :: .int x :: rest))) := Go.on (fun t => XS.icmpYes X.here B.1 rfl rfl (hb B.2.1 hd) rfl hc ho hp) k
theorem s_icmpN (B : Ctx p s m meth c Z own nm bytes maxL ret) (X : Stand p l e R s m args below meth c T locs cells slots) {cd : ClassFile.Cond} {x y : Int32} {o : Int} (hd : decode bytes pc = .ok (.if_icmp cd o, 3)) (hc : if_icmp.holds cd x y = false) (hp : pc + 3 = pc') (k : Go p e below P (T.setTop (mkF m pc' Ls (rest)))) : Go p e below P (T.setTop (mkF m pc Ls (.int y :: .int x :: rest))) := by
  subst hp; exact Go.on (fun t => XS.icmpNo X.here B.1 rfl (hb B.2.1 hd) rfl hc) k
theorem s_ifnullY (B : Ctx p s m meth c Z own nm bytes maxL ret) (X : Stand p l e R s m args below meth c T locs cells slots)  {o : Int} (hd : decode bytes pc = .ok (.ifnull o, 3))  (ho : 0 ≤ (pc : Int) + o) (hp : ((pc : Int) + o).toNat = pc') (k : Go p e below P (T.setTop (mkF m pc' Ls (rest)))) : Go p e below P (T.setTop (mkF m pc Ls (.null :: rest))) := Go.on (fun t => XS.ifnullYes X.here B.1 rfl rfl (hb B.2.1 hd) rfl ho hp) k
theorem s_ifnullN (B : Ctx p s m meth c Z own nm bytes maxL ret) (X : Stand p l e R s m args below meth c T locs cells slots) {b : Addr} {o : Int} (hd : decode bytes pc = .ok (.ifnull o, 3))  (hp : pc + 3 = pc') (k : Go p e below P (T.setTop (mkF m pc' Ls (rest)))) : Go p e below P (T.setTop (mkF m pc Ls (.ref b :: rest))) := by
  subst hp; exact Go.on (fun t => XS.ifnullNo X.here B.1 rfl (hb B.2.1 hd) rfl) k
theorem s_ifnonnullY (B : Ctx p s m meth c Z own nm bytes maxL ret) (X : Stand p l e R s m args below meth c T locs cells slots) {b : Addr} {o : Int} (hd : decode bytes pc = .ok (.ifnonnull o, 3))  (ho : 0 ≤ (pc : Int) + o) (hp : ((pc : Int) + o).toNat = pc') (k : Go p e below P (T.setTop (mkF m pc' Ls (rest)))) : Go p e below P (T.setTop (mkF m pc Ls (.ref b :: rest))) := Go.on (fun t => XS.ifnonnullYes X.here B.1 rfl rfl (hb B.2.1 hd) rfl ho hp) k
theorem s_ifnonnullN (B : Ctx p s m meth c Z own nm bytes maxL ret) (X : Stand p l e R s m args below meth c T locs cells slots)  {o : Int} (hd : decode bytes pc = .ok (.ifnonnull o, 3))  (hp : pc + 3 = pc') (k : Go p e below P (T.setTop (mkF m pc' Ls (rest)))) : Go p e below P (T.setTop (mkF m pc Ls (.null :: rest))) := by
  subst hp; exact Go.on (fun t => XS.ifnonnullNo X.here B.1 rfl (hb B.2.1 hd) rfl) k
theorem b_icmp_eq (B : Ctx p s m meth c Z own nm bytes maxL ret) (X : Stand p l e R s m args below meth c T locs cells slots) {x y : Int32} {o : Int} {py pn : Nat} (hd : decode bytes pc = .ok (.if_icmp .eq o, 3)) (ho : 0 ≤ (pc : Int) + o) (hy : ((pc : Int) + o).toNat = py) (hn : pc + 3 = pn) (k1 : x = y → Go p e below P (T.setTop (mkF m py Ls (rest)))) (k2 : ¬ x = y → Go p e below P (T.setTop (mkF m pn Ls (rest)))) : Go p e below P (T.setTop (mkF m pc Ls (.int y :: .int x :: rest))) := by
  by_cases q : x = y
  · exact s_icmpY B X hd (teq q).1 ho hy (k1 q)
  · exact s_icmpN B X hd (feq q).1 hn (k2 q)
theorem b_if_eq (B : Ctx p s m meth c Z own nm bytes maxL ret) (X : Stand p l e R s m args below meth c T locs cells slots) {x : Int32} {o : Int} {py pn : Nat} (hd : decode bytes pc = .ok (.ifCond .eq o, 3)) (ho : 0 ≤ (pc : Int) + o) (hy : ((pc : Int) + o).toNat = py) (hn : pc + 3 = pn) (k1 : x = 0 → Go p e below P (T.setTop (mkF m py Ls (rest)))) (k2 : ¬ x = 0 → Go p e below P (T.setTop (mkF m pn Ls (rest)))) : Go p e below P (T.setTop (mkF m pc Ls (.int x :: rest))) := by
  by_cases q : x = 0
  · exact s_ifY B X hd ((if0 _ _).trans (teq q).1) ho hy (k1 q)
  · exact s_ifN B X hd ((if0 _ _).trans (feq q).1) hn (k2 q)
theorem b_icmp_ne (B : Ctx p s m meth c Z own nm bytes maxL ret) (X : Stand p l e R s m args below meth c T locs cells slots) {x y : Int32} {o : Int} {py pn : Nat} (hd : decode bytes pc = .ok (.if_icmp .ne o, 3)) (ho : 0 ≤ (pc : Int) + o) (hy : ((pc : Int) + o).toNat = py) (hn : pc + 3 = pn) (k1 : ¬ x = y → Go p e below P (T.setTop (mkF m py Ls (rest)))) (k2 : x = y → Go p e below P (T.setTop (mkF m pn Ls (rest)))) : Go p e below P (T.setTop (mkF m pc Ls (.int y :: .int x :: rest))) := by
  by_cases q : x = y
  · exact s_icmpN B X hd (teq q).2 hn (k2 q)
  · exact s_icmpY B X hd (feq q).2 ho hy (k1 q)
theorem b_if_ne (B : Ctx p s m meth c Z own nm bytes maxL ret) (X : Stand p l e R s m args below meth c T locs cells slots) {x : Int32} {o : Int} {py pn : Nat} (hd : decode bytes pc = .ok (.ifCond .ne o, 3)) (ho : 0 ≤ (pc : Int) + o) (hy : ((pc : Int) + o).toNat = py) (hn : pc + 3 = pn) (k1 : ¬ x = 0 → Go p e below P (T.setTop (mkF m py Ls (rest)))) (k2 : x = 0 → Go p e below P (T.setTop (mkF m pn Ls (rest)))) : Go p e below P (T.setTop (mkF m pc Ls (.int x :: rest))) := by
  by_cases q : x = 0
  · exact s_ifN B X hd ((if0 _ _).trans (teq q).2) hn (k2 q)
  · exact s_ifY B X hd ((if0 _ _).trans (feq q).2) ho hy (k1 q)
theorem b_icmp_lt (B : Ctx p s m meth c Z own nm bytes maxL ret) (X : Stand p l e R s m args below meth c T locs cells slots) {x y : Int32} {o : Int} {py pn : Nat} (hd : decode bytes pc = .ok (.if_icmp .lt o, 3)) (ho : 0 ≤ (pc : Int) + o) (hy : ((pc : Int) + o).toNat = py) (hn : pc + 3 = pn) (k1 : x < y → Go p e below P (T.setTop (mkF m py Ls (rest)))) (k2 : ¬ x < y → Go p e below P (T.setTop (mkF m pn Ls (rest)))) : Go p e below P (T.setTop (mkF m pc Ls (.int y :: .int x :: rest))) := by
  by_cases q : x < y
  · exact s_icmpY B X hd (tlt q).1 ho hy (k1 q)
  · exact s_icmpN B X hd (flt q).1 hn (k2 q)
theorem b_if_lt (B : Ctx p s m meth c Z own nm bytes maxL ret) (X : Stand p l e R s m args below meth c T locs cells slots) {x : Int32} {o : Int} {py pn : Nat} (hd : decode bytes pc = .ok (.ifCond .lt o, 3)) (ho : 0 ≤ (pc : Int) + o) (hy : ((pc : Int) + o).toNat = py) (hn : pc + 3 = pn) (k1 : x < 0 → Go p e below P (T.setTop (mkF m py Ls (rest)))) (k2 : ¬ x < 0 → Go p e below P (T.setTop (mkF m pn Ls (rest)))) : Go p e below P (T.setTop (mkF m pc Ls (.int x :: rest))) := by
  by_cases q : x < 0
  · exact s_ifY B X hd ((if0 _ _).trans (tlt q).1) ho hy (k1 q)
  · exact s_ifN B X hd ((if0 _ _).trans (flt q).1) hn (k2 q)
theorem b_icmp_ge (B : Ctx p s m meth c Z own nm bytes maxL ret) (X : Stand p l e R s m args below meth c T locs cells slots) {x y : Int32} {o : Int} {py pn : Nat} (hd : decode bytes pc = .ok (.if_icmp .ge o, 3)) (ho : 0 ≤ (pc : Int) + o) (hy : ((pc : Int) + o).toNat = py) (hn : pc + 3 = pn) (k1 : ¬ x < y → Go p e below P (T.setTop (mkF m py Ls (rest)))) (k2 : x < y → Go p e below P (T.setTop (mkF m pn Ls (rest)))) : Go p e below P (T.setTop (mkF m pc Ls (.int y :: .int x :: rest))) := by
  by_cases q : x < y
  · exact s_icmpN B X hd (tlt q).2.1 hn (k2 q)
  · exact s_icmpY B X hd (flt q).2.1 ho hy (k1 q)
theorem b_if_ge (B : Ctx p s m meth c Z own nm bytes maxL ret) (X : Stand p l e R s m args below meth c T locs cells slots) {x : Int32} {o : Int} {py pn : Nat} (hd : decode bytes pc = .ok (.ifCond .ge o, 3)) (ho : 0 ≤ (pc : Int) + o) (hy : ((pc : Int) + o).toNat = py) (hn : pc + 3 = pn) (k1 : ¬ x < 0 → Go p e below P (T.setTop (mkF m py Ls (rest)))) (k2 : x < 0 → Go p e below P (T.setTop (mkF m pn Ls (rest)))) : Go p e below P (T.setTop (mkF m pc Ls (.int x :: rest))) := by
  by_cases q : x < 0
  · exact s_ifN B X hd ((if0 _ _).trans (tlt q).2.1) hn (k2 q)
  · exact s_ifY B X hd ((if0 _ _).trans (flt q).2.1) ho hy (k1 q)
theorem b_icmp_gt (B : Ctx p s m meth c Z own nm bytes maxL ret) (X : Stand p l e R s m args below meth c T locs cells slots) {x y : Int32} {o : Int} {py pn : Nat} (hd : decode bytes pc = .ok (.if_icmp .gt o, 3)) (ho : 0 ≤ (pc : Int) + o) (hy : ((pc : Int) + o).toNat = py) (hn : pc + 3 = pn) (k1 : y < x → Go p e below P (T.setTop (mkF m py Ls (rest)))) (k2 : ¬ y < x → Go p e below P (T.setTop (mkF m pn Ls (rest)))) : Go p e below P (T.setTop (mkF m pc Ls (.int y :: .int x :: rest))) := by
  by_cases q : y < x
  · exact s_icmpY B X hd (tlt q).2.2.1 ho hy (k1 q)
  · exact s_icmpN B X hd (flt q).2.2.1 hn (k2 q)
theorem b_if_gt (B : Ctx p s m meth c Z own nm bytes maxL ret) (X : Stand p l e R s m args below meth c T locs cells slots) {x : Int32} {o : Int} {py pn : Nat} (hd : decode bytes pc = .ok (.ifCond .gt o, 3)) (ho : 0 ≤ (pc : Int) + o) (hy : ((pc : Int) + o).toNat = py) (hn : pc + 3 = pn) (k1 : 0 < x → Go p e below P (T.setTop (mkF m py Ls (rest)))) (k2 : ¬ 0 < x → Go p e below P (T.setTop (mkF m pn Ls (rest)))) : Go p e below P (T.setTop (mkF m pc Ls (.int x :: rest))) := by
  by_cases q : 0 < x
  · exact s_ifY B X hd ((if0 _ _).trans (tlt q).2.2.1) ho hy (k1 q)
  · exact s_ifN B X hd ((if0 _ _).trans (flt q).2.2.1) hn (k2 q)
theorem b_icmp_le (B : Ctx p s m meth c Z own nm bytes maxL ret) (X : Stand p l e R s m args below meth c T locs cells slots) {x y : Int32} {o : Int} {py pn : Nat} (hd : decode bytes pc = .ok (.if_icmp .le o, 3)) (ho : 0 ≤ (pc : Int) + o) (hy : ((pc : Int) + o).toNat = py) (hn : pc + 3 = pn) (k1 : ¬ y < x → Go p e below P (T.setTop (mkF m py Ls (rest)))) (k2 : y < x → Go p e below P (T.setTop (mkF m pn Ls (rest)))) : Go p e below P (T.setTop (mkF m pc Ls (.int y :: .int x :: rest))) := by
  by_cases q : y < x
  · exact s_icmpN B X hd (tlt q).2.2.2 hn (k2 q)
  · exact s_icmpY B X hd (flt q).2.2.2 ho hy (k1 q)
theorem b_if_le (B : Ctx p s m meth c Z own nm bytes maxL ret) (X : Stand p l e R s m args below meth c T locs cells slots) {x : Int32} {o : Int} {py pn : Nat} (hd : decode bytes pc = .ok (.ifCond .le o, 3)) (ho : 0 ≤ (pc : Int) + o) (hy : ((pc : Int) + o).toNat = py) (hn : pc + 3 = pn) (k1 : ¬ 0 < x → Go p e below P (T.setTop (mkF m py Ls (rest)))) (k2 : 0 < x → Go p e below P (T.setTop (mkF m pn Ls (rest)))) : Go p e below P (T.setTop (mkF m pc Ls (.int x :: rest))) := by
  by_cases q : 0 < x
  · exact s_ifN B X hd ((if0 _ _).trans (tlt q).2.2.2) hn (k2 q)
  · exact s_ifY B X hd ((if0 _ _).trans (flt q).2.2.2) ho hy (k1 q)
theorem b_lcmp_eq (B : Ctx p s m meth c Z own nm bytes maxL ret) (X : Stand p l e R s m args below meth c T locs cells slots) {x y : Int64} {pc0 : Nat} {o : Int} {py pn : Nat} (hd0 : decode bytes pc0 = .ok (.lcmp, 1)) (hp0 : pc0 + 1 = pc) (hd : decode bytes pc = .ok (.ifCond .eq o, 3)) (ho : 0 ≤ (pc : Int) + o) (hy : ((pc : Int) + o).toNat = py) (hn : pc + 3 = pn) (k1 : x = y → Go p e below P (T.setTop (mkF m py Ls (rest)))) (k2 : ¬ x = y → Go p e below P (T.setTop (mkF m pn Ls (rest)))) : Go p e below P (T.setTop (mkF m pc0 Ls (.long y :: .long x :: rest))) := by
  by_cases q : x = y
  · exact s_lcmp B X hd0 hp0 (s_ifY B X hd ((if0 _ _).trans (teq ((lw_eq x y).mpr q)).1) ho hy (k1 q))
  · exact s_lcmp B X hd0 hp0 (s_ifN B X hd ((if0 _ _).trans (feq (fun z => q ((lw_eq x y).mp z))).1) hn (k2 q))
theorem b_lcmp_ne (B : Ctx p s m meth c Z own nm bytes maxL ret) (X : Stand p l e R s m args below meth c T locs cells slots) {x y : Int64} {pc0 : Nat} {o : Int} {py pn : Nat} (hd0 : decode bytes pc0 = .ok (.lcmp, 1)) (hp0 : pc0 + 1 = pc) (hd : decode bytes pc = .ok (.ifCond .ne o, 3)) (ho : 0 ≤ (pc : Int) + o) (hy : ((pc : Int) + o).toNat = py) (hn : pc + 3 = pn) (k1 : ¬ x = y → Go p e below P (T.setTop (mkF m py Ls (rest)))) (k2 : x = y → Go p e below P (T.setTop (mkF m pn Ls (rest)))) : Go p e below P (T.setTop (mkF m pc0 Ls (.long y :: .long x :: rest))) := by
  by_cases q : x = y
  · exact s_lcmp B X hd0 hp0 (s_ifN B X hd ((if0 _ _).trans (teq ((lw_eq x y).mpr q)).2) hn (k2 q))
  · exact s_lcmp B X hd0 hp0 (s_ifY B X hd ((if0 _ _).trans (feq (fun z => q ((lw_eq x y).mp z))).2) ho hy (k1 q))
theorem b_lcmp_lt (B : Ctx p s m meth c Z own nm bytes maxL ret) (X : Stand p l e R s m args below meth c T locs cells slots) {x y : Int64} {pc0 : Nat} {o : Int} {py pn : Nat} (hd0 : decode bytes pc0 = .ok (.lcmp, 1)) (hp0 : pc0 + 1 = pc) (hd : decode bytes pc = .ok (.ifCond .lt o, 3)) (ho : 0 ≤ (pc : Int) + o) (hy : ((pc : Int) + o).toNat = py) (hn : pc + 3 = pn) (k1 : x < y → Go p e below P (T.setTop (mkF m py Ls (rest)))) (k2 : ¬ x < y → Go p e below P (T.setTop (mkF m pn Ls (rest)))) : Go p e below P (T.setTop (mkF m pc0 Ls (.long y :: .long x :: rest))) := by
  by_cases q : x < y
  · exact s_lcmp B X hd0 hp0 (s_ifY B X hd ((if0 _ _).trans (tlt ((lw_lt x y).mpr q)).1) ho hy (k1 q))
  · exact s_lcmp B X hd0 hp0 (s_ifN B X hd ((if0 _ _).trans (flt (fun z => q ((lw_lt x y).mp z))).1) hn (k2 q))
theorem b_lcmp_ge (B : Ctx p s m meth c Z own nm bytes maxL ret) (X : Stand p l e R s m args below meth c T locs cells slots) {x y : Int64} {pc0 : Nat} {o : Int} {py pn : Nat} (hd0 : decode bytes pc0 = .ok (.lcmp, 1)) (hp0 : pc0 + 1 = pc) (hd : decode bytes pc = .ok (.ifCond .ge o, 3)) (ho : 0 ≤ (pc : Int) + o) (hy : ((pc : Int) + o).toNat = py) (hn : pc + 3 = pn) (k1 : ¬ x < y → Go p e below P (T.setTop (mkF m py Ls (rest)))) (k2 : x < y → Go p e below P (T.setTop (mkF m pn Ls (rest)))) : Go p e below P (T.setTop (mkF m pc0 Ls (.long y :: .long x :: rest))) := by
  by_cases q : x < y
  · exact s_lcmp B X hd0 hp0 (s_ifN B X hd ((if0 _ _).trans (tlt ((lw_lt x y).mpr q)).2.1) hn (k2 q))
  · exact s_lcmp B X hd0 hp0 (s_ifY B X hd ((if0 _ _).trans (flt (fun z => q ((lw_lt x y).mp z))).2.1) ho hy (k1 q))
theorem b_lcmp_gt (B : Ctx p s m meth c Z own nm bytes maxL ret) (X : Stand p l e R s m args below meth c T locs cells slots) {x y : Int64} {pc0 : Nat} {o : Int} {py pn : Nat} (hd0 : decode bytes pc0 = .ok (.lcmp, 1)) (hp0 : pc0 + 1 = pc) (hd : decode bytes pc = .ok (.ifCond .gt o, 3)) (ho : 0 ≤ (pc : Int) + o) (hy : ((pc : Int) + o).toNat = py) (hn : pc + 3 = pn) (k1 : y < x → Go p e below P (T.setTop (mkF m py Ls (rest)))) (k2 : ¬ y < x → Go p e below P (T.setTop (mkF m pn Ls (rest)))) : Go p e below P (T.setTop (mkF m pc0 Ls (.long y :: .long x :: rest))) := by
  by_cases q : y < x
  · exact s_lcmp B X hd0 hp0 (s_ifY B X hd ((if0 _ _).trans (tlt ((lw_gt x y).mpr q)).2.2.1) ho hy (k1 q))
  · exact s_lcmp B X hd0 hp0 (s_ifN B X hd ((if0 _ _).trans (flt (fun z => q ((lw_gt x y).mp z))).2.2.1) hn (k2 q))
theorem b_lcmp_le (B : Ctx p s m meth c Z own nm bytes maxL ret) (X : Stand p l e R s m args below meth c T locs cells slots) {x y : Int64} {pc0 : Nat} {o : Int} {py pn : Nat} (hd0 : decode bytes pc0 = .ok (.lcmp, 1)) (hp0 : pc0 + 1 = pc) (hd : decode bytes pc = .ok (.ifCond .le o, 3)) (ho : 0 ≤ (pc : Int) + o) (hy : ((pc : Int) + o).toNat = py) (hn : pc + 3 = pn) (k1 : ¬ y < x → Go p e below P (T.setTop (mkF m py Ls (rest)))) (k2 : y < x → Go p e below P (T.setTop (mkF m pn Ls (rest)))) : Go p e below P (T.setTop (mkF m pc0 Ls (.long y :: .long x :: rest))) := by
  by_cases q : y < x
  · exact s_lcmp B X hd0 hp0 (s_ifN B X hd ((if0 _ _).trans (tlt ((lw_gt x y).mpr q)).2.2.2) hn (k2 q))
  · exact s_lcmp B X hd0 hp0 (s_ifY B X hd ((if0 _ _).trans (flt (fun z => q ((lw_gt x y).mp z))).2.2.2) ho hy (k1 q))
theorem b_acmp_eq (B : Ctx p s m meth c Z own nm bytes maxL ret) (X : Stand p l e R s m args below meth c T locs cells slots) {a b : Addr} {o : Int} {py pn : Nat} (hd : decode bytes pc = .ok (.if_acmp .eq o, 3)) (ho : 0 ≤ (pc : Int) + o) (hy : ((pc : Int) + o).toNat = py) (hn : pc + 3 = pn) (k1 : a = b → Go p e below P (T.setTop (mkF m py Ls (rest)))) (k2 : ¬ a = b → Go p e below P (T.setTop (mkF m pn Ls (rest)))) : Go p e below P (T.setTop (mkF m pc Ls (.ref b :: .ref a :: rest))) := by
  by_cases q : a = b
  · exact Go.on (fun t => Jvm.RoadKit.acmp X B.1 rfl rfl rfl (same := true) rfl (hb B.2.1 hd) rfl (decide_eq_true (congrArg Value.ref q)) ho (by simp [acV, hy])) (k1 q)
  · exact Go.on (fun t => Jvm.RoadKit.acmp X B.1 rfl rfl rfl (same := false) rfl (hb B.2.1 hd) rfl (decide_eq_false fun z => q (Value.ref.inj z)) ho (by simp [acV, hn])) (k2 q)
theorem b_acmp_ne (B : Ctx p s m meth c Z own nm bytes maxL ret) (X : Stand p l e R s m args below meth c T locs cells slots) {a b : Addr} {o : Int} {py pn : Nat} (hd : decode bytes pc = .ok (.if_acmp .ne o, 3)) (ho : 0 ≤ (pc : Int) + o) (hy : ((pc : Int) + o).toNat = py) (hn : pc + 3 = pn) (k1 : ¬ a = b → Go p e below P (T.setTop (mkF m py Ls (rest)))) (k2 : a = b → Go p e below P (T.setTop (mkF m pn Ls (rest)))) : Go p e below P (T.setTop (mkF m pc Ls (.ref b :: .ref a :: rest))) := by
  by_cases q : a = b
  · exact Go.on (fun t => Jvm.RoadKit.acmp X B.1 rfl rfl rfl (same := true) rfl (hb B.2.1 hd) rfl (decide_eq_true (congrArg Value.ref q)) ho (by simp [acV, hn])) (k2 q)
  · exact Go.on (fun t => Jvm.RoadKit.acmp X B.1 rfl rfl rfl (same := false) rfl (hb B.2.1 hd) rfl (decide_eq_false fun z => q (Value.ref.inj z)) ho (by simp [acV, hy])) (k1 q)
theorem b_ifnull (B : Ctx p s m meth c Z own nm bytes maxL ret) (X : Stand p l e R s m args below meth c T locs cells slots) {v : Value} {o : Int} {py pn : Nat} (hv : v.isRef = true) (hd : decode bytes pc = .ok (.ifnull o, 3)) (ho : 0 ≤ (pc : Int) + o) (hy : ((pc : Int) + o).toNat = py) (hn : pc + 3 = pn) (k1 : v = .null → Go p e below P (T.setTop (mkF m py Ls (rest)))) (k2 : ¬ v = .null → Go p e below P (T.setTop (mkF m pn Ls (rest)))) : Go p e below P (T.setTop (mkF m pc Ls (v :: rest))) := by
  rcases ref_cases hv with rfl | ⟨a, rfl⟩
  · exact s_ifnullY B X hd ho hy (k1 rfl)
  · exact s_ifnullN B X hd hn (k2 nofun)
theorem b_ifnonnull (B : Ctx p s m meth c Z own nm bytes maxL ret) (X : Stand p l e R s m args below meth c T locs cells slots) {v : Value} {o : Int} {py pn : Nat} (hv : v.isRef = true) (hd : decode bytes pc = .ok (.ifnonnull o, 3)) (ho : 0 ≤ (pc : Int) + o) (hy : ((pc : Int) + o).toNat = py) (hn : pc + 3 = pn) (k1 : ¬ v = .null → Go p e below P (T.setTop (mkF m py Ls (rest)))) (k2 : v = .null → Go p e below P (T.setTop (mkF m pn Ls (rest)))) : Go p e below P (T.setTop (mkF m pc Ls (v :: rest))) := by
  rcases ref_cases hv with rfl | ⟨a, rfl⟩
  · exact s_ifnonnullN B X hd hn (k2 rfl)
  · exact s_ifnonnullY B X hd ho hy (k1 nofun)
theorem s_ldc (B : Ctx p s m meth c Z own nm bytes maxL ret) (X : Stand p l e R s m args below meth c T locs cells slots) {i : Nat} {v : Int32} (w : (Jvm.Cond.constant own i v).before a0 Z = true) (hd : decode bytes pc = .ok (.ldc i, 2)) (hp : pc + 2 = pc') (k : Go p e below P (T.setTop (mkF m pc' Ls (.int v :: rest)))) : Go p e below P (T.setTop (mkF m pc Ls (rest))) := by
  subst hp; exact Go.on (fun t => X.ldcI B.1 B.2.2.2.1 (mv B.2.2.2.2.2.2.2 w) rfl (hb B.2.1 hd)) k
theorem s_ldc2 (B : Ctx p s m meth c Z own nm bytes maxL ret) (X : Stand p l e R s m args below meth c T locs cells slots) {i : Nat} {v : Int64} (w : (Jvm.Cond.constantLong own i v).before a0 Z = true) (hd : decode bytes pc = .ok (.ldc2_w i, 3)) (hp : pc + 3 = pc') (k : Go p e below P (T.setTop (mkF m pc' Ls (.long v :: rest)))) : Go p e below P (T.setTop (mkF m pc Ls (rest))) := by
  subst hp; exact Go.on (fun t => X.ldc2J B.1 B.2.2.2.1 (mv B.2.2.2.2.2.2.2 w) rfl (hb B.2.1 hd)) k
theorem s_getS (B : Ctx p s m meth c Z own nm bytes maxL ret) (X : Stand p l e R s m args below meth c T locs cells slots) {i : Nat} {R0 O n d : String} {v : Value} (eT : T.heap = h) (w : (Jvm.Cond.fieldLink own i R0 n d).before a0 Z = true) (via : Via Z R0 O n d) (F : Sta Z h O n d v) (hd : decode bytes pc = .ok (.getstatic i, 3)) (hp : pc + 3 = pc') (k : ∀ T', Stand p l e R s m args below meth c T' locs cells slots → T'.heap = h → Go p e below P (T'.setTop (mkF m pc' Ls (v :: rest)))) : Go p e below P (T.setTop (mkF m pc Ls (rest))) := by
  subst hp
  obtain ⟨T', X', e', st⟩ := getS X B.1 B.2.2.2.2.2.2.2 (host := "") B.2.2.2.1 w via eT F (g := mkF m pc Ls rest) rfl (hb B.2.1 hd)
  exact Go.on st (k T' X' e')
theorem s_getF (B : Ctx p s m meth c Z own nm bytes maxL ret) (X : Stand p l e R s m args below meth c T locs cells slots) {i : Nat} {R0 O n d host : String} {a : Addr} {v : Value} (eT : T.heap = h) (w : (Jvm.Cond.fieldLink own i R0 n d).before a0 Z = true ∨ (Jvm.Cond.fieldLinkNest own i R0 n d host).before a0 Z = true) (via : Via Z R0 O n d) (F : Fld Z h a O n d v) (hd : decode bytes pc = .ok (.getfield i, 3)) (hp : pc + 3 = pc') (k : ∀ T', Stand p l e R s m args below meth c T' locs cells slots → T'.heap = h → Go p e below P (T'.setTop (mkF m pc' Ls (v :: rest)))) : Go p e below P (T.setTop (mkF m pc Ls (.ref a :: rest))) := by
  subst hp
  obtain ⟨T', X', e', st⟩ := getF X B.1 B.2.2.2.2.2.2.2 B.2.2.2.1 w via eT F (g := mkF m pc Ls (.ref a :: rest)) rfl rfl (hb B.2.1 hd)
  exact Go.on st (k T' X' e')
theorem r_nar (B : Ctx p s m meth c Z own nm bytes maxL ret) (X : Stand p l e R s m args below meth c T locs cells slots) {Q : Option Value → Heap → List Loc → Prop} {kc kn : Nat} {z : Int32} {t : FieldType} (ht : t = .boolean ∨ t = .byte ∨ t = .char ∨ t = .short) (hr : ret = some t) (hd : decode bytes pc = .ok (.ireturn, 1)) (hq : Q (some (.int (nar t z))) T.heap locs) (hc : cells ≤ kc) (hs : slots ≤ kn) : Go p e below (OEnds s Q kc kn) (T.setTop (mkF m pc Ls (.int z :: rest))) := by
  obtain ⟨fs, hl, hrun, hended, hW, hsame⟩ := X.leave (v := (some (.int (nar t z)))) (fun h => by rw [B.2.2.2.2.2.1, hr] at h; first | rfl | cases h) B.2.2.2.2.2.2.1
  exact ⟨_, _, retN X B.1 (by rw [B.2.2.2.2.2.1, hr]) ht (hb B.2.1 hd) hl, hrun, hended, _, _, rfl, hq, ⟨_, rfl⟩, hW, hsame.mono hc hs⟩
theorem r_int (B : Ctx p s m meth c Z own nm bytes maxL ret) (X : Stand p l e R s m args below meth c T locs cells slots) {Q : Option Value → Heap → List Loc → Prop} {kc kn : Nat} {z : Int32} (hr : ret = some .int) (hd : decode bytes pc = .ok (.ireturn, 1)) (hq : Q (some (.int z)) T.heap locs) (hc : cells ≤ kc) (hs : slots ≤ kn) : Go p e below (OEnds s Q kc kn) (T.setTop (mkF m pc Ls (.int z :: rest))) := by
  obtain ⟨fs, hl, hrun, hended, hW, hsame⟩ := X.leave (v := (some (.int z))) (fun h => by rw [B.2.2.2.2.2.1, hr] at h; first | rfl | cases h) B.2.2.2.2.2.2.1
  exact ⟨_, _, retOut X B.1 (t := .int) (by rw [B.2.2.2.2.2.1, hr]) rfl (Or.inl ⟨rfl, Or.inl rfl, _, rfl⟩) (hb B.2.1 hd) hl, hrun, hended, _, _, rfl, hq, ⟨_, rfl⟩, hW, hsame.mono hc hs⟩
theorem r_long (B : Ctx p s m meth c Z own nm bytes maxL ret) (X : Stand p l e R s m args below meth c T locs cells slots) {Q : Option Value → Heap → List Loc → Prop} {kc kn : Nat} {z : Int64} (hr : ret = some .long) (hd : decode bytes pc = .ok (.lreturn, 1)) (hq : Q (some (.long z)) T.heap locs) (hc : cells ≤ kc) (hs : slots ≤ kn) : Go p e below (OEnds s Q kc kn) (T.setTop (mkF m pc Ls (.long z :: rest))) := by
  obtain ⟨fs, hl, hrun, hended, hW, hsame⟩ := X.leave (v := (some (.long z))) (fun h => by rw [B.2.2.2.2.2.1, hr] at h; first | rfl | cases h) B.2.2.2.2.2.2.1
  exact ⟨_, _, retOut X B.1 (t := .long) (by rw [B.2.2.2.2.2.1, hr]) rfl (Or.inr (Or.inl ⟨rfl, rfl, _, rfl⟩)) (hb B.2.1 hd) hl, hrun, hended, _, _, rfl, hq, ⟨_, rfl⟩, hW, hsame.mono hc hs⟩
theorem r_ref (B : Ctx p s m meth c Z own nm bytes maxL ret) (X : Stand p l e R s m args below meth c T locs cells slots) {Q : Option Value → Heap → List Loc → Prop} {kc kn : Nat} {v : Value} {t : FieldType} (ht : t.isReference = true) (hn : narrow t v = v) (hv : v.isRef = true) (hr : ret = some t) (hd : decode bytes pc = .ok (.areturn, 1)) (hq : Q (some v) T.heap locs) (hc : cells ≤ kc) (hs : slots ≤ kn) : Go p e below (OEnds s Q kc kn) (T.setTop (mkF m pc Ls (v :: rest))) := by
  obtain ⟨fs, hl, hrun, hended, hW, hsame⟩ := X.leave (v := (some v)) (fun h => by rw [B.2.2.2.2.2.1, hr] at h; first | rfl | cases h) B.2.2.2.2.2.2.1
  exact ⟨_, _, retOut X B.1 (t := t) (by rw [B.2.2.2.2.2.1, hr]) hn (Or.inr (Or.inr (Or.inr (Or.inr ⟨rfl, ht, hv⟩)))) (hb B.2.1 hd) hl, hrun, hended, _, _, rfl, hq, ⟨_, rfl⟩, hW, hsame.mono hc hs⟩
theorem r_void (B : Ctx p s m meth c Z own nm bytes maxL ret) (X : Stand p l e R s m args below meth c T locs cells slots) {Q : Option Value → Heap → List Loc → Prop} {kc kn : Nat} (hr : ret = none) (hd : decode bytes pc = .ok (.return_, 1)) (hq : Q none T.heap locs) (hc : cells ≤ kc) (hs : slots ≤ kn) : Go p e below (OEnds s Q kc kn) (T.setTop (mkF m pc Ls [])) := by
  obtain ⟨fs, hl, hrun, hended, hW, hsame⟩ := X.leave (v := none) (fun _ => rfl) B.2.2.2.2.2.2.1
  exact ⟨_, _, X.returnOut B.1 (by rw [B.2.2.2.2.2.1, hr]) (hb B.2.1 hd) hl, hrun, hended, _, _, rfl, hq, ⟨_, rfl⟩, hW, hsame.mono hc hs⟩
theorem c_virtual (B : Ctx p s m meth c Z own nm bytes maxL ret) (X : Stand p l e R s m args below meth c T locs cells slots) {y : MethodName} {bs : ByteArray} {mx : Nat} {rt : Option FieldType} {rm : Room} {i W : Nat} {argsL under : List Value} {Q : Option Value → Heap → List Loc → Prop} {st : List Value} {C : String} {b : Addr} (eT : T.heap = h) (w1 : (Jvm.Cond.methodLink own i y).before a0 Z = true) (w2 : (Jvm.Cond.declares y).before a0 Z = true) (w3 : (Jvm.Cond.selects C y y).before a0 Z = true) (w4 : (Jvm.Cond.instanceMethod y).before a0 Z = true) (wc : (Jvm.Cond.code y bs mx rt).before a0 Z = true) (wz : (Jvm.Cond.initialized y.cls).before a0 Z = true) (hy : y.cls ≠ "java/lang/invoke/MethodHandle" ∧ y.cls ≠ "java/lang/invoke/VarHandle") (hM : OMeets l Z y bs mx rt [] rm (.ref b :: argsL).toArray h Q) (E : Exa Z h b C) (hlen : ∀ sig, parseMethodDescriptor y.desc = some sig → argsL.length = sig.parameters.length) (hst : st = argsL.reverse ++ .ref b :: under) (hW : (under.map fun v => v.category).sum = W) (hf : rm.frames + 1 ≤ R.frames) (hlo : W + (mx + 11) + rm.locals ≤ R.locals) (hce : cells + rm.cells ≤ R.cells) (hsl : slots + rm.slots ≤ R.slots) (hsz : Ls.size = maxL) (hd : decode bytes pc = .ok (.invokevirtual i, 3)) (hp : pc + 3 = pc') (k : ∀ v T' L, Stand p l e R s m args below meth c T' (locs ++ L) (cells + rm.cells) (slots + rm.slots) → Q v T'.heap L → Go p e below P (T'.setTop (mkF m pc' Ls (v.toList ++ under)))) : Go p e below P (T.setTop (mkF m pc Ls st)) := by
  subst hp hst
  obtain ⟨cq, kq, qa, qb, qc⟩ := isOf B.2.2.2.2.2.2.2 eT E
  obtain ⟨v, _, ⟨T', L', k', n'⟩, -, X', ⟨Lc, hQ, l', y', z'⟩, st'⟩ := X.virtualBack B.1 (y := y) B.2.2.2.1 (mvT B.2.2.2.2.2.2.2 w1) (mvT B.2.2.2.2.2.2.2 w2) (notFace_of_selects (args := #[]) (mvT B.2.2.2.2.2.2.2 w3)) (mvT B.2.2.2.2.2.2.2 w3) (mvT B.2.2.2.2.2.2.2 w4) hy (z := y) (backOf (W := W) hM B.2.2.2.2.2.2.2 wc wz hf hlo) qa qc (g := mkF m pc Ls (argsL.reverse ++ .ref b :: under)) rfl (by rw [B.2.2.1]; exact hsz) (Steps.refl _) (argsL := argsL) (rest := under) hlen rfl (by show 2 * 0 + _ ≤ _; rw [Nat.mul_zero, Nat.zero_add]; exact Nat.le_of_eq hW) (hb B.2.1 hd) (fun _ _ => ⟨rfl, eT, hce, hsl⟩)
  dsimp only [Pt.U, Pt.locs, Pt.cells, Pt.slots] at X' l' y' z' st' hQ
  subst l' y' z'
  exact Go.on (fun t q => st'.trans q) (k v T' Lc X' hQ)
theorem c_static (B : Ctx p s m meth c Z own nm bytes maxL ret) (X : Stand p l e R s m args below meth c T locs cells slots) {y : MethodName} {bs : ByteArray} {mx : Nat} {rt : Option FieldType} {rm : Room} {i W : Nat} {argsL under : List Value} {Q : Option Value → Heap → List Loc → Prop} {st : List Value} (eT : T.heap = h) (w1 : (Jvm.Cond.methodLink own i y).before a0 Z = true) (w2 : (Jvm.Cond.static y).before a0 Z = true) (wc : (Jvm.Cond.code y bs mx rt).before a0 Z = true) (wz : (Jvm.Cond.initialized y.cls).before a0 Z = true) (hy : y.cls ≠ "java/lang/invoke/MethodHandle" ∧ y.cls ≠ "java/lang/invoke/VarHandle") (hM : OMeets l Z y bs mx rt [] rm argsL.toArray h Q) (hlen : ∀ sig, parseMethodDescriptor y.desc = some sig → argsL.length = sig.parameters.length) (hst : st = argsL.reverse ++ under) (hW : (under.map fun v => v.category).sum = W) (hf : rm.frames + 1 ≤ R.frames) (hlo : W + (mx + 11) + rm.locals ≤ R.locals) (hce : cells + rm.cells ≤ R.cells) (hsl : slots + rm.slots ≤ R.slots) (hsz : Ls.size = maxL) (hd : decode bytes pc = .ok (.invokestatic i, 3)) (hp : pc + 3 = pc') (k : ∀ v T' L, Stand p l e R s m args below meth c T' (locs ++ L) (cells + rm.cells) (slots + rm.slots) → Q v T'.heap L → Go p e below P (T'.setTop (mkF m pc' Ls (v.toList ++ under)))) : Go p e below P (T.setTop (mkF m pc Ls st)) := by
  subst hp hst
  obtain ⟨v, _, ⟨T', L', k', n'⟩, -, X', ⟨Lc, hQ, l', y', z'⟩, st'⟩ := Jvm.LawKit.callS X B.1 (y := y) B.2.2.2.1 (mvT B.2.2.2.2.2.2.2 w1) (mvT B.2.2.2.2.2.2.2 w2) (mvT B.2.2.2.2.2.2.2 wz) (mvT B.2.2.2.2.2.2.2 wc) hy (backOf (W := W) hM B.2.2.2.2.2.2.2 wc wz hf hlo) (g := mkF m pc Ls (argsL.reverse ++ under)) rfl (by rw [B.2.2.1]; exact hsz) (argsL := argsL) (rest := under) hlen rfl (by show 2 * 0 + _ ≤ _; rw [Nat.mul_zero, Nat.zero_add]; exact Nat.le_of_eq hW) (hb B.2.1 hd) (fun _ _ => ⟨rfl, eT, hce, hsl⟩)
  dsimp only [Pt.U, Pt.locs, Pt.cells, Pt.slots] at X' l' y' z' st' hQ
  subst l' y' z'
  exact Go.on st' (k v T' Lc X' hQ)
theorem c_init (B : Ctx p s m meth c Z own nm bytes maxL ret) (X : Stand p l e R s m args below meth c T locs cells slots) {y : MethodName} {bs : ByteArray} {mx : Nat} {rm : Room} {i W : Nat} {argsL under : List Value} {Q : Option Value → Heap → List Loc → Prop} {st : List Value} {b : Addr} (eT : T.heap = h) (hy1 : y.name = "<init>") (w1 : (Jvm.Cond.methodLink own i y).before a0 Z = true) (w2 : (Jvm.Cond.instanceMethod y).before a0 Z = true) (wc : (Jvm.Cond.code y bs mx none).before a0 Z = true) (wz : (Jvm.Cond.initialized y.cls).before a0 Z = true) (hy : y.cls ≠ "java/lang/invoke/MethodHandle" ∧ y.cls ≠ "java/lang/invoke/VarHandle") (hM : OMeets l Z y bs mx none [] rm (.ref b :: argsL).toArray h Q) (hlen : ∀ sig, parseMethodDescriptor y.desc = some sig → argsL.length = sig.parameters.length) (hst : st = argsL.reverse ++ .ref b :: under) (hW : (under.map fun v => v.category).sum = W) (hf : rm.frames + 1 ≤ R.frames) (hlo : W + (mx + 11) + rm.locals ≤ R.locals) (hce : cells + rm.cells ≤ R.cells) (hsl : slots + rm.slots ≤ R.slots) (hsz : Ls.size = maxL) (hd : decode bytes pc = .ok (.invokespecial i, 3)) (hp : pc + 3 = pc') (k : ∀ v T' L, Stand p l e R s m args below meth c T' (locs ++ L) (cells + rm.cells) (slots + rm.slots) → Q v T'.heap L → Go p e below P (T'.setTop (mkF m pc' Ls (v.toList ++ under)))) : Go p e below P (T.setTop (mkF m pc Ls st)) := by
  subst hp hst
  obtain ⟨v, _, ⟨T', L', k', n'⟩, -, X', ⟨Lc, hQ, l', y', z'⟩, st'⟩ := X.specialBack B.1 (y := y) hy1 B.2.2.2.1 (mvT B.2.2.2.2.2.2.2 w1) (mvT B.2.2.2.2.2.2.2 w2) (mvT B.2.2.2.2.2.2.2 wc) hy (backOf (W := W) hM B.2.2.2.2.2.2.2 wc wz hf hlo) (g := mkF m pc Ls (argsL.reverse ++ .ref b :: under)) rfl (by rw [B.2.2.1]; exact hsz) (Steps.refl _) (a := b) (argsL := argsL) (rest := under) hlen rfl (by show 2 * 0 + _ ≤ _; rw [Nat.mul_zero, Nat.zero_add]; exact Nat.le_of_eq hW) (hb B.2.1 hd) (fun _ _ => ⟨rfl, eT, hce, hsl⟩)
  dsimp only [Pt.U, Pt.locs, Pt.cells, Pt.slots] at X' l' y' z' st' hQ
  subst l' y' z'
  exact Go.on (fun t q => st'.trans q) (k v T' Lc X' hQ)
theorem p_virtual (B : Ctx p s m meth c Z own nm bytes maxL ret) (X : Stand p l e R s m args below meth c T locs cells slots) {y : MethodName} {bs : ByteArray} {mx : Nat} {rt : Option FieldType} {rm : Room} {i W : Nat} {argsL under : List Value} {st : List Value} {C : String} {b : Addr} {r : Option Value} (eT : T.heap = h) (w1 : (Jvm.Cond.methodLink own i y).before a0 Z = true) (w2 : (Jvm.Cond.declares y).before a0 Z = true) (w3 : (Jvm.Cond.selects C y y).before a0 Z = true) (w4 : (Jvm.Cond.instanceMethod y).before a0 Z = true) (wc : (Jvm.Cond.code y bs mx rt).before a0 Z = true) (wz : (Jvm.Cond.initialized y.cls).before a0 Z = true) (hy : y.cls ≠ "java/lang/invoke/MethodHandle" ∧ y.cls ≠ "java/lang/invoke/VarHandle") (hM : OMeets l Z y bs mx rt [] rm (.ref b :: argsL).toArray h (PureQ r h)) (E : Exa Z h b C) (hlen : ∀ sig, parseMethodDescriptor y.desc = some sig → argsL.length = sig.parameters.length) (hst : st = argsL.reverse ++ .ref b :: under) (hW : (under.map fun v => v.category).sum = W) (hf : rm.frames + 1 ≤ R.frames) (hlo : W + (mx + 11) + rm.locals ≤ R.locals) (hce : rm.cells = 0) (hsl : rm.slots = 0) (hc0 : cells ≤ R.cells) (hs0 : slots ≤ R.slots) (hsz : Ls.size = maxL) (hd : decode bytes pc = .ok (.invokevirtual i, 3)) (hp : pc + 3 = pc') (k : ∀ T', Stand p l e R s m args below meth c T' locs cells slots → T'.heap = h → Go p e below P (T'.setTop (mkF m pc' Ls (r.toList ++ under)))) : Go p e below P (T.setTop (mkF m pc Ls st)) := by
  refine c_virtual B X eT w1 w2 w3 w4 wc wz hy hM E hlen hst hW hf hlo (by omega) (by omega) hsz hd hp ?_
  intro v T' L X' hQ
  obtain ⟨rfl, rfl, e'⟩ := hQ
  rw [hce, hsl, List.append_nil] at X'
  exact k T' X' e'
theorem p_static (B : Ctx p s m meth c Z own nm bytes maxL ret) (X : Stand p l e R s m args below meth c T locs cells slots) {y : MethodName} {bs : ByteArray} {mx : Nat} {rt : Option FieldType} {rm : Room} {i W : Nat} {argsL under : List Value} {st : List Value}  {r : Option Value} (eT : T.heap = h) (w1 : (Jvm.Cond.methodLink own i y).before a0 Z = true) (w2 : (Jvm.Cond.static y).before a0 Z = true) (wc : (Jvm.Cond.code y bs mx rt).before a0 Z = true) (wz : (Jvm.Cond.initialized y.cls).before a0 Z = true) (hy : y.cls ≠ "java/lang/invoke/MethodHandle" ∧ y.cls ≠ "java/lang/invoke/VarHandle") (hM : OMeets l Z y bs mx rt [] rm argsL.toArray h (PureQ r h))  (hlen : ∀ sig, parseMethodDescriptor y.desc = some sig → argsL.length = sig.parameters.length) (hst : st = argsL.reverse ++ under) (hW : (under.map fun v => v.category).sum = W) (hf : rm.frames + 1 ≤ R.frames) (hlo : W + (mx + 11) + rm.locals ≤ R.locals) (hce : rm.cells = 0) (hsl : rm.slots = 0) (hc0 : cells ≤ R.cells) (hs0 : slots ≤ R.slots) (hsz : Ls.size = maxL) (hd : decode bytes pc = .ok (.invokestatic i, 3)) (hp : pc + 3 = pc') (k : ∀ T', Stand p l e R s m args below meth c T' locs cells slots → T'.heap = h → Go p e below P (T'.setTop (mkF m pc' Ls (r.toList ++ under)))) : Go p e below P (T.setTop (mkF m pc Ls st)) := by
  refine c_static B X eT w1 w2 wc wz hy hM hlen hst hW hf hlo (by omega) (by omega) hsz hd hp ?_
  intro v T' L X' hQ
  obtain ⟨rfl, rfl, e'⟩ := hQ
  rw [hce, hsl, List.append_nil] at X'
  exact k T' X' e'
theorem p_init (B : Ctx p s m meth c Z own nm bytes maxL ret) (X : Stand p l e R s m args below meth c T locs cells slots) {y : MethodName} {bs : ByteArray} {mx : Nat} {rm : Room} {i W : Nat} {argsL under : List Value} {st : List Value} {b : Addr} (eT : T.heap = h) (hy1 : y.name = "<init>") (w1 : (Jvm.Cond.methodLink own i y).before a0 Z = true) (w2 : (Jvm.Cond.instanceMethod y).before a0 Z = true) (wc : (Jvm.Cond.code y bs mx none).before a0 Z = true) (wz : (Jvm.Cond.initialized y.cls).before a0 Z = true) (hy : y.cls ≠ "java/lang/invoke/MethodHandle" ∧ y.cls ≠ "java/lang/invoke/VarHandle") (hM : OMeets l Z y bs mx none [] rm (.ref b :: argsL).toArray h (PureQ none h)) (hlen : ∀ sig, parseMethodDescriptor y.desc = some sig → argsL.length = sig.parameters.length) (hst : st = argsL.reverse ++ .ref b :: under) (hW : (under.map fun v => v.category).sum = W) (hf : rm.frames + 1 ≤ R.frames) (hlo : W + (mx + 11) + rm.locals ≤ R.locals) (hce : rm.cells = 0) (hsl : rm.slots = 0) (hc0 : cells ≤ R.cells) (hs0 : slots ≤ R.slots) (hsz : Ls.size = maxL) (hd : decode bytes pc = .ok (.invokespecial i, 3)) (hp : pc + 3 = pc') (k : ∀ T', Stand p l e R s m args below meth c T' locs cells slots → T'.heap = h → Go p e below P (T'.setTop (mkF m pc' Ls under))) : Go p e below P (T.setTop (mkF m pc Ls st)) := by
  refine c_init B X eT hy1 w1 w2 wc wz hy hM hlen hst hW hf hlo (by omega) (by omega) hsz hd hp ?_
  intro v T' L X' hQ
  obtain ⟨rfl, rfl, e'⟩ := hQ
  rw [hce, hsl, List.append_nil] at X'
  exact k T' X' e'
theorem c_virtualUp (B : Ctx p s m meth c Z own nm bytes maxL ret) (X : Stand p l e R s m args below meth c T locs cells slots) {y z : MethodName} {bs : ByteArray} {mx : Nat} {rt : Option FieldType} {rm : Room} {i W : Nat} {argsL under : List Value} {Q : Option Value → Heap → List Loc → Prop} {st : List Value} {C owner : String} {b : Addr} (eT : T.heap = h) (w1 : (Jvm.Cond.methodLink own i y).before a0 Z = true) (ws : (Jvm.Cond.sameMethod y.cls owner y.name y.desc).before a0 Z = true) (w2 : (Jvm.Cond.declares ⟨owner, y.name, y.desc⟩).before a0 Z = true) (w3 : (Jvm.Cond.selects C y z).before a0 Z = true) (w4 : (Jvm.Cond.instanceMethod z).before a0 Z = true) (wc : (Jvm.Cond.code z bs mx rt).before a0 Z = true) (wz : (Jvm.Cond.initialized z.cls).before a0 Z = true) (hy : owner ≠ "java/lang/invoke/MethodHandle" ∧ owner ≠ "java/lang/invoke/VarHandle") (hM : OMeets l Z z bs mx rt [] rm (.ref b :: argsL).toArray h Q) (E : Exa Z h b C) (hlen : ∀ sig, parseMethodDescriptor y.desc = some sig → argsL.length = sig.parameters.length) (hst : st = argsL.reverse ++ .ref b :: under) (hW : (under.map fun v => v.category).sum = W) (hf : rm.frames + 1 ≤ R.frames) (hlo : W + (mx + 11) + rm.locals ≤ R.locals) (hce : cells + rm.cells ≤ R.cells) (hsl : slots + rm.slots ≤ R.slots) (hsz : Ls.size = maxL) (hd : decode bytes pc = .ok (.invokevirtual i, 3)) (hp : pc + 3 = pc') (k : ∀ v T' L, Stand p l e R s m args below meth c T' (locs ++ L) (cells + rm.cells) (slots + rm.slots) → Q v T'.heap L → Go p e below P (T'.setTop (mkF m pc' Ls (v.toList ++ under)))) : Go p e below P (T.setTop (mkF m pc Ls st)) := by
  subst hp hst
  obtain ⟨cq, kq, qa, qb, qc⟩ := isOf B.2.2.2.2.2.2.2 eT E
  obtain ⟨v, _, ⟨T', L', k', n'⟩, -, X', ⟨Lc, hQ, l', y', z'⟩, st'⟩ := X.virtualBackUp B.1 (x := y) (y := z) B.2.2.2.1 (mvT B.2.2.2.2.2.2.2 w1) (mvT B.2.2.2.2.2.2.2 ws) (mvT B.2.2.2.2.2.2.2 w2) hy (mvT B.2.2.2.2.2.2.2 w3) (mvT B.2.2.2.2.2.2.2 w4) (backOf (W := W) hM B.2.2.2.2.2.2.2 wc wz hf hlo) qa qc (g := mkF m pc Ls (argsL.reverse ++ .ref b :: under)) rfl (by rw [B.2.2.1]; exact hsz) (Steps.refl _) (argsL := argsL) (rest := under) hlen rfl (by show 2 * 0 + _ ≤ _; rw [Nat.mul_zero, Nat.zero_add]; exact Nat.le_of_eq hW) (hb B.2.1 hd) (fun _ _ => ⟨rfl, eT, hce, hsl⟩)
  dsimp only [Pt.U, Pt.locs, Pt.cells, Pt.slots] at X' l' y' z' st' hQ
  subst l' y' z'
  exact Go.on (fun t q => st'.trans q) (k v T' Lc X' hQ)
theorem p_virtualUp (B : Ctx p s m meth c Z own nm bytes maxL ret) (X : Stand p l e R s m args below meth c T locs cells slots) {y z : MethodName} {bs : ByteArray} {mx : Nat} {rt : Option FieldType} {rm : Room} {i W : Nat} {argsL under : List Value} {st : List Value} {C owner : String} {b : Addr} {r : Option Value} (eT : T.heap = h) (w1 : (Jvm.Cond.methodLink own i y).before a0 Z = true) (ws : (Jvm.Cond.sameMethod y.cls owner y.name y.desc).before a0 Z = true) (w2 : (Jvm.Cond.declares ⟨owner, y.name, y.desc⟩).before a0 Z = true) (w3 : (Jvm.Cond.selects C y z).before a0 Z = true) (w4 : (Jvm.Cond.instanceMethod z).before a0 Z = true) (wc : (Jvm.Cond.code z bs mx rt).before a0 Z = true) (wz : (Jvm.Cond.initialized z.cls).before a0 Z = true) (hy : owner ≠ "java/lang/invoke/MethodHandle" ∧ owner ≠ "java/lang/invoke/VarHandle") (hM : OMeets l Z z bs mx rt [] rm (.ref b :: argsL).toArray h (PureQ r h)) (E : Exa Z h b C) (hlen : ∀ sig, parseMethodDescriptor y.desc = some sig → argsL.length = sig.parameters.length) (hst : st = argsL.reverse ++ .ref b :: under) (hW : (under.map fun v => v.category).sum = W) (hf : rm.frames + 1 ≤ R.frames) (hlo : W + (mx + 11) + rm.locals ≤ R.locals) (hce : rm.cells = 0) (hsl : rm.slots = 0) (hc0 : cells ≤ R.cells) (hs0 : slots ≤ R.slots) (hsz : Ls.size = maxL) (hd : decode bytes pc = .ok (.invokevirtual i, 3)) (hp : pc + 3 = pc') (k : ∀ T', Stand p l e R s m args below meth c T' locs cells slots → T'.heap = h → Go p e below P (T'.setTop (mkF m pc' Ls (r.toList ++ under)))) : Go p e below P (T.setTop (mkF m pc Ls st)) := by
  refine c_virtualUp B X eT w1 ws w2 w3 w4 wc wz hy hM E hlen hst hW hf hlo (by omega) (by omega) hsz hd hp ?_
  intro v T' L X' hQ
  obtain ⟨rfl, rfl, e'⟩ := hQ
  rw [hce, hsl, List.append_nil] at X'
  exact k T' X' e'
end Kit
end Jvm.OwnKit

namespace Jvm.OwnKit
open Sem ClassFile Op Lib Jvm.Stand Jvm.Free Jvm.LawKit Jvm.RoadKit
section Heap
variable {p : Program} {l : Launch} {e : Env} {R : Room} {s : State} {m : MethodId} {args : Array Value} {below : List Frame} {meth : Method} {c : Code} {T : State} {locs : List Loc} {cells slots : Nat} {Z : State} {a0 : Array Value} {h h' : Heap} {own nm : String} {bytes : ByteArray} {maxL : Nat} {ret : Option FieldType} {P : Outcome → State → Prop} {pc pc' : Nat} {Ls Ls' : Array Slot} {rest : List Value} {a b : Addr} {k : ClassId} {ty : FieldType} {n i : Nat} {f g : Nat → Value} {v w : Value} {sl : Nat} {ws : List Addr}
/-- an array at a: n places, place i holds f i -/
def Ary (Z : State) (h : Heap) (a : Addr) (k : ClassId) (ty : FieldType) (n : Nat) (f : Nat → Value) : Prop := ∃ c : Cell, Arr Z h a c ty ∧ c.cls = k ∧ c.slots.size = n ∧ n < 2 ^ 31 ∧ ∀ i, i < n → c.slots[i]? = some (f i)
def upd (f : Nat → Value) (j : Nat) (v : Value) : Nat → Value := fun i => if i = j then v else f i
def lst (L : List Value) (d : Value) : Nat → Value := fun i => L.getD i d
theorem Ary.lt (F : Ary Z h a k ty n f) : a < h.size := by obtain ⟨c, A, -⟩ := F; exact A.lt
theorem Ary.ext (E : Ext h h') (F : Ary Z h a k ty n f) : Ary Z h' a k ty n f := by obtain ⟨c, A, r⟩ := F; exact ⟨c, A.ext E, r⟩
theorem Ary.other (W : Wr h h' b sl v) (F : Ary Z h a k ty n f) (q : a ≠ b) : Ary Z h' a k ty n f := by obtain ⟨c, A, r⟩ := F; exact ⟨c, A.other W q, r⟩
theorem Ary.keep (F : Ary Z h a k ty n f) (K : Keep h h' ws) (q : a ∉ ws) : Ary Z h' a k ty n f := by obtain ⟨c, A, r⟩ := F; exact ⟨c, ⟨K.2.1 a c A.1 q, A.2⟩, r⟩
theorem Ary.congr (F : Ary Z h a k ty n f) (q : ∀ i, i < n → f i = g i) : Ary Z h a k ty n g := by obtain ⟨c, A, r1, r2, r3, r4⟩ := F; exact ⟨c, A, r1, r2, r3, fun i hi => by rw [r4 i hi, q i hi]⟩
theorem upd_lst {L : List Value} {d v : Value} {j : Nat} (hj : j < L.length) {L' : List Value} (e : L.set j v = L') : upd (lst L d) j v = lst L' d := by
  subst e; funext i
  simp only [upd, lst, List.getD_eq_getElem?_getD, List.getElem?_set]
  by_cases q : i = j
  · subst q; simp [hj]
  · simp [q, Ne.symm q]
theorem Ary.same {j : Nat} (W : Wr h h' a j v) (F : Ary Z h a k ty n f) : Ary Z h' a k ty n (upd f j v) := by
  obtain ⟨c, A, r1, r2, r3, r4⟩ := F
  obtain ⟨cell, w1, w2, w3, -⟩ := id W
  cases w1.symm.trans A.1
  refine ⟨_, A.same W, r1, by rw [sz_set]; exact r2, r3, fun i hi => ?_⟩
  by_cases q : i = j
  · subst q; simp [Cell.setSlot, upd, w3]
  · simp only [Cell.setSlot, upd, if_neg q]; rw [Array.getElem?_setIfInBounds_ne (Ne.symm q)]; exact r4 i hi
theorem Ary.of_new {x : Int32} {N : Nat} (A : Arr Z h a (newA k ty x) ty) (hx : ¬ x < 0) (hN : x.toNatClampNeg = N) : Ary Z h a k ty N (fun _ => defaultValue ty) := by
  subst hN
  refine ⟨_, A, rfl, sz_new _ _ _, (back32 hx).2, fun i hi => ?_⟩
  simp [newA, hi]
theorem Ary.of_rep (F : Ary Z h a k ty n (fun _ => v)) {L : List Value} (q : ∀ i, i < n → L.getD i v = v) : Ary Z h a k ty n (lst L v) := F.congr fun i hi => (q i hi).symm

theorem Ary.sto {C : String} {y : Addr} (F : Ary Z h a k ty n f) (O : Ovr Z k C) (I : Ins Z h y C true) : Sto Z h a (.ref y) := by obtain ⟨c, A, r, -⟩ := F; exact Sto.of A (r ▸ O) I
theorem Ary.full {L : List Value} {j : Nat} {L' : List Value} (F : Ary Z h a k ty n (upd (lst L w) j v)) (hj : j < L.length) (e : L.set j v = L') : Ary Z h a k ty n (lst L' w) := by rw [← upd_lst (d := w) hj e]; exact F
theorem Ary.stoA {C : String} {y : Addr} {t0 : FieldType} (F : Ary Z h a k ty n f) (O : OvrA Z k t0 C) (I : Ins Z h y C true) : Sto Z h a (.ref y) := by obtain ⟨c, A, r, -⟩ := F; exact Sto.ofVA A r O I
theorem old_le {n0 : Nat} (O : Old Z n0 h) : n0 ≤ h.size := O.1 ▸ O.2.1
theorem s_new (B : Ctx p s m meth c Z own nm bytes maxL ret) (X : Stand p l e R s m args below meth c T locs cells slots) {C : String} {i0 n0 : Nat} (eT : T.heap = h) (w : (Jvm.Cond.classLink own i0 C).before a0 Z = true) (wi : (Jvm.Cond.instantiable C n0).before a0 Z = true) (wz : (Jvm.Cond.initialized C).before a0 Z = true) (hc : cells + 1 ≤ R.cells) (hl : slots + n0 ≤ R.slots) (hd : decode bytes pc = .ok (.new i0, 3)) (hp : pc + 3 = pc') (k : ∀ T' h' a, a = h.size → Stand p l e R s m args below meth c T' locs (cells + 1) (slots + n0) → T'.heap = h' → Ext h h' → Exa Z h' a C → (∀ {O nm d : String} {ty : FieldType}, Laid Z a0 C O nm d → parseFieldDescriptor d = some ty → Fld Z h' a O nm d (defaultValue ty)) → Go p e below P (T'.setTop (mkF m pc' Ls (.ref a :: rest)))) : Go p e below P (T.setTop (mkF m pc Ls (rest))) := by
  subst hp
  obtain ⟨T', h', X', e', E, A, D, -, st⟩ := newO X B.1 B.2.2.2.2.2.2.2 B.2.2.2.1 w wi wz eT (g := mkF m pc Ls rest) rfl (hb B.2.1 hd) hc hl
  exact Go.on st (k T' h' _ rfl X' e' E A D)
theorem s_initO (B : Ctx p s m meth c Z own nm bytes maxL ret) (X : Stand p l e R s m args below meth c T locs cells slots) {i0 W : Nat} {a : Addr} (eT : T.heap = h) (w1 : (Jvm.Cond.methodLink own i0 Lib.objectInit).before a0 Z = true) (w2 : (Jvm.Cond.instanceMethod Lib.objectInit).before a0 Z = true) (w3 : (Jvm.Cond.code Lib.objectInit ⟨#[0xb1]⟩ 1 none).before a0 Z = true) (hW : (rest.map fun v => v.category).sum = W) (hf : 1 ≤ R.frames) (hl : W + 12 ≤ R.locals) (hsz : Ls.size = maxL) (hd : decode bytes pc = .ok (.invokespecial i0, 3)) (hp : pc + 3 = pc') (k : ∀ T', Stand p l e R s m args below meth c T' locs cells slots → T'.heap = h → Go p e below P (T'.setTop (mkF m pc' Ls (rest)))) : Go p e below P (T.setTop (mkF m pc Ls (.ref a :: rest))) := by
  subst hp
  obtain ⟨T', X', e', st⟩ := initO X B.1 B.2.2.2.2.2.2.2 B.2.2.2.1 w1 w2 w3 eT (g := mkF m pc Ls (.ref a :: rest)) rfl (by rw [B.2.2.1]; exact hsz) rfl (hb B.2.1 hd) hf (W := W) (by show 2 * 0 + _ ≤ _; rw [Nat.mul_zero, Nat.zero_add]; exact Nat.le_of_eq hW) hl
  exact Go.on st (k T' X' e')
theorem s_putF (B : Ctx p s m meth c Z own nm bytes maxL ret) (X : Stand p l e R s m args below meth c T locs cells slots) {i0 kk : Nat} {R0 O n d host C : String} {ty : FieldType} {a : Addr} {v old : Value} (eT : T.heap = h) (w : (Jvm.Cond.fieldLink own i0 R0 n d).before a0 Z = true ∨ (Jvm.Cond.fieldLinkNest own i0 R0 n d host).before a0 Z = true) (via : Via Z R0 O n d) (F : Fld Z h a O n d old) (E : Exa Z h a C) (L : (Jvm.Cond.lays C O n d).before a0 Z = true ∨ ((Jvm.Cond.laysFinal C O n d).before a0 Z = true ∧ own = O ∧ nm = "<init>")) (wi : (Jvm.Cond.instantiable C kk).before a0 Z = true) (hty : parseFieldDescriptor d = some ty) (hn : narrow ty v = v) (hf : fits ty v = true) (hd : decode bytes pc = .ok (.putfield i0, 3)) (hp : pc + 3 = pc') (k : ∀ T' h', Stand p l e R s m args below meth c T' (locs ++ [⟨a, Jvm.RoadKit.slotOf Z O n d⟩]) cells slots → T'.heap = h' → Wr h h' a (Jvm.RoadKit.slotOf Z O n d) v → Go p e below P (T'.setTop (mkF m pc' Ls (rest)))) : Go p e below P (T.setTop (mkF m pc Ls (v :: .ref a :: rest))) := by
  subst hp
  obtain ⟨T', h', X', e', W, st⟩ := putF X B.1 B.2.2.2.2.2.2.2 B.2.2.2.1 w via eT F E (L.imp id fun q => ⟨q.1, q.2.1, by rw [B.2.2.2.2.1]; exact q.2.2⟩) wi hty hn hf (g := mkF m pc Ls (v :: .ref a :: rest)) rfl rfl (hb B.2.1 hd)
  exact Go.on st (k T' h' X' e' W)
theorem s_putFN (B : Ctx p s m meth c Z own nm bytes maxL ret) (X : Stand p l e R s m args below meth c T locs cells slots) {i0 kk : Nat} {R0 O n d C : String} {ty : FieldType} {a : Addr} {v v' old : Value} (eT : T.heap = h) (w : (Jvm.Cond.fieldLink own i0 R0 n d).before a0 Z = true) (via : Via Z R0 O n d) (F : Fld Z h a O n d old) (E : Exa Z h a C) (L : (Jvm.Cond.lays C O n d).before a0 Z = true ∨ ((Jvm.Cond.laysFinal C O n d).before a0 Z = true ∧ own = O ∧ nm = "<init>")) (wi : (Jvm.Cond.instantiable C kk).before a0 Z = true) (hty : parseFieldDescriptor d = some ty) (hn : narrow ty v = v') (hf : fits ty v' = true) (hd : decode bytes pc = .ok (.putfield i0, 3)) (hp : pc + 3 = pc') (k : ∀ T' h', Stand p l e R s m args below meth c T' (locs ++ [⟨a, Jvm.RoadKit.slotOf Z O n d⟩]) cells slots → T'.heap = h' → Wr h h' a (Jvm.RoadKit.slotOf Z O n d) v' → Go p e below P (T'.setTop (mkF m pc' Ls (rest)))) : Go p e below P (T.setTop (mkF m pc Ls (v :: .ref a :: rest))) := by
  subst hp
  obtain ⟨T', h', X', e', W, st⟩ := putFN X B.1 B.2.2.2.2.2.2.2 B.2.2.2.1 w via eT F E (L.imp id fun q => ⟨q.1, q.2.1, by rw [B.2.2.2.2.1]; exact q.2.2⟩) wi hty hn hf (g := mkF m pc Ls (v :: .ref a :: rest)) rfl rfl (hb B.2.1 hd)
  exact Go.on st (k T' h' X' e' W)
theorem s_newP (B : Ctx p s m meth c Z own nm bytes maxL ret) (X : Stand p l e R s m args below meth c T locs cells slots) {aty : ArrayType} {x : Int32} {N : Nat} (eT : T.heap = h) (w : (Jvm.Cond.arrayClass (newarray.typeOf aty)).before a0 Z = true) (hn : ¬ x < 0) (hN : x.toNatClampNeg = N) {cap : Nat} (hcap : N ≤ cap) (hb8 : cap * 8 ≤ 536870912) (hc : cells + 1 ≤ R.cells) (hl : slots + cap ≤ R.slots) (hd : decode bytes pc = .ok (.newarray aty, 2)) (hp : pc + 2 = pc') (k : ∀ T' h' a kA, a = h.size → Stand p l e R s m args below meth c T' locs (cells + 1) (slots + cap) → T'.heap = h' → Ext h h' → Ary Z h' a kA (newarray.typeOf aty) N (fun _ => defaultValue (newarray.typeOf aty)) → Go p e below P (T'.setTop (mkF m pc' Ls (.ref a :: rest)))) : Go p e below P (T.setTop (mkF m pc Ls (.int x :: rest))) := by
  subst hp
  obtain ⟨T', h', cA, X', e', E, A, st⟩ := newP X B.1 B.2.2.2.2.2.2.2 w eT (g := mkF m pc Ls (.int x :: rest)) rfl (hb B.2.1 hd) rfl hn (cap := cap) (hN ▸ hcap) hb8 hc hl
  exact Go.on st (k T' h' _ cA rfl X' e' E (Ary.of_new A hn hN))
theorem s_newPE (B : Ctx p s m meth c Z own nm bytes maxL ret) (X : Stand p l e R s m args below meth c T locs cells slots) {aty : ArrayType} {x : Int32} {N : Nat} {ad : String} (eT : T.heap = h) (had : "[" ++ (newarray.typeOf aty).toString = ad) (w : (Jvm.Cond.arrayClass (newarray.typeOf aty)).before a0 Z = true) (hn : ¬ x < 0) (hN : x.toNatClampNeg = N) {cap : Nat} (hcap : N ≤ cap) (hb8 : cap * 8 ≤ 536870912) (hc : cells + 1 ≤ R.cells) (hl : slots + cap ≤ R.slots) (hd : decode bytes pc = .ok (.newarray aty, 2)) (hp : pc + 2 = pc') (k : ∀ T' h' a kA, a = h.size → Stand p l e R s m args below meth c T' locs (cells + 1) (slots + cap) → T'.heap = h' → Ext h h' → Ary Z h' a kA (newarray.typeOf aty) N (fun _ => defaultValue (newarray.typeOf aty)) → Exa Z h' a ad → Go p e below P (T'.setTop (mkF m pc' Ls (.ref a :: rest)))) : Go p e below P (T.setTop (mkF m pc Ls (.int x :: rest))) := by
  subst hp
  obtain ⟨T', h', cA, X', e', E, A, F, st⟩ := newPE X B.1 B.2.2.2.2.2.2.2 w eT (g := mkF m pc Ls (.int x :: rest)) rfl (hb B.2.1 hd) rfl hn (cap := cap) (hN ▸ hcap) hb8 hc hl had
  exact Go.on st (k T' h' _ cA rfl X' e' E (Ary.of_new A hn hN) F)
theorem s_newR (B : Ctx p s m meth c Z own nm bytes maxL ret) (X : Stand p l e R s m args below meth c T locs cells slots) {i0 : Nat} {C : String} {x : Int32} {N : Nat} (eT : T.heap = h) (w1 : (Jvm.Cond.classLink own i0 C).before a0 Z = true) (w2 : (Jvm.Cond.arrayOver (.object C)).before a0 Z = true) (hn : ¬ x < 0) (hN : x.toNatClampNeg = N) {cap : Nat} (hcap : N ≤ cap) (hb8 : cap * 8 ≤ 536870912) (hc : cells + 1 ≤ R.cells) (hl : slots + cap ≤ R.slots) (hd : decode bytes pc = .ok (.anewarray i0, 3)) (hp : pc + 3 = pc') (k : ∀ T' h' a kA, a = h.size → Stand p l e R s m args below meth c T' locs (cells + 1) (slots + cap) → T'.heap = h' → Ext h h' → Ary Z h' a kA (.object C) N (fun _ => .null) → Ovr Z kA C → Go p e below P (T'.setTop (mkF m pc' Ls (.ref a :: rest)))) : Go p e below P (T.setTop (mkF m pc Ls (.int x :: rest))) := by
  subst hp
  obtain ⟨T', h', cA, X', e', E, A, O, st⟩ := newR X B.1 B.2.2.2.2.2.2.2 B.2.2.2.1 w1 w2 eT (g := mkF m pc Ls (.int x :: rest)) rfl (hb B.2.1 hd) rfl hn (cap := cap) (hN ▸ hcap) hb8 hc hl
  exact Go.on st (k T' h' _ cA rfl X' e' E (Ary.of_new A hn hN) O)
theorem s_newRA (B : Ctx p s m meth c Z own nm bytes maxL ret) (X : Stand p l e R s m args below meth c T locs cells slots) {i0 : Nat} {C : String} {ty : FieldType} {x : Int32} {N : Nat} (eT : T.heap = h) (hC : (FieldType.array ty).toString = C) (w1 : (Jvm.Cond.classLink own i0 C).before a0 Z = true) (w2 : (Jvm.Cond.arrayOver (.array ty)).before a0 Z = true) (hn : ¬ x < 0) (hN : x.toNatClampNeg = N) {cap : Nat} (hcap : N ≤ cap) (hb8 : cap * 8 ≤ 536870912) (hc : cells + 1 ≤ R.cells) (hl : slots + cap ≤ R.slots) (hd : decode bytes pc = .ok (.anewarray i0, 3)) (hp : pc + 3 = pc') (k : ∀ T' h' a kA, a = h.size → Stand p l e R s m args below meth c T' locs (cells + 1) (slots + cap) → T'.heap = h' → Ext h h' → Ary Z h' a kA (.array ty) N (fun _ => .null) → OvrA Z kA ty C → Go p e below P (T'.setTop (mkF m pc' Ls (.ref a :: rest)))) : Go p e below P (T.setTop (mkF m pc Ls (.int x :: rest))) := by
  subst hp
  obtain ⟨T', h', cA, X', e', E, A, -, O, st⟩ := newRA X B.1 B.2.2.2.2.2.2.2 B.2.2.2.1 hC w1 w2 eT (g := mkF m pc Ls (.int x :: rest)) rfl (hb B.2.1 hd) rfl hn (cap := cap) (hN ▸ hcap) hb8 hc hl rfl
  exact Go.on st (k T' h' _ cA rfl X' e' E (Ary.of_new A hn hN) O)
theorem s_stI (B : Ctx p s m meth c Z own nm bytes maxL ret) (X : Stand p l e R s m args below meth c T locs cells slots) {a : Addr} {x : Int32} {j : Int32} {jn N : Nat} {f : Nat → Value} {kA : ClassId} (eT : T.heap = h) (A : Ary Z h a kA .int N f) (hj : ¬ j < 0) (hjn : j.toNatClampNeg = jn) (hlt : jn < N) (hd : decode bytes pc = .ok (.iastore, 1)) (hp : pc + 1 = pc') (k : ∀ T' h', Stand p l e R s m args below meth c T' (locs ++ [⟨a, jn⟩]) cells slots → T'.heap = h' → Wr h h' a jn (.int x) → Ary Z h' a kA .int N (upd f jn (.int x)) → Go p e below P (T'.setTop (mkF m pc' Ls (rest)))) : Go p e below P (T.setTop (mkF m pc Ls (.int x :: .int j :: .ref a :: rest))) := by
  subst hp
  subst hjn
  obtain ⟨cl, A1, q1, q2, q3, q4⟩ := id A
  obtain ⟨T', h', X', e', W, st⟩ := stI X B.1 B.2.2.2.2.2.2.2 eT A1 (j := j) (by rw [q2]; intro z; rcases z with z | z; exact hj z; omega) (g := mkF m pc Ls (.int x :: .int j :: .ref a :: rest)) rfl rfl (hb B.2.1 hd)
  exact Go.on st (k T' h' X' e' W (A.same W))
theorem s_stJ (B : Ctx p s m meth c Z own nm bytes maxL ret) (X : Stand p l e R s m args below meth c T locs cells slots) {a : Addr} {x : Int64} {j : Int32} {jn N : Nat} {f : Nat → Value} {kA : ClassId} (eT : T.heap = h) (A : Ary Z h a kA .long N f) (hj : ¬ j < 0) (hjn : j.toNatClampNeg = jn) (hlt : jn < N) (hd : decode bytes pc = .ok (.lastore, 1)) (hp : pc + 1 = pc') (k : ∀ T' h', Stand p l e R s m args below meth c T' (locs ++ [⟨a, jn⟩]) cells slots → T'.heap = h' → Wr h h' a jn (.long x) → Ary Z h' a kA .long N (upd f jn (.long x)) → Go p e below P (T'.setTop (mkF m pc' Ls (rest)))) : Go p e below P (T.setTop (mkF m pc Ls (.long x :: .int j :: .ref a :: rest))) := by
  subst hp
  subst hjn
  obtain ⟨cl, A1, q1, q2, q3, q4⟩ := id A
  obtain ⟨T', h', X', e', W, st⟩ := stJ X B.1 B.2.2.2.2.2.2.2 eT A1 (j := j) (by rw [q2]; intro z; rcases z with z | z; exact hj z; omega) (g := mkF m pc Ls (.long x :: .int j :: .ref a :: rest)) rfl rfl (hb B.2.1 hd)
  exact Go.on st (k T' h' X' e' W (A.same W))
theorem s_stB (B : Ctx p s m meth c Z own nm bytes maxL ret) (X : Stand p l e R s m args below meth c T locs cells slots) {a : Addr} {x : Int32} {j : Int32} {jn N : Nat} {f : Nat → Value} {kA : ClassId} (eT : T.heap = h) (A : Ary Z h a kA .byte N f) (hj : ¬ j < 0) (hjn : j.toNatClampNeg = jn) (hlt : jn < N) (hd : decode bytes pc = .ok (.bastore, 1)) (hp : pc + 1 = pc') (k : ∀ T' h', Stand p l e R s m args below meth c T' (locs ++ [⟨a, jn⟩]) cells slots → T'.heap = h' → Wr h h' a jn (.int (nar .byte x)) → Ary Z h' a kA .byte N (upd f jn (.int (nar .byte x))) → Go p e below P (T'.setTop (mkF m pc' Ls (rest)))) : Go p e below P (T.setTop (mkF m pc Ls (.int x :: .int j :: .ref a :: rest))) := by
  subst hp
  subst hjn
  obtain ⟨cl, A1, q1, q2, q3, q4⟩ := id A
  obtain ⟨T', h', X', e', W, st⟩ := stB X B.1 B.2.2.2.2.2.2.2 eT A1 (j := j) (by rw [q2]; intro z; rcases z with z | z; exact hj z; omega) (g := mkF m pc Ls (.int x :: .int j :: .ref a :: rest)) rfl rfl (hb B.2.1 hd)
  exact Go.on st (k T' h' X' e' W (A.same W))
theorem s_stZ (B : Ctx p s m meth c Z own nm bytes maxL ret) (X : Stand p l e R s m args below meth c T locs cells slots) {a : Addr} {x : Int32} {j : Int32} {jn N : Nat} {f : Nat → Value} {kA : ClassId} (eT : T.heap = h) (A : Ary Z h a kA .boolean N f) (hj : ¬ j < 0) (hjn : j.toNatClampNeg = jn) (hlt : jn < N) (hd : decode bytes pc = .ok (.bastore, 1)) (hp : pc + 1 = pc') (k : ∀ T' h', Stand p l e R s m args below meth c T' (locs ++ [⟨a, jn⟩]) cells slots → T'.heap = h' → Wr h h' a jn (.int (nar .boolean x)) → Ary Z h' a kA .boolean N (upd f jn (.int (nar .boolean x))) → Go p e below P (T'.setTop (mkF m pc' Ls (rest)))) : Go p e below P (T.setTop (mkF m pc Ls (.int x :: .int j :: .ref a :: rest))) := by
  subst hp
  subst hjn
  obtain ⟨cl, A1, q1, q2, q3, q4⟩ := id A
  obtain ⟨T', h', X', e', W, st⟩ := stZ X B.1 B.2.2.2.2.2.2.2 eT A1 (j := j) (by rw [q2]; intro z; rcases z with z | z; exact hj z; omega) (g := mkF m pc Ls (.int x :: .int j :: .ref a :: rest)) rfl rfl (hb B.2.1 hd)
  exact Go.on st (k T' h' X' e' W (A.same W))
theorem s_stC (B : Ctx p s m meth c Z own nm bytes maxL ret) (X : Stand p l e R s m args below meth c T locs cells slots) {a : Addr} {x : Int32} {j : Int32} {jn N : Nat} {f : Nat → Value} {kA : ClassId} (eT : T.heap = h) (A : Ary Z h a kA .char N f) (hj : ¬ j < 0) (hjn : j.toNatClampNeg = jn) (hlt : jn < N) (hd : decode bytes pc = .ok (.castore, 1)) (hp : pc + 1 = pc') (k : ∀ T' h', Stand p l e R s m args below meth c T' (locs ++ [⟨a, jn⟩]) cells slots → T'.heap = h' → Wr h h' a jn (.int (nar .char x)) → Ary Z h' a kA .char N (upd f jn (.int (nar .char x))) → Go p e below P (T'.setTop (mkF m pc' Ls (rest)))) : Go p e below P (T.setTop (mkF m pc Ls (.int x :: .int j :: .ref a :: rest))) := by
  subst hp
  subst hjn
  obtain ⟨cl, A1, q1, q2, q3, q4⟩ := id A
  obtain ⟨T', h', X', e', W, st⟩ := stC X B.1 B.2.2.2.2.2.2.2 eT A1 (j := j) (by rw [q2]; intro z; rcases z with z | z; exact hj z; omega) (g := mkF m pc Ls (.int x :: .int j :: .ref a :: rest)) rfl rfl (hb B.2.1 hd)
  exact Go.on st (k T' h' X' e' W (A.same W))
theorem s_stR (B : Ctx p s m meth c Z own nm bytes maxL ret) (X : Stand p l e R s m args below meth c T locs cells slots) {a : Addr} {v : Value} {ty : FieldType} {j : Int32} {jn N : Nat} {f : Nat → Value} {kA : ClassId} (eT : T.heap = h) (A : Ary Z h a kA ty N f) (hty : ty.isReference = true) (S : Sto Z h a v) (hj : ¬ j < 0) (hjn : j.toNatClampNeg = jn) (hlt : jn < N) (hd : decode bytes pc = .ok (.aastore, 1)) (hp : pc + 1 = pc') (k : ∀ T' h', Stand p l e R s m args below meth c T' (locs ++ [⟨a, jn⟩]) cells slots → T'.heap = h' → Wr h h' a jn v → Ary Z h' a kA ty N (upd f jn v) → Go p e below P (T'.setTop (mkF m pc' Ls (rest)))) : Go p e below P (T.setTop (mkF m pc Ls (v :: .int j :: .ref a :: rest))) := by
  subst hp
  subst hjn
  obtain ⟨cl, A1, q1, q2, q3, q4⟩ := id A
  obtain ⟨T', h', X', e', W, st⟩ := stR X B.1 B.2.2.2.2.2.2.2 eT A1 (j := j) (by rw [q2]; intro z; rcases z with z | z; exact hj z; omega) hty S (g := mkF m pc Ls (v :: .int j :: .ref a :: rest)) rfl rfl (hb B.2.1 hd)
  exact Go.on st (k T' h' X' e' W (A.same W))
theorem s_ldI (B : Ctx p s m meth c Z own nm bytes maxL ret) (X : Stand p l e R s m args below meth c T locs cells slots) {a : Addr} {v : Value} {j : Int32} {jn N : Nat} {f : Nat → Value} {kA : ClassId} (eT : T.heap = h) (A : Ary Z h a kA .int N f) (hj : ¬ j < 0) (hjn : j.toNatClampNeg = jn) (hlt : jn < N) (hv : f jn = v) (hd : decode bytes pc = .ok (.iaload, 1)) (hp : pc + 1 = pc') (k : Go p e below P (T.setTop (mkF m pc' Ls (v :: rest)))) : Go p e below P (T.setTop (mkF m pc Ls (.int j :: .ref a :: rest))) := by
  subst hp hjn hv
  obtain ⟨cl, A1, q1, q2, q3, q4⟩ := A
  exact Go.on (X.iaload B.1 (j := j) (by rw [eT]; exact A1.1) (State.isArrayOf_alike B.2.2.2.2.2.2.2.alike A1.2.1) A1.2.2 (by rw [q2]; intro z; rcases z with z | z; exact hj z; omega) (q4 _ hlt) (g := mkF m pc Ls (.int j :: .ref a :: rest)) rfl rfl (hb B.2.1 hd)) k
theorem s_ldJ (B : Ctx p s m meth c Z own nm bytes maxL ret) (X : Stand p l e R s m args below meth c T locs cells slots) {a : Addr} {v : Value} {j : Int32} {jn N : Nat} {f : Nat → Value} {kA : ClassId} (eT : T.heap = h) (A : Ary Z h a kA .long N f) (hj : ¬ j < 0) (hjn : j.toNatClampNeg = jn) (hlt : jn < N) (hv : f jn = v) (hd : decode bytes pc = .ok (.laload, 1)) (hp : pc + 1 = pc') (k : Go p e below P (T.setTop (mkF m pc' Ls (v :: rest)))) : Go p e below P (T.setTop (mkF m pc Ls (.int j :: .ref a :: rest))) := by
  subst hp hjn hv
  obtain ⟨cl, A1, q1, q2, q3, q4⟩ := A
  exact Go.on (X.laload B.1 (j := j) (by rw [eT]; exact A1.1) (State.isArrayOf_alike B.2.2.2.2.2.2.2.alike A1.2.1) A1.2.2 (by rw [q2]; intro z; rcases z with z | z; exact hj z; omega) (q4 _ hlt) (g := mkF m pc Ls (.int j :: .ref a :: rest)) rfl rfl (hb B.2.1 hd)) k
theorem s_ldB (B : Ctx p s m meth c Z own nm bytes maxL ret) (X : Stand p l e R s m args below meth c T locs cells slots) {a : Addr} {v : Value} {j : Int32} {jn N : Nat} {f : Nat → Value} {kA : ClassId} (eT : T.heap = h) (A : Ary Z h a kA .byte N f) (hj : ¬ j < 0) (hjn : j.toNatClampNeg = jn) (hlt : jn < N) (hv : f jn = v) (hd : decode bytes pc = .ok (.baload, 1)) (hp : pc + 1 = pc') (k : Go p e below P (T.setTop (mkF m pc' Ls (v :: rest)))) : Go p e below P (T.setTop (mkF m pc Ls (.int j :: .ref a :: rest))) := by
  subst hp hjn hv
  obtain ⟨cl, A1, q1, q2, q3, q4⟩ := A
  exact Go.on (X.baloadBytes B.1 (j := j) (by rw [eT]; exact A1.1) (State.isArrayOf_alike B.2.2.2.2.2.2.2.alike A1.2.1) A1.2.2 (by rw [q2]; intro z; rcases z with z | z; exact hj z; omega) (q4 _ hlt) (g := mkF m pc Ls (.int j :: .ref a :: rest)) rfl rfl (hb B.2.1 hd)) k
theorem s_ldZ (B : Ctx p s m meth c Z own nm bytes maxL ret) (X : Stand p l e R s m args below meth c T locs cells slots) {a : Addr} {v : Value} {j : Int32} {jn N : Nat} {f : Nat → Value} {kA : ClassId} (eT : T.heap = h) (A : Ary Z h a kA .boolean N f) (hj : ¬ j < 0) (hjn : j.toNatClampNeg = jn) (hlt : jn < N) (hv : f jn = v) (hd : decode bytes pc = .ok (.baload, 1)) (hp : pc + 1 = pc') (k : Go p e below P (T.setTop (mkF m pc' Ls (v :: rest)))) : Go p e below P (T.setTop (mkF m pc Ls (.int j :: .ref a :: rest))) := by
  subst hp hjn hv
  obtain ⟨cl, A1, q1, q2, q3, q4⟩ := A
  exact Go.on (X.baloadBooleans B.1 (j := j) (by rw [eT]; exact A1.1) (State.isArrayOf_alike B.2.2.2.2.2.2.2.alike A1.2.1) A1.2.2 (by rw [q2]; intro z; rcases z with z | z; exact hj z; omega) (q4 _ hlt) (g := mkF m pc Ls (.int j :: .ref a :: rest)) rfl rfl (hb B.2.1 hd)) k
theorem s_ldC (B : Ctx p s m meth c Z own nm bytes maxL ret) (X : Stand p l e R s m args below meth c T locs cells slots) {a : Addr} {v : Value} {j : Int32} {jn N : Nat} {f : Nat → Value} {kA : ClassId} (eT : T.heap = h) (A : Ary Z h a kA .char N f) (hj : ¬ j < 0) (hjn : j.toNatClampNeg = jn) (hlt : jn < N) (hv : f jn = v) (hd : decode bytes pc = .ok (.caload, 1)) (hp : pc + 1 = pc') (k : Go p e below P (T.setTop (mkF m pc' Ls (v :: rest)))) : Go p e below P (T.setTop (mkF m pc Ls (.int j :: .ref a :: rest))) := by
  subst hp hjn hv
  obtain ⟨cl, A1, q1, q2, q3, q4⟩ := A
  exact Go.on (X.caload B.1 (j := j) (by rw [eT]; exact A1.1) (State.isArrayOf_alike B.2.2.2.2.2.2.2.alike A1.2.1) A1.2.2 (by rw [q2]; intro z; rcases z with z | z; exact hj z; omega) (q4 _ hlt) (g := mkF m pc Ls (.int j :: .ref a :: rest)) rfl rfl (hb B.2.1 hd)) k
theorem s_ldR (B : Ctx p s m meth c Z own nm bytes maxL ret) (X : Stand p l e R s m args below meth c T locs cells slots) {a : Addr} {v : Value} {ty : FieldType} {j : Int32} {jn N : Nat} {f : Nat → Value} {kA : ClassId} (eT : T.heap = h) (A : Ary Z h a kA ty N f) (hty : ty.isReference = true) (hj : ¬ j < 0) (hjn : j.toNatClampNeg = jn) (hlt : jn < N) (hv : f jn = v) (hd : decode bytes pc = .ok (.aaload, 1)) (hp : pc + 1 = pc') (k : Go p e below P (T.setTop (mkF m pc' Ls (v :: rest)))) : Go p e below P (T.setTop (mkF m pc Ls (.int j :: .ref a :: rest))) := by
  subst hp hjn hv
  obtain ⟨cl, A1, q1, q2, q3, q4⟩ := A
  exact Go.on (X.aaload B.1 (j := j) (by rw [eT]; exact A1.1) (State.isArrayOf_alike B.2.2.2.2.2.2.2.alike A1.2.1) hty A1.2.2 (by rw [q2]; intro z; rcases z with z | z; exact hj z; omega) (q4 _ hlt) (g := mkF m pc Ls (.int j :: .ref a :: rest)) rfl rfl (hb B.2.1 hd)) k
theorem s_len (B : Ctx p s m meth c Z own nm bytes maxL ret) (X : Stand p l e R s m args below meth c T locs cells slots) {a : Addr} {v : Int32} {ty : FieldType} {N : Nat} {f : Nat → Value} {kA : ClassId} (eT : T.heap = h) (A : Ary Z h a kA ty N f) (hv : N.toInt32 = v) (hd : decode bytes pc = .ok (.arraylength, 1)) (hp : pc + 1 = pc') (k : Go p e below P (T.setTop (mkF m pc' Ls (.int v :: rest)))) : Go p e below P (T.setTop (mkF m pc Ls (.ref a :: rest))) := by
  subst hp hv
  obtain ⟨cl, A1, q1, q2, q3, q4⟩ := A
  subst q2
  exact Go.on (X.arraylength B.1 (by rw [eT]; exact A1.1) (State.isArrayOf_alike B.2.2.2.2.2.2.2.alike A1.2.1) (g := mkF m pc Ls (.ref a :: rest)) rfl rfl (hb B.2.1 hd)) k
theorem s_castY (B : Ctx p s m meth c Z own nm bytes maxL ret) (X : Stand p l e R s m args below meth c T locs cells slots) {i0 : Nat} {K : String} {a : Addr} (eT : T.heap = h) (w : (Jvm.Cond.classLink own i0 K).before a0 Z = true) (F : Ins Z h a K true) (hd : decode bytes pc = .ok (.checkcast i0, 3)) (hp : pc + 3 = pc') (k : ∀ T', Stand p l e R s m args below meth c T' locs cells slots → T'.heap = h → Go p e below P (T'.setTop (mkF m pc' Ls (.ref a :: rest)))) : Go p e below P (T.setTop (mkF m pc Ls (.ref a :: rest))) := by
  subst hp
  obtain ⟨T', X', e', st⟩ := castY X B.1 B.2.2.2.2.2.2.2 B.2.2.2.1 w eT F (g := mkF m pc Ls (.ref a :: rest)) rfl rfl (hb B.2.1 hd)
  exact Go.on st (k T' X' e')
theorem s_instY (B : Ctx p s m meth c Z own nm bytes maxL ret) (X : Stand p l e R s m args below meth c T locs cells slots) {i0 : Nat} {K : String} {a : Addr} (eT : T.heap = h) (w : (Jvm.Cond.classLink own i0 K).before a0 Z = true) (F : Ins Z h a K true) (hd : decode bytes pc = .ok (.instanceof i0, 3)) (hp : pc + 3 = pc') (k : ∀ T', Stand p l e R s m args below meth c T' locs cells slots → T'.heap = h → Go p e below P (T'.setTop (mkF m pc' Ls (.int 1 :: rest)))) : Go p e below P (T.setTop (mkF m pc Ls (.ref a :: rest))) := by
  subst hp
  obtain ⟨T', X', e', st⟩ := instY X B.1 B.2.2.2.2.2.2.2 B.2.2.2.1 w eT F (g := mkF m pc Ls (.ref a :: rest)) rfl rfl (hb B.2.1 hd)
  exact Go.on st (k T' X' e')
theorem s_tswIn (B : Ctx p s m meth c Z own nm bytes maxL ret) (X : Stand p l e R s m args below meth c T locs cells slots) {df lo hi : Int} {offs : Array Int} {len : Nat} {o : Int} {x : Int32} (hd : decode bytes pc = .ok (.tableswitch df lo hi offs, len)) (hin : ¬ (x.toInt < lo ∨ x.toInt > hi)) (hoff : offs[(x.toInt - lo).toNat]? = some o) (ho : 0 ≤ (pc : Int) + o) (hp : ((pc : Int) + o).toNat = pc') (k : Go p e below P (T.setTop (mkF m pc' Ls (rest)))) : Go p e below P (T.setTop (mkF m pc Ls (.int x :: rest))) := Go.on (fun t => XS.tswIn (g := mkF m pc Ls (.int x :: rest)) X.here B.1 rfl (pc0 := pc) rfl (hb B.2.1 hd) (i := x) (rest := rest) rfl hin hoff ho hp) k
theorem s_tswOut (B : Ctx p s m meth c Z own nm bytes maxL ret) (X : Stand p l e R s m args below meth c T locs cells slots) {df lo hi : Int} {offs : Array Int} {len : Nat} {x : Int32} (hd : decode bytes pc = .ok (.tableswitch df lo hi offs, len)) (hout : x.toInt < lo ∨ x.toInt > hi) (ho : 0 ≤ (pc : Int) + df) (hp : ((pc : Int) + df).toNat = pc') (k : Go p e below P (T.setTop (mkF m pc' Ls (rest)))) : Go p e below P (T.setTop (mkF m pc Ls (.int x :: rest))) := Go.on (fun t => XS.tswOut (g := mkF m pc Ls (.int x :: rest)) X.here B.1 rfl (pc0 := pc) rfl (hb B.2.1 hd) (i := x) (rest := rest) rfl hout ho hp) k
end Heap
end Jvm.OwnKit

namespace Jvm.OwnKit
open Sem ClassFile Op Lib Jvm.Stand Jvm.Free Jvm.LawKit Jvm.RoadKit
section Start
variable {args : Array Value} {s : State} {t u : Term}
theorem eqI_v {k : Int32} (h : (Jvm.Cond.eq t (.int k)).value args s none s [] = some true) : t.eval args s none [] s = some (.int k) := by
  cases ht : t.eval args s none [] s with
  | none => simp [Cond.value, ht] at h
  | some x => cases x <;> simp [Cond.value, ht, Term.eval] at h ⊢; exact h
theorem eqJ_v {k : Int64} (h : (Jvm.Cond.eq t (.long k)).value args s none s [] = some true) : t.eval args s none [] s = some (.long k) := by
  cases ht : t.eval args s none [] s with
  | none => simp [Cond.value, ht] at h
  | some x => cases x <;> simp [Cond.value, ht, Term.eval] at h ⊢; exact h
theorem eqR_v {a : Addr} (hu : u.eval args s none [] s = some (.ref a)) (h : (Jvm.Cond.eq t u).value args s none s [] = some true) : t.eval args s none [] s = some (.ref a) := by
  cases ht : t.eval args s none [] s with
  | none => simp [Cond.value, ht] at h
  | some x => cases x <;> simp [Cond.value, ht, hu] at h ⊢; exact h
end Start
end Jvm.OwnKit

namespace Jvm.Pilot.@@N@@
open Jvm Jvm.ClassFile Sem Op Lib Jvm.Free Jvm.Stand Jvm.LawKit Jvm.RoadKit Jvm.OwnKit Bundle Jvm.Pilot.@@N@@.Jvm.D
theorem tw0 {Z : State} {a0 : Array Value} (hw : ∀ d ∈ tables_1, d.before a0 Z = true) : (Jvm.Cond.classLink "com/example/stroll/stroll/WeightsWeightPinLaw" (7 : Nat) "com/example/stroll/stroll/ExplicitMetric$Weights").before a0 Z = true := hw _ (List.mem_of_getElem? (i := 0) rfl)
theorem tw1 {Z : State} {a0 : Array Value} (hw : ∀ d ∈ tables_1, d.before a0 Z = true) : (Jvm.Cond.instantiable "com/example/stroll/stroll/ExplicitMetric$Weights" (4 : Nat)).before a0 Z = true := hw _ (List.mem_of_getElem? (i := 1) rfl)
theorem tw2 {Z : State} {a0 : Array Value} (hw : ∀ d ∈ tables_1, d.before a0 Z = true) : (Jvm.Cond.initialized "com/example/stroll/stroll/ExplicitMetric$Weights").before a0 Z = true := hw _ (List.mem_of_getElem? (i := 2) rfl)
theorem tw3 {Z : State} {a0 : Array Value} (hw : ∀ d ∈ tables_1, d.before a0 Z = true) : (Jvm.Cond.methodLink "com/example/stroll/stroll/WeightsWeightPinLaw" (9 : Nat) ({ cls := "com/example/stroll/stroll/ExplicitMetric$Weights", name := "<init>", desc := "(I)V" } : Jvm.MethodName)).before a0 Z = true := hw _ (List.mem_of_getElem? (i := 3) rfl)
theorem tw4 {Z : State} {a0 : Array Value} (hw : ∀ d ∈ tables_1, d.before a0 Z = true) : (Jvm.Cond.instanceMethod ({ cls := "com/example/stroll/stroll/ExplicitMetric$Weights", name := "<init>", desc := "(I)V" } : Jvm.MethodName)).before a0 Z = true := hw _ (List.mem_of_getElem? (i := 4) rfl)
theorem tw5 {Z : State} {a0 : Array Value} (hw : ∀ d ∈ tables_1, d.before a0 Z = true) : (Jvm.Cond.code ({ cls := "com/example/stroll/stroll/ExplicitMetric$Weights", name := "<init>", desc := "(I)V" } : Jvm.MethodName) prog_28_method_1_code (2 : Nat) (Option.none : Option Jvm.ClassFile.FieldType)).before a0 Z = true := hw _ (List.mem_of_getElem? (i := 5) rfl)
theorem tw6 {Z : State} {a0 : Array Value} (hw : ∀ d ∈ tables_1, d.before a0 Z = true) : (Jvm.Cond.methodLink "com/example/stroll/stroll/ExplicitMetric$Weights" (3 : Nat) ({ cls := "java/lang/Object", name := "<init>", desc := "()V" } : Jvm.MethodName)).before a0 Z = true := hw _ (List.mem_of_getElem? (i := 6) rfl)
theorem tw7 {Z : State} {a0 : Array Value} (hw : ∀ d ∈ tables_1, d.before a0 Z = true) : (Jvm.Cond.instanceMethod ({ cls := "java/lang/Object", name := "<init>", desc := "()V" } : Jvm.MethodName)).before a0 Z = true := hw _ (List.mem_of_getElem? (i := 7) rfl)
theorem tw8 {Z : State} {a0 : Array Value} (hw : ∀ d ∈ tables_1, d.before a0 Z = true) : (Jvm.Cond.code ({ cls := "java/lang/Object", name := "<init>", desc := "()V" } : Jvm.MethodName) object_method_1_code (1 : Nat) (Option.none : Option Jvm.ClassFile.FieldType)).before a0 Z = true := hw _ (List.mem_of_getElem? (i := 8) rfl)
theorem tw9 {Z : State} {a0 : Array Value} (hw : ∀ d ∈ tables_1, d.before a0 Z = true) : (Jvm.Cond.fieldLink "com/example/stroll/stroll/ExplicitMetric$Weights" (9 : Nat) "com/example/stroll/stroll/ExplicitMetric$Weights" "size" "I").before a0 Z = true := hw _ (List.mem_of_getElem? (i := 9) rfl)
theorem tw10 {Z : State} {a0 : Array Value} (hw : ∀ d ∈ tables_1, d.before a0 Z = true) : (Jvm.Cond.laysFinal "com/example/stroll/stroll/ExplicitMetric$Weights" "com/example/stroll/stroll/ExplicitMetric$Weights" "size" "I").before a0 Z = true := hw _ (List.mem_of_getElem? (i := 10) rfl)
theorem tw11 {Z : State} {a0 : Array Value} (hw : ∀ d ∈ tables_1, d.before a0 Z = true) : (Jvm.Cond.constantLong "com/example/stroll/stroll/ExplicitMetric$Weights" (13 : Nat) (2 : Int64)).before a0 Z = true := hw _ (List.mem_of_getElem? (i := 11) rfl)
theorem tw12 {Z : State} {a0 : Array Value} (hw : ∀ d ∈ tables_1, d.before a0 Z = true) : (Jvm.Cond.fieldLink "com/example/stroll/stroll/ExplicitMetric$Weights" (15 : Nat) "com/example/stroll/stroll/ExplicitMetric$Weights" "pairs" "J").before a0 Z = true := hw _ (List.mem_of_getElem? (i := 12) rfl)
theorem tw13 {Z : State} {a0 : Array Value} (hw : ∀ d ∈ tables_1, d.before a0 Z = true) : (Jvm.Cond.laysFinal "com/example/stroll/stroll/ExplicitMetric$Weights" "com/example/stroll/stroll/ExplicitMetric$Weights" "pairs" "J").before a0 Z = true := hw _ (List.mem_of_getElem? (i := 13) rfl)
theorem tw14 {Z : State} {a0 : Array Value} (hw : ∀ d ∈ tables_1, d.before a0 Z = true) : (Jvm.Cond.constantLong "com/example/stroll/stroll/ExplicitMetric$Weights" (19 : Nat) (4096 : Int64)).before a0 Z = true := hw _ (List.mem_of_getElem? (i := 14) rfl)
theorem tw15 {Z : State} {a0 : Array Value} (hw : ∀ d ∈ tables_1, d.before a0 Z = true) : (Jvm.Cond.classLink "com/example/stroll/stroll/ExplicitMetric$Weights" (21 : Nat) "[J").before a0 Z = true := hw _ (List.mem_of_getElem? (i := 15) rfl)
theorem tw16 {Z : State} {a0 : Array Value} (hw : ∀ d ∈ tables_1, d.before a0 Z = true) : (Jvm.Cond.arrayOver (Jvm.ClassFile.FieldType.array Jvm.ClassFile.FieldType.long)).before a0 Z = true := hw _ (List.mem_of_getElem? (i := 16) rfl)
theorem tw17 {Z : State} {a0 : Array Value} (hw : ∀ d ∈ tables_1, d.before a0 Z = true) : (Jvm.Cond.fieldLink "com/example/stroll/stroll/ExplicitMetric$Weights" (23 : Nat) "com/example/stroll/stroll/ExplicitMetric$Weights" "blocks" "[[J").before a0 Z = true := hw _ (List.mem_of_getElem? (i := 17) rfl)
theorem tw18 {Z : State} {a0 : Array Value} (hw : ∀ d ∈ tables_1, d.before a0 Z = true) : (Jvm.Cond.laysFinal "com/example/stroll/stroll/ExplicitMetric$Weights" "com/example/stroll/stroll/ExplicitMetric$Weights" "blocks" "[[J").before a0 Z = true := hw _ (List.mem_of_getElem? (i := 18) rfl)
theorem tw19 {Z : State} {a0 : Array Value} (hw : ∀ d ∈ tables_1, d.before a0 Z = true) : (Jvm.Cond.methodLink "com/example/stroll/stroll/WeightsWeightPinLaw" (12 : Nat) ({ cls := "com/example/stroll/stroll/ExplicitMetric$Weights", name := "add", desc := "(J)V" } : Jvm.MethodName)).before a0 Z = true := hw _ (List.mem_of_getElem? (i := 19) rfl)
theorem tw20 {Z : State} {a0 : Array Value} (hw : ∀ d ∈ tables_1, d.before a0 Z = true) : (Jvm.Cond.declares ({ cls := "com/example/stroll/stroll/ExplicitMetric$Weights", name := "add", desc := "(J)V" } : Jvm.MethodName)).before a0 Z = true := hw _ (List.mem_of_getElem? (i := 20) rfl)
theorem tw21 {Z : State} {a0 : Array Value} (hw : ∀ d ∈ tables_1, d.before a0 Z = true) : (Jvm.Cond.instanceMethod ({ cls := "com/example/stroll/stroll/ExplicitMetric$Weights", name := "add", desc := "(J)V" } : Jvm.MethodName)).before a0 Z = true := hw _ (List.mem_of_getElem? (i := 21) rfl)
theorem tw22 {Z : State} {a0 : Array Value} (hw : ∀ d ∈ tables_1, d.before a0 Z = true) : (Jvm.Cond.selects "com/example/stroll/stroll/ExplicitMetric$Weights" ({ cls := "com/example/stroll/stroll/ExplicitMetric$Weights", name := "add", desc := "(J)V" } : Jvm.MethodName) ({ cls := "com/example/stroll/stroll/ExplicitMetric$Weights", name := "add", desc := "(J)V" } : Jvm.MethodName)).before a0 Z = true := hw _ (List.mem_of_getElem? (i := 22) rfl)
theorem tw23 {Z : State} {a0 : Array Value} (hw : ∀ d ∈ tables_1, d.before a0 Z = true) : (Jvm.Cond.code ({ cls := "com/example/stroll/stroll/ExplicitMetric$Weights", name := "add", desc := "(J)V" } : Jvm.MethodName) prog_28_method_5_code (4 : Nat) (Option.none : Option Jvm.ClassFile.FieldType)).before a0 Z = true := hw _ (List.mem_of_getElem? (i := 23) rfl)
theorem tw24 {Z : State} {a0 : Array Value} (hw : ∀ d ∈ tables_1, d.before a0 Z = true) : (Jvm.Cond.fieldLink "com/example/stroll/stroll/ExplicitMetric$Weights" (27 : Nat) "com/example/stroll/stroll/ExplicitMetric$Weights" "given" "I").before a0 Z = true := hw _ (List.mem_of_getElem? (i := 24) rfl)
theorem tw25 {Z : State} {a0 : Array Value} (hw : ∀ d ∈ tables_1, d.before a0 Z = true) : (Jvm.Cond.lays "com/example/stroll/stroll/ExplicitMetric$Weights" "com/example/stroll/stroll/ExplicitMetric$Weights" "given" "I").before a0 Z = true := hw _ (List.mem_of_getElem? (i := 25) rfl)
theorem tw26 {Z : State} {a0 : Array Value} (hw : ∀ d ∈ tables_1, d.before a0 Z = true) : (Jvm.Cond.methodLink "com/example/stroll/stroll/ExplicitMetric$Weights" (30 : Nat) ({ cls := "java/lang/Math", name := "min", desc := "(JJ)J" } : Jvm.MethodName)).before a0 Z = true := hw _ (List.mem_of_getElem? (i := 26) rfl)
theorem tw27 {Z : State} {a0 : Array Value} (hw : ∀ d ∈ tables_1, d.before a0 Z = true) : (Jvm.Cond.static ({ cls := "java/lang/Math", name := "min", desc := "(JJ)J" } : Jvm.MethodName)).before a0 Z = true := hw _ (List.mem_of_getElem? (i := 27) rfl)
theorem tw28 {Z : State} {a0 : Array Value} (hw : ∀ d ∈ tables_1, d.before a0 Z = true) : (Jvm.Cond.initialized "java/lang/Math").before a0 Z = true := hw _ (List.mem_of_getElem? (i := 28) rfl)
theorem tw29 {Z : State} {a0 : Array Value} (hw : ∀ d ∈ tables_1, d.before a0 Z = true) : (Jvm.Cond.code ({ cls := "java/lang/Math", name := "min", desc := "(JJ)J" } : Jvm.MethodName) jdk_29_method_70_code (4 : Nat) (Option.some Jvm.ClassFile.FieldType.long)).before a0 Z = true := hw _ (List.mem_of_getElem? (i := 29) rfl)
theorem tw30 {Z : State} {a0 : Array Value} (hw : ∀ d ∈ tables_1, d.before a0 Z = true) : (Jvm.Cond.arrayClass Jvm.ClassFile.FieldType.long).before a0 Z = true := hw _ (List.mem_of_getElem? (i := 30) rfl)
theorem tw32 {Z : State} {a0 : Array Value} (hw : ∀ d ∈ tables_1, d.before a0 Z = true) : (Jvm.Cond.methodLink "com/example/stroll/stroll/WeightsWeightPinLaw" (16 : Nat) ({ cls := "com/example/stroll/stroll/ExplicitMetric$Weights", name := "weight", desc := "(I)J" } : Jvm.MethodName)).before a0 Z = true := hw _ (List.mem_of_getElem? (i := 32) rfl)
theorem tw33 {Z : State} {a0 : Array Value} (hw : ∀ d ∈ tables_1, d.before a0 Z = true) : (Jvm.Cond.declares ({ cls := "com/example/stroll/stroll/ExplicitMetric$Weights", name := "weight", desc := "(I)J" } : Jvm.MethodName)).before a0 Z = true := hw _ (List.mem_of_getElem? (i := 33) rfl)
theorem tw34 {Z : State} {a0 : Array Value} (hw : ∀ d ∈ tables_1, d.before a0 Z = true) : (Jvm.Cond.instanceMethod ({ cls := "com/example/stroll/stroll/ExplicitMetric$Weights", name := "weight", desc := "(I)J" } : Jvm.MethodName)).before a0 Z = true := hw _ (List.mem_of_getElem? (i := 34) rfl)
theorem tw35 {Z : State} {a0 : Array Value} (hw : ∀ d ∈ tables_1, d.before a0 Z = true) : (Jvm.Cond.selects "com/example/stroll/stroll/ExplicitMetric$Weights" ({ cls := "com/example/stroll/stroll/ExplicitMetric$Weights", name := "weight", desc := "(I)J" } : Jvm.MethodName) ({ cls := "com/example/stroll/stroll/ExplicitMetric$Weights", name := "weight", desc := "(I)J" } : Jvm.MethodName)).before a0 Z = true := hw _ (List.mem_of_getElem? (i := 35) rfl)
theorem tw36 {Z : State} {a0 : Array Value} (hw : ∀ d ∈ tables_1, d.before a0 Z = true) : (Jvm.Cond.code ({ cls := "com/example/stroll/stroll/ExplicitMetric$Weights", name := "weight", desc := "(I)J" } : Jvm.MethodName) prog_28_method_4_code (2 : Nat) (Option.some Jvm.ClassFile.FieldType.long)).before a0 Z = true := hw _ (List.mem_of_getElem? (i := 36) rfl)
abbrev mn0 : MethodName := ⟨"com/example/stroll/stroll/ExplicitMetric$Weights", "<init>", "(I)V"⟩
abbrev mn1 : MethodName := ⟨"java/lang/Math", "min", "(JJ)J"⟩
abbrev mn2 : MethodName := ⟨"com/example/stroll/stroll/ExplicitMetric$Weights", "add", "(J)V"⟩
abbrev mn3 : MethodName := ⟨"com/example/stroll/stroll/ExplicitMetric$Weights", "weight", "(I)J"⟩
theorem pd_3 : parseMethodDescriptor "(I)J" = some ⟨[.int], some .long⟩ := by decide +kernel
theorem pd_2 : parseMethodDescriptor "(J)V" = some ⟨[.long], none⟩ := by decide +kernel
theorem pd_1 : parseMethodDescriptor "(JJ)J" = some ⟨[.long, .long], some .long⟩ := by decide +kernel
theorem pd_0 : parseMethodDescriptor "(I)V" = some ⟨[.int], none⟩ := by decide +kernel
def pairsOf (S : Int32) : Int64 := S.toInt64 * (S - 1).toInt64 / 2
def nbOf (P : Int64) : Int32 := (((P + 4096 - 1).toUInt64 >>> ((12 : Int32) &&& 0x3f).toInt64.toUInt64).toInt64).toInt32
def own_n (P : Int64) : Nat := P.toInt32.toNatClampNeg
theorem own_all {Q : Int32 → Prop} (h : ∀ k : Fin 131, 3 ≤ k.1 → Q (Int32.ofNat k)) {x : Int32} (h0 : 3 ≤ x.toInt) (h1 : x.toInt ≤ 130) : Q x := by
  have e : x = Int32.ofNat x.toInt.toNat := Int32.toInt_inj.mp (by rw [Int32.toInt_ofNat_of_lt (by omega)]; omega)
  rw [e]; exact h ⟨x.toInt.toNat, by omega⟩ (by show 3 ≤ x.toInt.toNat; omega)
theorem own_S (x : Int32) : ∃ S : Int32, 3 + (x &&& 127) = S ∧ 3 ≤ S.toInt ∧ S.toInt ≤ 130 := by
  refine ⟨_, rfl, ?_⟩
  have e := c_mask x 127 7 (by decide) (by decide)
  have e3 := c_iadd 3 (x &&& 127); have r := rng32 (3 + (x &&& 127)); have z : (3 : Int32).toInt = 3 := by decide
  omega
theorem own_nb {S : Int32} (h0 : 3 ≤ S.toInt) (h1 : S.toInt ≤ 130) : nbOf (pairsOf S) = 1 ∨ nbOf (pairsOf S) = 2 ∨ nbOf (pairsOf S) = 3 := own_all (Q := fun S => nbOf (pairsOf S) = 1 ∨ nbOf (pairsOf S) = 2 ∨ nbOf (pairsOf S) = 3) (by decide +kernel) h0 h1
theorem own_P3 {S : Int32} (h0 : 3 ≤ S.toInt) (h1 : S.toInt ≤ 130) : 3 ≤ (pairsOf S).toInt := own_all (Q := fun S => 3 ≤ (pairsOf S).toInt) (by decide +kernel) h0 h1
theorem own_len {P : Int64} (h3 : 3 ≤ P.toInt) (h4 : P < 4096) : ¬ P.toInt32 < 0 ∧ own_n P ≤ 4096 ∧ 3 ≤ own_n P := by
  have z : (4096 : Int64).toInt = 4096 := by decide
  have z0 : (0 : Int32).toInt = 0 := by decide
  simp only [Int64.lt_iff_toInt_lt, z] at h4
  have e := c_l2i P; have r := rng32 P.toInt32
  simp only [own_n, Int32.lt_iff_toInt_lt, Int32.toNatClampNeg, z0]; omega
def OwnF (Z : State) (h : Heap)  : Prop := True

theorem d1_0 : decode prog_28_method_1_code 0 = .ok (.aload_n 0, 1) := by decide +kernel
theorem d1_1 : decode prog_28_method_1_code 1 = .ok (.invokespecial 3, 3) := by decide +kernel
theorem d1_4 : decode prog_28_method_1_code 4 = .ok (.aload_n 0, 1) := by decide +kernel
theorem d1_5 : decode prog_28_method_1_code 5 = .ok (.iload_n 1, 1) := by decide +kernel
theorem d1_6 : decode prog_28_method_1_code 6 = .ok (.putfield 9, 3) := by decide +kernel
theorem d1_9 : decode prog_28_method_1_code 9 = .ok (.aload_n 0, 1) := by decide +kernel
theorem d1_10 : decode prog_28_method_1_code 10 = .ok (.iload_n 1, 1) := by decide +kernel
theorem d1_11 : decode prog_28_method_1_code 11 = .ok (.i2l, 1) := by decide +kernel
theorem d1_12 : decode prog_28_method_1_code 12 = .ok (.iload_n 1, 1) := by decide +kernel
theorem d1_13 : decode prog_28_method_1_code 13 = .ok (.iconst 1, 1) := by decide +kernel
theorem d1_14 : decode prog_28_method_1_code 14 = .ok (.isub, 1) := by decide +kernel
theorem d1_15 : decode prog_28_method_1_code 15 = .ok (.i2l, 1) := by decide +kernel
theorem d1_16 : decode prog_28_method_1_code 16 = .ok (.lmul, 1) := by decide +kernel
theorem d1_17 : decode prog_28_method_1_code 17 = .ok (.ldc2_w 13, 3) := by decide +kernel
theorem d1_20 : decode prog_28_method_1_code 20 = .ok (.ldiv, 1) := by decide +kernel
theorem d1_21 : decode prog_28_method_1_code 21 = .ok (.putfield 15, 3) := by decide +kernel
theorem d1_24 : decode prog_28_method_1_code 24 = .ok (.aload_n 0, 1) := by decide +kernel
theorem d1_25 : decode prog_28_method_1_code 25 = .ok (.aload_n 0, 1) := by decide +kernel
theorem d1_26 : decode prog_28_method_1_code 26 = .ok (.getfield 15, 3) := by decide +kernel
theorem d1_29 : decode prog_28_method_1_code 29 = .ok (.ldc2_w 19, 3) := by decide +kernel
theorem d1_32 : decode prog_28_method_1_code 32 = .ok (.ladd, 1) := by decide +kernel
theorem d1_33 : decode prog_28_method_1_code 33 = .ok (.lconst 1, 1) := by decide +kernel
theorem d1_34 : decode prog_28_method_1_code 34 = .ok (.lsub, 1) := by decide +kernel
theorem d1_35 : decode prog_28_method_1_code 35 = .ok (.bipush 12, 2) := by decide +kernel
theorem d1_37 : decode prog_28_method_1_code 37 = .ok (.lushr, 1) := by decide +kernel
theorem d1_38 : decode prog_28_method_1_code 38 = .ok (.l2i, 1) := by decide +kernel
theorem d1_39 : decode prog_28_method_1_code 39 = .ok (.anewarray 21, 3) := by decide +kernel
theorem d1_42 : decode prog_28_method_1_code 42 = .ok (.putfield 23, 3) := by decide +kernel
theorem d1_45 : decode prog_28_method_1_code 45 = .ok (.return_, 1) := by decide +kernel
theorem pn_mm1_0 : plainFor mn0 = true := plainFor_of_name (show plainName "com/example/stroll/stroll/ExplicitMetric$Weights" = true by first | (simp [plainName, overriddenIn]; done) | decide +kernel)
set_option maxRecDepth 65536 in
set_option maxHeartbeats 40000000 in
theorem mm1_0 (l : Launch) (Z : State) (a0 : Array Value) (hw : ∀ d ∈ tables_1, d.before a0 Z = true) (b0 : Addr) (q1 : Int32) (h0 : Heap) (FZ : OwnF Z Z.heap ) (O0 : Old Z Z.heap.size h0) (ge_b0 : Z.heap.size ≤ b0) (E_b0 : Exa Z h0 b0 "com/example/stroll/stroll/ExplicitMetric$Weights") (D_b0_blocks : Fld Z h0 b0 "com/example/stroll/stroll/ExplicitMetric$Weights" "blocks" "[[J" .null) (D_b0_given : Fld Z h0 b0 "com/example/stroll/stroll/ExplicitMetric$Weights" "given" "I" (.int (0 : Int32))) (D_b0_pairs : Fld Z h0 b0 "com/example/stroll/stroll/ExplicitMetric$Weights" "pairs" "J" (.long (0 : Int64))) (D_b0_size : Fld Z h0 b0 "com/example/stroll/stroll/ExplicitMetric$Weights" "size" "I" (.int (0 : Int32))) (hnb : nbOf (pairsOf q1) = 1) :
    OMeets l Z mn0 prog_28_method_1_code 2 none [] ({ frames := 1, cells := 1, slots := 1, locals := 12 } : Room) #[(.ref b0), (.int q1)] h0 (fun v h L => ∃ o7 : Addr, ∃ kq_o7 : ClassId, v = none ∧ Fr Z.heap.size L ∧ Keep h0 h [b0] ∧ h0.size ≤ o7 ∧ Ary Z h o7 kq_o7 (.array .long) 1 (fun _ => .null) ∧ OvrA Z kq_o7 .long "[J" ∧ Fld Z h b0 "com/example/stroll/stroll/ExplicitMetric$Weights" "blocks" "[[J" (.ref o7) ∧ Fld Z h b0 "com/example/stroll/stroll/ExplicitMetric$Weights" "given" "I" (.int (0 : Int32)) ∧ Fld Z h b0 "com/example/stroll/stroll/ExplicitMetric$Weights" "pairs" "J" (.long (pairsOf q1)) ∧ Fld Z h b0 "com/example/stroll/stroll/ExplicitMetric$Weights" "size" "I" (.int q1)) := by
  refine OMeets.of pn_mm1_0 #[.val (.ref b0), .val (.int q1)] (fun m => by first | rfl | (simp [entryFrame, mkF, argsToLocals, Value.category, maxLocals]; done)) ?_
  intro p e s m below meth c s₁ B X0 e0
  have F0 := trivial
  refine s_aloadN B X0 (pc' := 1) d1_0 rfl rfl rfl ?_
  refine s_initO B X0 (pc' := 4) (W := 0) e0 (tw6 hw) (tw7 hw) (tw8 hw) rfl (by decide) (by decide) rfl d1_1 rfl (fun T1 X1 e1 => ?_)
  refine s_aloadN B X1 (pc' := 5) d1_4 rfl rfl rfl ?_
  refine s_iloadN B X1 (pc' := 6) d1_5 rfl rfl ?_
  refine s_putF B X1 (pc' := 9) (ty := .int) e1 (host := "") (Or.inl (tw9 hw)) Via.refl D_b0_size E_b0 (Or.inr ⟨(tw10 hw), rfl, rfl⟩) (tw1 hw) (by decide) rfl rfl d1_6 rfl (fun T2 h2 X2 e2 W2 => ?_)
  have G2 := D_b0_size.same W2
  have N2 := Fr.snoc X2 (Fr.nil _) ge_b0
  have O2 := (O0).wr W2 ge_b0
  have K2 := ((Keep.refl h0 [b0])).wr W2 (Or.inl (List.mem_of_getElem? (i := 0) rfl))
  show Go p e below _ (T2.setTop (mkF m 9 #[.val (.ref b0), .val (.int q1)] []))
  refine s_aloadN B X2 (pc' := 10) d1_9 rfl rfl rfl ?_
  refine s_iloadN B X2 (pc' := 11) d1_10 rfl rfl ?_
  refine s_i2l B X2 (pc' := 12) (v := q1.toInt64) d1_11 rfl rfl ?_
  refine s_iloadN B X2 (pc' := 13) d1_12 rfl rfl ?_
  refine s_iconst B X2 (pc' := 14) (v := (1 : Int32)) d1_13 rfl rfl ?_
  refine s_isub B X2 (pc' := 15) (v := (q1 - (1 : Int32))) d1_14 rfl rfl ?_
  refine s_i2l B X2 (pc' := 16) (v := (q1 - (1 : Int32)).toInt64) d1_15 rfl rfl ?_
  refine s_lmul B X2 (pc' := 17) (v := (q1.toInt64 * (q1 - (1 : Int32)).toInt64)) d1_16 rfl rfl ?_
  refine s_ldc2 B X2 (pc' := 20) (v := (2 : Int64)) (tw11 hw) d1_17 rfl ?_
  refine s_ldiv B X2 (pc' := 21) (v := (pairsOf q1)) d1_20 (rfl) (by decide) rfl ?_
  have f4 := (D_b0_pairs.other W2 (Or.inr (slot_ne (Or.inr (tw13 hw)) (Or.inr (tw10 hw)) (by decide) (t := .long) (t' := .int) (by decide) (by decide))))
  have f5 := (E_b0.wr W2)
  refine s_putF B X2 (pc' := 24) (ty := .long) e2 (host := "") (Or.inl (tw12 hw)) Via.refl f4 f5 (Or.inr ⟨(tw13 hw), rfl, rfl⟩) (tw1 hw) (by decide) rfl rfl d1_21 rfl (fun T3 h3 X3 e3 W3 => ?_)
  have G3 := f4.same W3
  have N3 := Fr.snoc X3 N2 ge_b0
  have O3 := (O2).wr W3 ge_b0
  have K3 := (K2).wr W3 (Or.inl (List.mem_of_getElem? (i := 0) rfl))
  show Go p e below _ (T3.setTop (mkF m 24 #[.val (.ref b0), .val (.int q1)] []))
  refine s_aloadN B X3 (pc' := 25) d1_24 rfl rfl rfl ?_
  refine s_aloadN B X3 (pc' := 26) d1_25 rfl rfl rfl ?_
  refine s_getF B X3 (pc' := 29) e3 (host := "") (Or.inl (tw12 hw)) Via.refl G3 d1_26 rfl (fun T6 X6 e6 => ?_)
  refine s_ldc2 B X6 (pc' := 32) (v := (4096 : Int64)) (tw14 hw) d1_29 rfl ?_
  refine s_ladd B X6 (pc' := 33) (v := ((pairsOf q1) + (4096 : Int64))) d1_32 rfl rfl ?_
  refine s_lconst B X6 (pc' := 34) (v := (1 : Int64)) d1_33 rfl rfl ?_
  refine s_lsub B X6 (pc' := 35) (v := (((pairsOf q1) + (4096 : Int64)) - (1 : Int64))) d1_34 rfl rfl ?_
  refine s_bipush B X6 (pc' := 37) (v := (12 : Int32)) d1_35 rfl rfl ?_
  refine s_lushr B X6 (pc' := 38) (v := (((((pairsOf q1) + (4096 : Int64)) - (1 : Int64)).toUInt64 >>> ((12 : Int32) &&& 0x3f).toInt64.toUInt64).toInt64)) d1_37 rfl rfl ?_
  refine s_l2i B X6 (pc' := 39) (v := (1 : Int32)) d1_38 (hnb) rfl ?_
  refine s_newRA B X6 (pc' := 42) (N := 1) (cap := 1) (ty := .long) (C := "[J") e6 rfl (tw15 hw) (tw16 hw) (by decide) (by decide) (by decide) (by decide) (by decide) (by decide) d1_39 rfl (fun T7 h7 o7 k7 g7 X7 e7 E7 A7 V7 => ?_)
  have f8 := (f5.wr W3)
  have ne_b0_o7 : b0 ≠ o7 := Nat.ne_of_lt (g7 ▸ f8.lt)
  have ge_o7 : Z.heap.size ≤ o7 := g7 ▸ old_le O3
  have le_o7 : h0.size ≤ o7 := g7 ▸ (K3).1
  have O7 := (O3).ext E7
  have K7 := (K3).ext E7
  show Go p e below _ (T7.setTop (mkF m 42 #[.val (.ref b0), .val (.int q1)] [(.ref o7), (.ref b0)]))
  have f10 := (((D_b0_blocks.other W2 (Or.inr (slot_ne (Or.inr (tw18 hw)) (Or.inr (tw10 hw)) (by decide) (t := (.array (.array .long))) (t' := .int) (by decide) (by decide)))).other W3 (Or.inr (slot_ne (Or.inr (tw18 hw)) (Or.inr (tw13 hw)) (by decide) (t := (.array (.array .long))) (t' := .long) (by decide) (by decide)))).ext E7)
  have f11 := (f8.ext E7)
  refine s_putF B X7 (pc' := 45) (ty := (.array (.array .long))) e7 (host := "") (Or.inl (tw17 hw)) Via.refl f10 f11 (Or.inr ⟨(tw18 hw), rfl, rfl⟩) (tw1 hw) (by decide) rfl rfl d1_42 rfl (fun T9 h9 X9 e9 W9 => ?_)
  have G9 := f10.same W9
  have N9 := Fr.snoc X9 N3 ge_b0
  have O9 := (O7).wr W9 ge_b0
  have K9 := (K7).wr W9 (Or.inl (List.mem_of_getElem? (i := 0) rfl))
  show Go p e below _ (T9.setTop (mkF m 45 #[.val (.ref b0), .val (.int q1)] []))
  have f12 := (Ary.other W9 A7 (Ne.symm ne_b0_o7))
  have f13 := ((((D_b0_given.other W2 (Or.inr (slot_ne (Or.inl (tw25 hw)) (Or.inr (tw10 hw)) (by decide) (t := .int) (t' := .int) (by decide) (by decide)))).other W3 (Or.inr (slot_ne (Or.inl (tw25 hw)) (Or.inr (tw13 hw)) (by decide) (t := .int) (t' := .long) (by decide) (by decide)))).ext E7).other W9 (Or.inr (slot_ne (Or.inl (tw25 hw)) (Or.inr (tw18 hw)) (by decide) (t := .int) (t' := (.array (.array .long))) (by decide) (by decide))))
  have f14 := ((G3.ext E7).other W9 (Or.inr (slot_ne (Or.inr (tw13 hw)) (Or.inr (tw18 hw)) (by decide) (t := .long) (t' := (.array (.array .long))) (by decide) (by decide))))
  have f15 := (((G2.other W3 (Or.inr (slot_ne (Or.inr (tw10 hw)) (Or.inr (tw13 hw)) (by decide) (t := .int) (t' := .long) (by decide) (by decide)))).ext E7).other W9 (Or.inr (slot_ne (Or.inr (tw10 hw)) (Or.inr (tw18 hw)) (by decide) (t := .int) (t' := (.array (.array .long))) (by decide) (by decide))))
  exact r_void B X9 rfl d1_45 (by rw [e9]; exact ⟨o7, k7, rfl, N9, K9, le_o7, f12, V7, G9, f13, f14, f15⟩) (by decide) (by decide)
theorem d4_0 : decode jdk_29_method_70_code 0 = .ok (.lload_n 0, 1) := by decide +kernel
theorem d4_1 : decode jdk_29_method_70_code 1 = .ok (.lload_n 2, 1) := by decide +kernel
theorem d4_2 : decode jdk_29_method_70_code 2 = .ok (.lcmp, 1) := by decide +kernel
theorem d4_3 : decode jdk_29_method_70_code 3 = .ok (.ifCond .gt 7, 3) := by decide +kernel
theorem d4_10 : decode jdk_29_method_70_code 10 = .ok (.lload_n 2, 1) := by decide +kernel
theorem d4_11 : decode jdk_29_method_70_code 11 = .ok (.lreturn, 1) := by decide +kernel
theorem pn_rm4_0 : plainFor mn1 = true := by decide +kernel
set_option maxRecDepth 65536 in
set_option maxHeartbeats 40000000 in
theorem rm4_0 (l : Launch) (Z : State) (a0 : Array Value) (hw : ∀ d ∈ tables_1, d.before a0 Z = true) (q1 : Int64) (h0 : Heap) (F0 : OwnF Z h0 ) (hk0 : q1 < (4096 : Int64)) :
    OMeets l Z mn1 jdk_29_method_70_code 4 (some .long) [] ({ frames := 0, cells := 0, slots := 0, locals := 0 } : Room) #[(.long (4096 : Int64)), (.long q1)] h0 (PureQ (some (.long q1)) h0) := by
  refine OMeets.of pn_rm4_0 #[.val (.long (4096 : Int64)), .second, .val (.long q1), .second] (fun m => by first | rfl | (simp [entryFrame, mkF, argsToLocals, Value.category, maxLocals]; done)) ?_
  intro p e s m below meth c s₁ B X0 e0
  refine s_lloadN B X0 (pc' := 1) d4_0 rfl rfl ?_
  refine s_lloadN B X0 (pc' := 2) d4_1 rfl rfl ?_
  refine b_lcmp_gt B X0 (py := 10) (pn := 6) d4_2 rfl d4_3 (by decide) (by decide) rfl (fun _ => ?_) (fun q => absurd hk0 q)
  refine s_lloadN B X0 (pc' := 11) d4_10 rfl rfl ?_
  exact r_long B X0 rfl d4_11 ⟨rfl, rfl, e0⟩ (by decide) (by decide)
theorem d3_0 : decode prog_28_method_5_code 0 = .ok (.aload_n 0, 1) := by decide +kernel
theorem d3_1 : decode prog_28_method_5_code 1 = .ok (.getfield 27, 3) := by decide +kernel
theorem d3_4 : decode prog_28_method_5_code 4 = .ok (.bipush 12, 2) := by decide +kernel
theorem d3_6 : decode prog_28_method_5_code 6 = .ok (.iushr, 1) := by decide +kernel
theorem d3_7 : decode prog_28_method_5_code 7 = .ok (.istore_n 3, 1) := by decide +kernel
theorem d3_8 : decode prog_28_method_5_code 8 = .ok (.aload_n 0, 1) := by decide +kernel
theorem d3_9 : decode prog_28_method_5_code 9 = .ok (.getfield 23, 3) := by decide +kernel
theorem d3_12 : decode prog_28_method_5_code 12 = .ok (.iload_n 3, 1) := by decide +kernel
theorem d3_13 : decode prog_28_method_5_code 13 = .ok (.aaload, 1) := by decide +kernel
theorem d3_14 : decode prog_28_method_5_code 14 = .ok (.ifnonnull 28, 3) := by decide +kernel
theorem d3_17 : decode prog_28_method_5_code 17 = .ok (.aload_n 0, 1) := by decide +kernel
theorem d3_18 : decode prog_28_method_5_code 18 = .ok (.getfield 23, 3) := by decide +kernel
theorem d3_21 : decode prog_28_method_5_code 21 = .ok (.iload_n 3, 1) := by decide +kernel
theorem d3_22 : decode prog_28_method_5_code 22 = .ok (.ldc2_w 19, 3) := by decide +kernel
theorem d3_25 : decode prog_28_method_5_code 25 = .ok (.aload_n 0, 1) := by decide +kernel
theorem d3_26 : decode prog_28_method_5_code 26 = .ok (.getfield 15, 3) := by decide +kernel
theorem d3_29 : decode prog_28_method_5_code 29 = .ok (.iload_n 3, 1) := by decide +kernel
theorem d3_30 : decode prog_28_method_5_code 30 = .ok (.i2l, 1) := by decide +kernel
theorem d3_31 : decode prog_28_method_5_code 31 = .ok (.bipush 12, 2) := by decide +kernel
theorem d3_33 : decode prog_28_method_5_code 33 = .ok (.lshl, 1) := by decide +kernel
theorem d3_34 : decode prog_28_method_5_code 34 = .ok (.lsub, 1) := by decide +kernel
theorem d3_35 : decode prog_28_method_5_code 35 = .ok (.invokestatic 30, 3) := by decide +kernel
theorem d3_38 : decode prog_28_method_5_code 38 = .ok (.l2i, 1) := by decide +kernel
theorem d3_39 : decode prog_28_method_5_code 39 = .ok (.newarray .long, 2) := by decide +kernel
theorem d3_41 : decode prog_28_method_5_code 41 = .ok (.aastore, 1) := by decide +kernel
theorem d3_42 : decode prog_28_method_5_code 42 = .ok (.aload_n 0, 1) := by decide +kernel
theorem d3_43 : decode prog_28_method_5_code 43 = .ok (.getfield 23, 3) := by decide +kernel
theorem d3_46 : decode prog_28_method_5_code 46 = .ok (.iload_n 3, 1) := by decide +kernel
theorem d3_47 : decode prog_28_method_5_code 47 = .ok (.aaload, 1) := by decide +kernel
theorem d3_48 : decode prog_28_method_5_code 48 = .ok (.aload_n 0, 1) := by decide +kernel
theorem d3_49 : decode prog_28_method_5_code 49 = .ok (.getfield 27, 3) := by decide +kernel
theorem d3_52 : decode prog_28_method_5_code 52 = .ok (.sipush 4095, 3) := by decide +kernel
theorem d3_55 : decode prog_28_method_5_code 55 = .ok (.iand, 1) := by decide +kernel
theorem d3_56 : decode prog_28_method_5_code 56 = .ok (.lload_n 1, 1) := by decide +kernel
theorem d3_57 : decode prog_28_method_5_code 57 = .ok (.lastore, 1) := by decide +kernel
theorem d3_58 : decode prog_28_method_5_code 58 = .ok (.aload_n 0, 1) := by decide +kernel
theorem d3_59 : decode prog_28_method_5_code 59 = .ok (.dup, 1) := by decide +kernel
theorem d3_60 : decode prog_28_method_5_code 60 = .ok (.getfield 27, 3) := by decide +kernel
theorem d3_63 : decode prog_28_method_5_code 63 = .ok (.iconst 1, 1) := by decide +kernel
theorem d3_64 : decode prog_28_method_5_code 64 = .ok (.iadd, 1) := by decide +kernel
theorem d3_65 : decode prog_28_method_5_code 65 = .ok (.putfield 27, 3) := by decide +kernel
theorem d3_68 : decode prog_28_method_5_code 68 = .ok (.return_, 1) := by decide +kernel
theorem pn_mm3_1 : plainFor mn2 = true := plainFor_of_name (show plainName "com/example/stroll/stroll/ExplicitMetric$Weights" = true by first | (simp [plainName, overriddenIn]; done) | decide +kernel)
set_option maxRecDepth 65536 in
set_option maxHeartbeats 40000000 in
theorem mm3_1 (l : Launch) (Z : State) (a0 : Array Value) (hw : ∀ d ∈ tables_1, d.before a0 Z = true) (b0 : Addr) (q1 : Int64) (b2 : Addr) (q3 : Int64) (q4 : Int32) (k_b2 : ClassId) (h0 : Heap) (FZ : OwnF Z Z.heap ) (O0 : Old Z Z.heap.size h0) (ge_b0 : Z.heap.size ≤ b0) (E_b0 : Exa Z h0 b0 "com/example/stroll/stroll/ExplicitMetric$Weights") (D_b0_blocks : Fld Z h0 b0 "com/example/stroll/stroll/ExplicitMetric$Weights" "blocks" "[[J" (.ref b2)) (D_b0_given : Fld Z h0 b0 "com/example/stroll/stroll/ExplicitMetric$Weights" "given" "I" (.int (0 : Int32))) (D_b0_pairs : Fld Z h0 b0 "com/example/stroll/stroll/ExplicitMetric$Weights" "pairs" "J" (.long q3)) (D_b0_size : Fld Z h0 b0 "com/example/stroll/stroll/ExplicitMetric$Weights" "size" "I" (.int q4)) (ge_b2 : Z.heap.size ≤ b2) (A_b2 : Ary Z h0 b2 k_b2 (.array .long) 1 (fun _ => .null)) (V_b2 : OvrA Z k_b2 .long "[J") (ne_b0_b2 : b0 ≠ b2) (sd0 : 3 ≤ q3.toInt) (hk1 : q3 < (4096 : Int64)) :
    OMeets l Z mn2 prog_28_method_5_code 4 none [] ({ frames := 1, cells := 1, slots := 4096, locals := 17 } : Room) #[(.ref b0), (.long q1)] h0 (fun v h L => ∃ o6 : Addr, ∃ kq_o6 : ClassId, v = none ∧ Fr Z.heap.size L ∧ Keep h0 h [b0, b2] ∧ h0.size ≤ o6 ∧ Exa Z h o6 "[J" ∧ Ary Z h o6 kq_o6 .long (own_n q3) (upd (fun _ => (.long (0 : Int64))) 0 (.long q1)) ∧ Fld Z h b0 "com/example/stroll/stroll/ExplicitMetric$Weights" "blocks" "[[J" (.ref b2) ∧ Fld Z h b0 "com/example/stroll/stroll/ExplicitMetric$Weights" "given" "I" (.int (1 : Int32)) ∧ Fld Z h b0 "com/example/stroll/stroll/ExplicitMetric$Weights" "pairs" "J" (.long q3) ∧ Fld Z h b0 "com/example/stroll/stroll/ExplicitMetric$Weights" "size" "I" (.int q4) ∧ Ary Z h b2 k_b2 (.array .long) 1 (upd (fun _ => .null) 0 (.ref o6))) := by
  refine OMeets.of pn_mm3_1 #[.val (.ref b0), .val (.long q1), .second, .unset] (fun m => by first | rfl | (simp [entryFrame, mkF, argsToLocals, Value.category, maxLocals]; done)) ?_
  intro p e s m below meth c s₁ B X0 e0
  have F0 := trivial
  refine s_aloadN B X0 (pc' := 1) d3_0 rfl rfl rfl ?_
  refine s_getF B X0 (pc' := 4) e0 (host := "") (Or.inl (tw24 hw)) Via.refl D_b0_given d3_1 rfl (fun T1 X1 e1 => ?_)
  refine s_bipush B X1 (pc' := 6) (v := (12 : Int32)) d3_4 rfl rfl ?_
  refine s_iushr B X1 (pc' := 7) (v := (0 : Int32)) d3_6 (by decide +kernel) rfl ?_
  refine s_istoreN B X1 (pc' := 8) (Ls' := #[.val (.ref b0), .val (.long q1), .second, .val (.int (0 : Int32))]) d3_7 rfl rfl ?_
  refine s_aloadN B X1 (pc' := 9) d3_8 rfl rfl rfl ?_
  refine s_getF B X1 (pc' := 12) e1 (host := "") (Or.inl (tw17 hw)) Via.refl D_b0_blocks d3_9 rfl (fun T2 X2 e2 => ?_)
  refine s_iloadN B X2 (pc' := 13) d3_12 rfl rfl ?_
  refine s_ldR B X2 (pc' := 14) (jn := 0) (v := .null) e2 A_b2 rfl (by decide) (by decide) (by omega) rfl d3_13 rfl ?_
  refine s_ifnonnullN B X2 (pc' := 17) d3_14 rfl ?_
  refine s_aloadN B X2 (pc' := 18) d3_17 rfl rfl rfl ?_
  refine s_getF B X2 (pc' := 21) e2 (host := "") (Or.inl (tw17 hw)) Via.refl D_b0_blocks d3_18 rfl (fun T3 X3 e3 => ?_)
  refine s_iloadN B X3 (pc' := 22) d3_21 rfl rfl ?_
  refine s_ldc2 B X3 (pc' := 25) (v := (4096 : Int64)) (tw14 hw) d3_22 rfl ?_
  refine s_aloadN B X3 (pc' := 26) d3_25 rfl rfl rfl ?_
  refine s_getF B X3 (pc' := 29) e3 (host := "") (Or.inl (tw12 hw)) Via.refl D_b0_pairs d3_26 rfl (fun T4 X4 e4 => ?_)
  refine s_iloadN B X4 (pc' := 30) d3_29 rfl rfl ?_
  refine s_i2l B X4 (pc' := 31) (v := (0 : Int64)) d3_30 rfl rfl ?_
  refine s_bipush B X4 (pc' := 33) (v := (12 : Int32)) d3_31 rfl rfl ?_
  refine s_lshl B X4 (pc' := 34) (v := (0 : Int64)) d3_33 (by decide +kernel) rfl ?_
  refine s_lsub B X4 (pc' := 35) (v := q3) d3_34 (Int64.sub_zero _) rfl ?_
  refine p_static B X4 (y := mn1) (pc' := 38) (argsL := [(.long (4096 : Int64)), (.long q3)]) (under := [(.int (0 : Int32)), (.ref b2)]) (W := 2) e4 (tw26 hw) (tw27 hw) (tw29 hw) (tw28 hw) (by decide) (rm4_0 l Z a0 hw q3  h0 F0 hk1) (lenOf pd_1 rfl) rfl rfl (by decide) (by decide) rfl rfl (by decide) (by decide) rfl d3_35 rfl (fun T5 X5 e5 => ?_)
  show Go p e below _ (T5.setTop (mkF m 38 #[.val (.ref b0), .val (.long q1), .second, .val (.int (0 : Int32))] [(.long q3), (.int (0 : Int32)), (.ref b2)]))
  refine s_l2i B X5 (pc' := 39) (v := q3.toInt32) d3_38 rfl rfl ?_
  have hlq3 := own_len sd0 hk1
  have h3q3 := hlq3.2.2
  refine s_newPE B X5 (pc' := 41) (aty := .long) (N := (own_n q3)) (cap := 4096) (ad := "[J") e5 (by decide) (tw30 hw) hlq3.1 rfl hlq3.2.1 (by decide) (by decide) (by decide) d3_39 rfl (fun T6 h6 o6 k6 g6 X6 e6 E6 A6 Y6 => ?_)
  have ne_b0_o6 : b0 ≠ o6 := Nat.ne_of_lt (g6 ▸ E_b0.lt)
  have ne_b2_o6 : b2 ≠ o6 := Nat.ne_of_lt (g6 ▸ A_b2.lt)
  have ge_o6 : Z.heap.size ≤ o6 := g6 ▸ old_le O0
  have le_o6 : h0.size ≤ o6 := g6 ▸ ((Keep.refl h0 [b0, b2])).1
  replace A6 : Ary Z h6 o6 k6 .long (own_n q3) (fun _ => (.long (0 : Int64))) := A6
  have O6 := (O0).ext E6
  have K6 := ((Keep.refl h0 [b0, b2])).ext E6
  show Go p e below _ (T6.setTop (mkF m 41 #[.val (.ref b0), .val (.long q1), .second, .val (.int (0 : Int32))] [(.ref o6), (.int (0 : Int32)), (.ref b2)]))
  have f8 := (A_b2.ext E6)
  refine s_stR B X6 (pc' := 42) (jn := 0) e6 f8 rfl (Ary.stoA f8 V_b2 (Ins.self Y6)) (by decide) (by decide) (by omega) d3_41 rfl (fun T7 h7 X7 e7 W7 A7 => ?_)
  have N7 := Fr.snoc X7 (Fr.nil _) ge_b2
  have O7 := (O6).wr W7 ge_b2
  have K7 := (K6).wr W7 (Or.inl (List.mem_of_getElem? (i := 1) rfl))
  show Go p e below _ (T7.setTop (mkF m 42 #[.val (.ref b0), .val (.long q1), .second, .val (.int (0 : Int32))] []))
  refine s_aloadN B X7 (pc' := 43) d3_42 rfl rfl rfl ?_
  have f9 := ((D_b0_blocks.ext E6).other W7 (Or.inl ne_b0_b2))
  refine s_getF B X7 (pc' := 46) e7 (host := "") (Or.inl (tw17 hw)) Via.refl f9 d3_43 rfl (fun T10 X10 e10 => ?_)
  refine s_iloadN B X10 (pc' := 47) d3_46 rfl rfl ?_
  refine s_ldR B X10 (pc' := 48) (jn := 0) (v := (.ref o6)) e10 A7 rfl (by decide) (by decide) (by omega) rfl d3_47 rfl ?_
  refine s_aloadN B X10 (pc' := 49) d3_48 rfl rfl rfl ?_
  have f11 := ((D_b0_given.ext E6).other W7 (Or.inl ne_b0_b2))
  refine s_getF B X10 (pc' := 52) e10 (host := "") (Or.inl (tw24 hw)) Via.refl f11 d3_49 rfl (fun T12 X12 e12 => ?_)
  refine s_sipush B X12 (pc' := 55) (v := (4095 : Int32)) d3_52 rfl rfl ?_
  refine s_iand B X12 (pc' := 56) (v := (0 : Int32)) d3_55 rfl rfl ?_
  refine s_lloadN B X12 (pc' := 57) d3_56 rfl rfl ?_
  have f14 := (Ary.other W7 A6 (Ne.symm ne_b2_o6))
  refine s_stJ B X12 (pc' := 58) (jn := 0) e12 f14  (by decide) (by decide) (by omega) d3_57 rfl (fun T13 h13 X13 e13 W13 A13 => ?_)
  have N13 := Fr.snoc X13 N7 ge_o6
  have O13 := (O7).wr W13 ge_o6
  have K13 := (K7).wr W13 (Or.inr le_o6)
  show Go p e below _ (T13.setTop (mkF m 58 #[.val (.ref b0), .val (.long q1), .second, .val (.int (0 : Int32))] []))
  refine s_aloadN B X13 (pc' := 59) d3_58 rfl rfl rfl ?_
  refine s_dup B X13 (pc' := 60) d3_59 rfl rfl ?_
  have f15 := (f11.other W13 (Or.inl ne_b0_o6))
  refine s_getF B X13 (pc' := 63) e13 (host := "") (Or.inl (tw24 hw)) Via.refl f15 d3_60 rfl (fun T16 X16 e16 => ?_)
  refine s_iconst B X16 (pc' := 64) (v := (1 : Int32)) d3_63 rfl rfl ?_
  refine s_iadd B X16 (pc' := 65) (v := (1 : Int32)) d3_64 rfl rfl ?_
  have f18 := (((E_b0.ext E6).wr W7).wr W13)
  refine s_putF B X16 (pc' := 68) (ty := .int) e16 (host := "") (Or.inl (tw24 hw)) Via.refl f15 f18 (Or.inl (tw25 hw)) (tw1 hw) (by decide) rfl rfl d3_65 rfl (fun T17 h17 X17 e17 W17 => ?_)
  have G17 := f15.same W17
  have N17 := Fr.snoc X17 N13 ge_b0
  have O17 := (O13).wr W17 ge_b0
  have K17 := (K13).wr W17 (Or.inl (List.mem_of_getElem? (i := 0) rfl))
  show Go p e below _ (T17.setTop (mkF m 68 #[.val (.ref b0), .val (.long q1), .second, .val (.int (0 : Int32))] []))
  have f19 := (((Y6.wr W7).wr W13).wr W17)
  have f20 := (Ary.other W17 A13 (Ne.symm ne_b0_o6))
  have f21 := ((f9.other W13 (Or.inl ne_b0_o6)).other W17 (Or.inr (slot_ne (Or.inr (tw18 hw)) (Or.inl (tw25 hw)) (by decide) (t := (.array (.array .long))) (t' := .int) (by decide) (by decide))))
  have f22 := ((((D_b0_pairs.ext E6).other W7 (Or.inl ne_b0_b2)).other W13 (Or.inl ne_b0_o6)).other W17 (Or.inr (slot_ne (Or.inr (tw13 hw)) (Or.inl (tw25 hw)) (by decide) (t := .long) (t' := .int) (by decide) (by decide))))
  have f23 := ((((D_b0_size.ext E6).other W7 (Or.inl ne_b0_b2)).other W13 (Or.inl ne_b0_o6)).other W17 (Or.inr (slot_ne (Or.inr (tw10 hw)) (Or.inl (tw25 hw)) (by decide) (t := .int) (t' := .int) (by decide) (by decide))))
  have f24 := (Ary.other W17 (Ary.other W13 A7 ne_b2_o6) (Ne.symm ne_b0_b2))
  exact r_void B X17 rfl d3_68 (by rw [e17]; exact ⟨o6, k6, rfl, N17, K17, le_o6, f19, f20, f21, G17, f22, f23, f24⟩) (by decide) (by decide)
theorem d5_0 : decode prog_28_method_4_code 0 = .ok (.aload_n 0, 1) := by decide +kernel
theorem d5_1 : decode prog_28_method_4_code 1 = .ok (.getfield 23, 3) := by decide +kernel
theorem d5_4 : decode prog_28_method_4_code 4 = .ok (.iload_n 1, 1) := by decide +kernel
theorem d5_5 : decode prog_28_method_4_code 5 = .ok (.bipush 12, 2) := by decide +kernel
theorem d5_7 : decode prog_28_method_4_code 7 = .ok (.iushr, 1) := by decide +kernel
theorem d5_8 : decode prog_28_method_4_code 8 = .ok (.aaload, 1) := by decide +kernel
theorem d5_9 : decode prog_28_method_4_code 9 = .ok (.iload_n 1, 1) := by decide +kernel
theorem d5_10 : decode prog_28_method_4_code 10 = .ok (.sipush 4095, 3) := by decide +kernel
theorem d5_13 : decode prog_28_method_4_code 13 = .ok (.iand, 1) := by decide +kernel
theorem d5_14 : decode prog_28_method_4_code 14 = .ok (.laload, 1) := by decide +kernel
theorem d5_15 : decode prog_28_method_4_code 15 = .ok (.lreturn, 1) := by decide +kernel
theorem pn_mm5_2 : plainFor mn3 = true := plainFor_of_name (show plainName "com/example/stroll/stroll/ExplicitMetric$Weights" = true by first | (simp [plainName, overriddenIn]; done) | decide +kernel)
set_option maxRecDepth 65536 in
set_option maxHeartbeats 40000000 in
theorem mm5_2 (l : Launch) (Z : State) (a0 : Array Value) (hw : ∀ d ∈ tables_1, d.before a0 Z = true) (b0 : Addr) (b1 : Addr) (b2 : Addr) (q3 : Int64) (q4 : Int32) (k_b1 : ClassId) (k_b2 : ClassId) (q5 : Int64) (n0 : Nat) (h0 : Heap) (FZ : OwnF Z Z.heap ) (O0 : Old Z Z.heap.size h0) (ge_b0 : Z.heap.size ≤ b0) (E_b0 : Exa Z h0 b0 "com/example/stroll/stroll/ExplicitMetric$Weights") (D_b0_blocks : Fld Z h0 b0 "com/example/stroll/stroll/ExplicitMetric$Weights" "blocks" "[[J" (.ref b1)) (D_b0_given : Fld Z h0 b0 "com/example/stroll/stroll/ExplicitMetric$Weights" "given" "I" (.int (1 : Int32))) (D_b0_pairs : Fld Z h0 b0 "com/example/stroll/stroll/ExplicitMetric$Weights" "pairs" "J" (.long q3)) (D_b0_size : Fld Z h0 b0 "com/example/stroll/stroll/ExplicitMetric$Weights" "size" "I" (.int q4)) (ge_b1 : Z.heap.size ≤ b1) (A_b1 : Ary Z h0 b1 k_b1 (.array .long) 1 (upd (fun _ => .null) 0 (.ref b2))) (V_b1 : OvrA Z k_b1 .long "[J") (ge_b2 : Z.heap.size ≤ b2) (E_b2 : Exa Z h0 b2 "[J") (A_b2 : Ary Z h0 b2 k_b2 .long n0 (upd (fun _ => (.long (0 : Int64))) 0 (.long q5))) (ne_b0_b1 : b0 ≠ b1) (ne_b0_b2 : b0 ≠ b2) (ne_b1_b2 : b1 ≠ b2) (sd0 : 3 ≤ q3.toInt) (sd1 : 3 ≤ n0) (hk2 : q3 < (4096 : Int64)) :
    OMeets l Z mn3 prog_28_method_4_code 2 (some .long) [] ({ frames := 0, cells := 0, slots := 0, locals := 0 } : Room) #[(.ref b0), (.int (0 : Int32))] h0 (PureQ (some (.long q5)) h0) := by
  refine OMeets.of pn_mm5_2 #[.val (.ref b0), .val (.int (0 : Int32))] (fun m => by first | rfl | (simp [entryFrame, mkF, argsToLocals, Value.category, maxLocals]; done)) ?_
  intro p e s m below meth c s₁ B X0 e0
  have F0 := trivial
  refine s_aloadN B X0 (pc' := 1) d5_0 rfl rfl rfl ?_
  refine s_getF B X0 (pc' := 4) e0 (host := "") (Or.inl (tw17 hw)) Via.refl D_b0_blocks d5_1 rfl (fun T1 X1 e1 => ?_)
  refine s_iloadN B X1 (pc' := 5) d5_4 rfl rfl ?_
  refine s_bipush B X1 (pc' := 7) (v := (12 : Int32)) d5_5 rfl rfl ?_
  refine s_iushr B X1 (pc' := 8) (v := (0 : Int32)) d5_7 (by decide +kernel) rfl ?_
  refine s_ldR B X1 (pc' := 9) (jn := 0) (v := (.ref b2)) e1 A_b1 rfl (by decide) (by decide) (by omega) rfl d5_8 rfl ?_
  refine s_iloadN B X1 (pc' := 10) d5_9 rfl rfl ?_
  refine s_sipush B X1 (pc' := 13) (v := (4095 : Int32)) d5_10 rfl rfl ?_
  refine s_iand B X1 (pc' := 14) (v := (0 : Int32)) d5_13 rfl rfl ?_
  refine s_ldJ B X1 (pc' := 15) (jn := 0) (v := (.long q5)) e1 A_b2 (by decide) (by decide) (by omega) rfl d5_14 rfl ?_
  exact r_long B X1 rfl d5_15 ⟨rfl, rfl, e1⟩ (by decide) (by decide)

theorem pn_mm3_3 : plainFor mn2 = true := plainFor_of_name (show plainName "com/example/stroll/stroll/ExplicitMetric$Weights" = true by first | (simp [plainName, overriddenIn]; done) | decide +kernel)
set_option maxRecDepth 65536 in
set_option maxHeartbeats 40000000 in
theorem mm3_3 (l : Launch) (Z : State) (a0 : Array Value) (hw : ∀ d ∈ tables_1, d.before a0 Z = true) (b0 : Addr) (q1 : Int64) (b2 : Addr) (b3 : Addr) (q4 : Int64) (q5 : Int32) (k_b2 : ClassId) (k_b3 : ClassId) (q6 : Int64) (n0 : Nat) (h0 : Heap) (FZ : OwnF Z Z.heap ) (O0 : Old Z Z.heap.size h0) (ge_b0 : Z.heap.size ≤ b0) (E_b0 : Exa Z h0 b0 "com/example/stroll/stroll/ExplicitMetric$Weights") (D_b0_blocks : Fld Z h0 b0 "com/example/stroll/stroll/ExplicitMetric$Weights" "blocks" "[[J" (.ref b2)) (D_b0_given : Fld Z h0 b0 "com/example/stroll/stroll/ExplicitMetric$Weights" "given" "I" (.int (1 : Int32))) (D_b0_pairs : Fld Z h0 b0 "com/example/stroll/stroll/ExplicitMetric$Weights" "pairs" "J" (.long q4)) (D_b0_size : Fld Z h0 b0 "com/example/stroll/stroll/ExplicitMetric$Weights" "size" "I" (.int q5)) (ge_b2 : Z.heap.size ≤ b2) (A_b2 : Ary Z h0 b2 k_b2 (.array .long) 1 (upd (fun _ => .null) 0 (.ref b3))) (V_b2 : OvrA Z k_b2 .long "[J") (ge_b3 : Z.heap.size ≤ b3) (E_b3 : Exa Z h0 b3 "[J") (A_b3 : Ary Z h0 b3 k_b3 .long n0 (upd (fun _ => (.long (0 : Int64))) 0 (.long q6))) (ne_b0_b2 : b0 ≠ b2) (ne_b0_b3 : b0 ≠ b3) (ne_b2_b3 : b2 ≠ b3) (sd0 : 3 ≤ q4.toInt) (sd1 : 3 ≤ n0) (hk2 : q4 < (4096 : Int64)) :
    OMeets l Z mn2 prog_28_method_5_code 4 none [] ({ frames := 0, cells := 0, slots := 0, locals := 0 } : Room) #[(.ref b0), (.long q1)] h0 (fun v h L => v = none ∧ Fr Z.heap.size L ∧ Keep h0 h [b0, b3] ∧ Fld Z h b0 "com/example/stroll/stroll/ExplicitMetric$Weights" "blocks" "[[J" (.ref b2) ∧ Fld Z h b0 "com/example/stroll/stroll/ExplicitMetric$Weights" "given" "I" (.int (2 : Int32)) ∧ Fld Z h b0 "com/example/stroll/stroll/ExplicitMetric$Weights" "pairs" "J" (.long q4) ∧ Fld Z h b0 "com/example/stroll/stroll/ExplicitMetric$Weights" "size" "I" (.int q5) ∧ Ary Z h b3 k_b3 .long n0 (upd (upd (fun _ => (.long (0 : Int64))) 0 (.long q6)) 1 (.long q1))) := by
  refine OMeets.of pn_mm3_3 #[.val (.ref b0), .val (.long q1), .second, .unset] (fun m => by first | rfl | (simp [entryFrame, mkF, argsToLocals, Value.category, maxLocals]; done)) ?_
  intro p e s m below meth c s₁ B X0 e0
  have F0 := trivial
  refine s_aloadN B X0 (pc' := 1) d3_0 rfl rfl rfl ?_
  refine s_getF B X0 (pc' := 4) e0 (host := "") (Or.inl (tw24 hw)) Via.refl D_b0_given d3_1 rfl (fun T1 X1 e1 => ?_)
  refine s_bipush B X1 (pc' := 6) (v := (12 : Int32)) d3_4 rfl rfl ?_
  refine s_iushr B X1 (pc' := 7) (v := (0 : Int32)) d3_6 (by decide +kernel) rfl ?_
  refine s_istoreN B X1 (pc' := 8) (Ls' := #[.val (.ref b0), .val (.long q1), .second, .val (.int (0 : Int32))]) d3_7 rfl rfl ?_
  refine s_aloadN B X1 (pc' := 9) d3_8 rfl rfl rfl ?_
  refine s_getF B X1 (pc' := 12) e1 (host := "") (Or.inl (tw17 hw)) Via.refl D_b0_blocks d3_9 rfl (fun T2 X2 e2 => ?_)
  refine s_iloadN B X2 (pc' := 13) d3_12 rfl rfl ?_
  refine s_ldR B X2 (pc' := 14) (jn := 0) (v := (.ref b3)) e2 A_b2 rfl (by decide) (by decide) (by omega) rfl d3_13 rfl ?_
  refine s_ifnonnullY B X2 (pc' := 42) d3_14 (by decide) (by decide) ?_
  refine s_aloadN B X2 (pc' := 43) d3_42 rfl rfl rfl ?_
  refine s_getF B X2 (pc' := 46) e2 (host := "") (Or.inl (tw17 hw)) Via.refl D_b0_blocks d3_43 rfl (fun T3 X3 e3 => ?_)
  refine s_iloadN B X3 (pc' := 47) d3_46 rfl rfl ?_
  refine s_ldR B X3 (pc' := 48) (jn := 0) (v := (.ref b3)) e3 A_b2 rfl (by decide) (by decide) (by omega) rfl d3_47 rfl ?_
  refine s_aloadN B X3 (pc' := 49) d3_48 rfl rfl rfl ?_
  refine s_getF B X3 (pc' := 52) e3 (host := "") (Or.inl (tw24 hw)) Via.refl D_b0_given d3_49 rfl (fun T4 X4 e4 => ?_)
  refine s_sipush B X4 (pc' := 55) (v := (4095 : Int32)) d3_52 rfl rfl ?_
  refine s_iand B X4 (pc' := 56) (v := (1 : Int32)) d3_55 rfl rfl ?_
  refine s_lloadN B X4 (pc' := 57) d3_56 rfl rfl ?_
  refine s_stJ B X4 (pc' := 58) (jn := 1) e4 A_b3  (by decide) (by decide) (by omega) d3_57 rfl (fun T5 h5 X5 e5 W5 A5 => ?_)
  have N5 := Fr.snoc X5 (Fr.nil _) ge_b3
  have O5 := (O0).wr W5 ge_b3
  have K5 := ((Keep.refl h0 [b0, b3])).wr W5 (Or.inl (List.mem_of_getElem? (i := 1) rfl))
  show Go p e below _ (T5.setTop (mkF m 58 #[.val (.ref b0), .val (.long q1), .second, .val (.int (0 : Int32))] []))
  refine s_aloadN B X5 (pc' := 59) d3_58 rfl rfl rfl ?_
  refine s_dup B X5 (pc' := 60) d3_59 rfl rfl ?_
  have f6 := (D_b0_given.other W5 (Or.inl ne_b0_b3))
  refine s_getF B X5 (pc' := 63) e5 (host := "") (Or.inl (tw24 hw)) Via.refl f6 d3_60 rfl (fun T7 X7 e7 => ?_)
  refine s_iconst B X7 (pc' := 64) (v := (1 : Int32)) d3_63 rfl rfl ?_
  refine s_iadd B X7 (pc' := 65) (v := (2 : Int32)) d3_64 rfl rfl ?_
  have f9 := (E_b0.wr W5)
  refine s_putF B X7 (pc' := 68) (ty := .int) e7 (host := "") (Or.inl (tw24 hw)) Via.refl f6 f9 (Or.inl (tw25 hw)) (tw1 hw) (by decide) rfl rfl d3_65 rfl (fun T8 h8 X8 e8 W8 => ?_)
  have G8 := f6.same W8
  have N8 := Fr.snoc X8 N5 ge_b0
  have O8 := (O5).wr W8 ge_b0
  have K8 := (K5).wr W8 (Or.inl (List.mem_of_getElem? (i := 0) rfl))
  show Go p e below _ (T8.setTop (mkF m 68 #[.val (.ref b0), .val (.long q1), .second, .val (.int (0 : Int32))] []))
  have f10 := ((D_b0_blocks.other W5 (Or.inl ne_b0_b3)).other W8 (Or.inr (slot_ne (Or.inr (tw18 hw)) (Or.inl (tw25 hw)) (by decide) (t := (.array (.array .long))) (t' := .int) (by decide) (by decide))))
  have f11 := ((D_b0_pairs.other W5 (Or.inl ne_b0_b3)).other W8 (Or.inr (slot_ne (Or.inr (tw13 hw)) (Or.inl (tw25 hw)) (by decide) (t := .long) (t' := .int) (by decide) (by decide))))
  have f12 := ((D_b0_size.other W5 (Or.inl ne_b0_b3)).other W8 (Or.inr (slot_ne (Or.inr (tw10 hw)) (Or.inl (tw25 hw)) (by decide) (t := .int) (t' := .int) (by decide) (by decide))))
  have f13 := (Ary.other W8 A5 (Ne.symm ne_b0_b3))
  exact r_void B X8 rfl d3_68 (by rw [e8]; exact ⟨rfl, N8, K8, f10, G8, f11, f12, f13⟩) (by decide) (by decide)

theorem pn_mm3_4 : plainFor mn2 = true := plainFor_of_name (show plainName "com/example/stroll/stroll/ExplicitMetric$Weights" = true by first | (simp [plainName, overriddenIn]; done) | decide +kernel)
set_option maxRecDepth 65536 in
set_option maxHeartbeats 40000000 in
theorem mm3_4 (l : Launch) (Z : State) (a0 : Array Value) (hw : ∀ d ∈ tables_1, d.before a0 Z = true) (b0 : Addr) (q1 : Int64) (b2 : Addr) (b3 : Addr) (q4 : Int64) (q5 : Int32) (k_b2 : ClassId) (k_b3 : ClassId) (q6 : Int64) (q7 : Int64) (n0 : Nat) (h0 : Heap) (FZ : OwnF Z Z.heap ) (O0 : Old Z Z.heap.size h0) (ge_b0 : Z.heap.size ≤ b0) (E_b0 : Exa Z h0 b0 "com/example/stroll/stroll/ExplicitMetric$Weights") (D_b0_blocks : Fld Z h0 b0 "com/example/stroll/stroll/ExplicitMetric$Weights" "blocks" "[[J" (.ref b2)) (D_b0_given : Fld Z h0 b0 "com/example/stroll/stroll/ExplicitMetric$Weights" "given" "I" (.int (2 : Int32))) (D_b0_pairs : Fld Z h0 b0 "com/example/stroll/stroll/ExplicitMetric$Weights" "pairs" "J" (.long q4)) (D_b0_size : Fld Z h0 b0 "com/example/stroll/stroll/ExplicitMetric$Weights" "size" "I" (.int q5)) (ge_b2 : Z.heap.size ≤ b2) (A_b2 : Ary Z h0 b2 k_b2 (.array .long) 1 (upd (fun _ => .null) 0 (.ref b3))) (V_b2 : OvrA Z k_b2 .long "[J") (ge_b3 : Z.heap.size ≤ b3) (E_b3 : Exa Z h0 b3 "[J") (A_b3 : Ary Z h0 b3 k_b3 .long n0 (upd (upd (fun _ => (.long (0 : Int64))) 0 (.long q6)) 1 (.long q7))) (ne_b0_b2 : b0 ≠ b2) (ne_b0_b3 : b0 ≠ b3) (ne_b2_b3 : b2 ≠ b3) (sd0 : 3 ≤ q4.toInt) (sd1 : 3 ≤ n0) (hk2 : q4 < (4096 : Int64)) :
    OMeets l Z mn2 prog_28_method_5_code 4 none [] ({ frames := 0, cells := 0, slots := 0, locals := 0 } : Room) #[(.ref b0), (.long q1)] h0 (fun v h L => v = none ∧ Fr Z.heap.size L ∧ Keep h0 h [b0, b3] ∧ Fld Z h b0 "com/example/stroll/stroll/ExplicitMetric$Weights" "blocks" "[[J" (.ref b2) ∧ Fld Z h b0 "com/example/stroll/stroll/ExplicitMetric$Weights" "given" "I" (.int (3 : Int32)) ∧ Fld Z h b0 "com/example/stroll/stroll/ExplicitMetric$Weights" "pairs" "J" (.long q4) ∧ Fld Z h b0 "com/example/stroll/stroll/ExplicitMetric$Weights" "size" "I" (.int q5) ∧ Ary Z h b3 k_b3 .long n0 (upd (upd (upd (fun _ => (.long (0 : Int64))) 0 (.long q6)) 1 (.long q7)) 2 (.long q1))) := by
  refine OMeets.of pn_mm3_4 #[.val (.ref b0), .val (.long q1), .second, .unset] (fun m => by first | rfl | (simp [entryFrame, mkF, argsToLocals, Value.category, maxLocals]; done)) ?_
  intro p e s m below meth c s₁ B X0 e0
  have F0 := trivial
  refine s_aloadN B X0 (pc' := 1) d3_0 rfl rfl rfl ?_
  refine s_getF B X0 (pc' := 4) e0 (host := "") (Or.inl (tw24 hw)) Via.refl D_b0_given d3_1 rfl (fun T1 X1 e1 => ?_)
  refine s_bipush B X1 (pc' := 6) (v := (12 : Int32)) d3_4 rfl rfl ?_
  refine s_iushr B X1 (pc' := 7) (v := (0 : Int32)) d3_6 (by decide +kernel) rfl ?_
  refine s_istoreN B X1 (pc' := 8) (Ls' := #[.val (.ref b0), .val (.long q1), .second, .val (.int (0 : Int32))]) d3_7 rfl rfl ?_
  refine s_aloadN B X1 (pc' := 9) d3_8 rfl rfl rfl ?_
  refine s_getF B X1 (pc' := 12) e1 (host := "") (Or.inl (tw17 hw)) Via.refl D_b0_blocks d3_9 rfl (fun T2 X2 e2 => ?_)
  refine s_iloadN B X2 (pc' := 13) d3_12 rfl rfl ?_
  refine s_ldR B X2 (pc' := 14) (jn := 0) (v := (.ref b3)) e2 A_b2 rfl (by decide) (by decide) (by omega) rfl d3_13 rfl ?_
  refine s_ifnonnullY B X2 (pc' := 42) d3_14 (by decide) (by decide) ?_
  refine s_aloadN B X2 (pc' := 43) d3_42 rfl rfl rfl ?_
  refine s_getF B X2 (pc' := 46) e2 (host := "") (Or.inl (tw17 hw)) Via.refl D_b0_blocks d3_43 rfl (fun T3 X3 e3 => ?_)
  refine s_iloadN B X3 (pc' := 47) d3_46 rfl rfl ?_
  refine s_ldR B X3 (pc' := 48) (jn := 0) (v := (.ref b3)) e3 A_b2 rfl (by decide) (by decide) (by omega) rfl d3_47 rfl ?_
  refine s_aloadN B X3 (pc' := 49) d3_48 rfl rfl rfl ?_
  refine s_getF B X3 (pc' := 52) e3 (host := "") (Or.inl (tw24 hw)) Via.refl D_b0_given d3_49 rfl (fun T4 X4 e4 => ?_)
  refine s_sipush B X4 (pc' := 55) (v := (4095 : Int32)) d3_52 rfl rfl ?_
  refine s_iand B X4 (pc' := 56) (v := (2 : Int32)) d3_55 rfl rfl ?_
  refine s_lloadN B X4 (pc' := 57) d3_56 rfl rfl ?_
  refine s_stJ B X4 (pc' := 58) (jn := 2) e4 A_b3  (by decide) (by decide) (by omega) d3_57 rfl (fun T5 h5 X5 e5 W5 A5 => ?_)
  have N5 := Fr.snoc X5 (Fr.nil _) ge_b3
  have O5 := (O0).wr W5 ge_b3
  have K5 := ((Keep.refl h0 [b0, b3])).wr W5 (Or.inl (List.mem_of_getElem? (i := 1) rfl))
  show Go p e below _ (T5.setTop (mkF m 58 #[.val (.ref b0), .val (.long q1), .second, .val (.int (0 : Int32))] []))
  refine s_aloadN B X5 (pc' := 59) d3_58 rfl rfl rfl ?_
  refine s_dup B X5 (pc' := 60) d3_59 rfl rfl ?_
  have f6 := (D_b0_given.other W5 (Or.inl ne_b0_b3))
  refine s_getF B X5 (pc' := 63) e5 (host := "") (Or.inl (tw24 hw)) Via.refl f6 d3_60 rfl (fun T7 X7 e7 => ?_)
  refine s_iconst B X7 (pc' := 64) (v := (1 : Int32)) d3_63 rfl rfl ?_
  refine s_iadd B X7 (pc' := 65) (v := (3 : Int32)) d3_64 rfl rfl ?_
  have f9 := (E_b0.wr W5)
  refine s_putF B X7 (pc' := 68) (ty := .int) e7 (host := "") (Or.inl (tw24 hw)) Via.refl f6 f9 (Or.inl (tw25 hw)) (tw1 hw) (by decide) rfl rfl d3_65 rfl (fun T8 h8 X8 e8 W8 => ?_)
  have G8 := f6.same W8
  have N8 := Fr.snoc X8 N5 ge_b0
  have O8 := (O5).wr W8 ge_b0
  have K8 := (K5).wr W8 (Or.inl (List.mem_of_getElem? (i := 0) rfl))
  show Go p e below _ (T8.setTop (mkF m 68 #[.val (.ref b0), .val (.long q1), .second, .val (.int (0 : Int32))] []))
  have f10 := ((D_b0_blocks.other W5 (Or.inl ne_b0_b3)).other W8 (Or.inr (slot_ne (Or.inr (tw18 hw)) (Or.inl (tw25 hw)) (by decide) (t := (.array (.array .long))) (t' := .int) (by decide) (by decide))))
  have f11 := ((D_b0_pairs.other W5 (Or.inl ne_b0_b3)).other W8 (Or.inr (slot_ne (Or.inr (tw13 hw)) (Or.inl (tw25 hw)) (by decide) (t := .long) (t' := .int) (by decide) (by decide))))
  have f12 := ((D_b0_size.other W5 (Or.inl ne_b0_b3)).other W8 (Or.inr (slot_ne (Or.inr (tw10 hw)) (Or.inl (tw25 hw)) (by decide) (t := .int) (t' := .int) (by decide) (by decide))))
  have f13 := (Ary.other W8 A5 (Ne.symm ne_b0_b3))
  exact r_void B X8 rfl d3_68 (by rw [e8]; exact ⟨rfl, N8, K8, f10, G8, f11, f12, f13⟩) (by decide) (by decide)

theorem pn_mm5_5 : plainFor mn3 = true := plainFor_of_name (show plainName "com/example/stroll/stroll/ExplicitMetric$Weights" = true by first | (simp [plainName, overriddenIn]; done) | decide +kernel)
set_option maxRecDepth 65536 in
set_option maxHeartbeats 40000000 in
theorem mm5_5 (l : Launch) (Z : State) (a0 : Array Value) (hw : ∀ d ∈ tables_1, d.before a0 Z = true) (b0 : Addr) (b1 : Addr) (b2 : Addr) (q3 : Int64) (q4 : Int32) (k_b1 : ClassId) (k_b2 : ClassId) (q5 : Int64) (q6 : Int64) (q7 : Int64) (n0 : Nat) (h0 : Heap) (FZ : OwnF Z Z.heap ) (O0 : Old Z Z.heap.size h0) (ge_b0 : Z.heap.size ≤ b0) (E_b0 : Exa Z h0 b0 "com/example/stroll/stroll/ExplicitMetric$Weights") (D_b0_blocks : Fld Z h0 b0 "com/example/stroll/stroll/ExplicitMetric$Weights" "blocks" "[[J" (.ref b1)) (D_b0_given : Fld Z h0 b0 "com/example/stroll/stroll/ExplicitMetric$Weights" "given" "I" (.int (3 : Int32))) (D_b0_pairs : Fld Z h0 b0 "com/example/stroll/stroll/ExplicitMetric$Weights" "pairs" "J" (.long q3)) (D_b0_size : Fld Z h0 b0 "com/example/stroll/stroll/ExplicitMetric$Weights" "size" "I" (.int q4)) (ge_b1 : Z.heap.size ≤ b1) (A_b1 : Ary Z h0 b1 k_b1 (.array .long) 1 (upd (fun _ => .null) 0 (.ref b2))) (V_b1 : OvrA Z k_b1 .long "[J") (ge_b2 : Z.heap.size ≤ b2) (E_b2 : Exa Z h0 b2 "[J") (A_b2 : Ary Z h0 b2 k_b2 .long n0 (upd (upd (upd (fun _ => (.long (0 : Int64))) 0 (.long q5)) 1 (.long q6)) 2 (.long q7))) (ne_b0_b1 : b0 ≠ b1) (ne_b0_b2 : b0 ≠ b2) (ne_b1_b2 : b1 ≠ b2) (sd0 : 3 ≤ q3.toInt) (sd1 : 3 ≤ n0) (hk2 : q3 < (4096 : Int64)) :
    OMeets l Z mn3 prog_28_method_4_code 2 (some .long) [] ({ frames := 0, cells := 0, slots := 0, locals := 0 } : Room) #[(.ref b0), (.int (0 : Int32))] h0 (PureQ (some (.long q5)) h0) := by
  refine OMeets.of pn_mm5_5 #[.val (.ref b0), .val (.int (0 : Int32))] (fun m => by first | rfl | (simp [entryFrame, mkF, argsToLocals, Value.category, maxLocals]; done)) ?_
  intro p e s m below meth c s₁ B X0 e0
  have F0 := trivial
  refine s_aloadN B X0 (pc' := 1) d5_0 rfl rfl rfl ?_
  refine s_getF B X0 (pc' := 4) e0 (host := "") (Or.inl (tw17 hw)) Via.refl D_b0_blocks d5_1 rfl (fun T1 X1 e1 => ?_)
  refine s_iloadN B X1 (pc' := 5) d5_4 rfl rfl ?_
  refine s_bipush B X1 (pc' := 7) (v := (12 : Int32)) d5_5 rfl rfl ?_
  refine s_iushr B X1 (pc' := 8) (v := (0 : Int32)) d5_7 (by decide +kernel) rfl ?_
  refine s_ldR B X1 (pc' := 9) (jn := 0) (v := (.ref b2)) e1 A_b1 rfl (by decide) (by decide) (by omega) rfl d5_8 rfl ?_
  refine s_iloadN B X1 (pc' := 10) d5_9 rfl rfl ?_
  refine s_sipush B X1 (pc' := 13) (v := (4095 : Int32)) d5_10 rfl rfl ?_
  refine s_iand B X1 (pc' := 14) (v := (0 : Int32)) d5_13 rfl rfl ?_
  refine s_ldJ B X1 (pc' := 15) (jn := 0) (v := (.long q5)) e1 A_b2 (by decide) (by decide) (by omega) rfl d5_14 rfl ?_
  exact r_long B X1 rfl d5_15 ⟨rfl, rfl, e1⟩ (by decide) (by decide)

theorem pn_mm5_6 : plainFor mn3 = true := plainFor_of_name (show plainName "com/example/stroll/stroll/ExplicitMetric$Weights" = true by first | (simp [plainName, overriddenIn]; done) | decide +kernel)
set_option maxRecDepth 65536 in
set_option maxHeartbeats 40000000 in
theorem mm5_6 (l : Launch) (Z : State) (a0 : Array Value) (hw : ∀ d ∈ tables_1, d.before a0 Z = true) (b0 : Addr) (b1 : Addr) (b2 : Addr) (q3 : Int64) (q4 : Int32) (k_b1 : ClassId) (k_b2 : ClassId) (q5 : Int64) (q6 : Int64) (q7 : Int64) (n0 : Nat) (h0 : Heap) (FZ : OwnF Z Z.heap ) (O0 : Old Z Z.heap.size h0) (ge_b0 : Z.heap.size ≤ b0) (E_b0 : Exa Z h0 b0 "com/example/stroll/stroll/ExplicitMetric$Weights") (D_b0_blocks : Fld Z h0 b0 "com/example/stroll/stroll/ExplicitMetric$Weights" "blocks" "[[J" (.ref b1)) (D_b0_given : Fld Z h0 b0 "com/example/stroll/stroll/ExplicitMetric$Weights" "given" "I" (.int (3 : Int32))) (D_b0_pairs : Fld Z h0 b0 "com/example/stroll/stroll/ExplicitMetric$Weights" "pairs" "J" (.long q3)) (D_b0_size : Fld Z h0 b0 "com/example/stroll/stroll/ExplicitMetric$Weights" "size" "I" (.int q4)) (ge_b1 : Z.heap.size ≤ b1) (A_b1 : Ary Z h0 b1 k_b1 (.array .long) 1 (upd (fun _ => .null) 0 (.ref b2))) (V_b1 : OvrA Z k_b1 .long "[J") (ge_b2 : Z.heap.size ≤ b2) (E_b2 : Exa Z h0 b2 "[J") (A_b2 : Ary Z h0 b2 k_b2 .long n0 (upd (upd (upd (fun _ => (.long (0 : Int64))) 0 (.long q5)) 1 (.long q6)) 2 (.long q7))) (ne_b0_b1 : b0 ≠ b1) (ne_b0_b2 : b0 ≠ b2) (ne_b1_b2 : b1 ≠ b2) (sd0 : 3 ≤ q3.toInt) (sd1 : 3 ≤ n0) (hk2 : q3 < (4096 : Int64)) :
    OMeets l Z mn3 prog_28_method_4_code 2 (some .long) [] ({ frames := 0, cells := 0, slots := 0, locals := 0 } : Room) #[(.ref b0), (.int (1 : Int32))] h0 (PureQ (some (.long q6)) h0) := by
  refine OMeets.of pn_mm5_6 #[.val (.ref b0), .val (.int (1 : Int32))] (fun m => by first | rfl | (simp [entryFrame, mkF, argsToLocals, Value.category, maxLocals]; done)) ?_
  intro p e s m below meth c s₁ B X0 e0
  have F0 := trivial
  refine s_aloadN B X0 (pc' := 1) d5_0 rfl rfl rfl ?_
  refine s_getF B X0 (pc' := 4) e0 (host := "") (Or.inl (tw17 hw)) Via.refl D_b0_blocks d5_1 rfl (fun T1 X1 e1 => ?_)
  refine s_iloadN B X1 (pc' := 5) d5_4 rfl rfl ?_
  refine s_bipush B X1 (pc' := 7) (v := (12 : Int32)) d5_5 rfl rfl ?_
  refine s_iushr B X1 (pc' := 8) (v := (0 : Int32)) d5_7 (by decide +kernel) rfl ?_
  refine s_ldR B X1 (pc' := 9) (jn := 0) (v := (.ref b2)) e1 A_b1 rfl (by decide) (by decide) (by omega) rfl d5_8 rfl ?_
  refine s_iloadN B X1 (pc' := 10) d5_9 rfl rfl ?_
  refine s_sipush B X1 (pc' := 13) (v := (4095 : Int32)) d5_10 rfl rfl ?_
  refine s_iand B X1 (pc' := 14) (v := (1 : Int32)) d5_13 rfl rfl ?_
  refine s_ldJ B X1 (pc' := 15) (jn := 1) (v := (.long q6)) e1 A_b2 (by decide) (by decide) (by omega) rfl d5_14 rfl ?_
  exact r_long B X1 rfl d5_15 ⟨rfl, rfl, e1⟩ (by decide) (by decide)

theorem pn_mm5_7 : plainFor mn3 = true := plainFor_of_name (show plainName "com/example/stroll/stroll/ExplicitMetric$Weights" = true by first | (simp [plainName, overriddenIn]; done) | decide +kernel)
set_option maxRecDepth 65536 in
set_option maxHeartbeats 40000000 in
theorem mm5_7 (l : Launch) (Z : State) (a0 : Array Value) (hw : ∀ d ∈ tables_1, d.before a0 Z = true) (b0 : Addr) (b1 : Addr) (b2 : Addr) (q3 : Int64) (q4 : Int32) (k_b1 : ClassId) (k_b2 : ClassId) (q5 : Int64) (q6 : Int64) (q7 : Int64) (n0 : Nat) (h0 : Heap) (FZ : OwnF Z Z.heap ) (O0 : Old Z Z.heap.size h0) (ge_b0 : Z.heap.size ≤ b0) (E_b0 : Exa Z h0 b0 "com/example/stroll/stroll/ExplicitMetric$Weights") (D_b0_blocks : Fld Z h0 b0 "com/example/stroll/stroll/ExplicitMetric$Weights" "blocks" "[[J" (.ref b1)) (D_b0_given : Fld Z h0 b0 "com/example/stroll/stroll/ExplicitMetric$Weights" "given" "I" (.int (3 : Int32))) (D_b0_pairs : Fld Z h0 b0 "com/example/stroll/stroll/ExplicitMetric$Weights" "pairs" "J" (.long q3)) (D_b0_size : Fld Z h0 b0 "com/example/stroll/stroll/ExplicitMetric$Weights" "size" "I" (.int q4)) (ge_b1 : Z.heap.size ≤ b1) (A_b1 : Ary Z h0 b1 k_b1 (.array .long) 1 (upd (fun _ => .null) 0 (.ref b2))) (V_b1 : OvrA Z k_b1 .long "[J") (ge_b2 : Z.heap.size ≤ b2) (E_b2 : Exa Z h0 b2 "[J") (A_b2 : Ary Z h0 b2 k_b2 .long n0 (upd (upd (upd (fun _ => (.long (0 : Int64))) 0 (.long q5)) 1 (.long q6)) 2 (.long q7))) (ne_b0_b1 : b0 ≠ b1) (ne_b0_b2 : b0 ≠ b2) (ne_b1_b2 : b1 ≠ b2) (sd0 : 3 ≤ q3.toInt) (sd1 : 3 ≤ n0) (hk2 : q3 < (4096 : Int64)) :
    OMeets l Z mn3 prog_28_method_4_code 2 (some .long) [] ({ frames := 0, cells := 0, slots := 0, locals := 0 } : Room) #[(.ref b0), (.int (2 : Int32))] h0 (PureQ (some (.long q7)) h0) := by
  refine OMeets.of pn_mm5_7 #[.val (.ref b0), .val (.int (2 : Int32))] (fun m => by first | rfl | (simp [entryFrame, mkF, argsToLocals, Value.category, maxLocals]; done)) ?_
  intro p e s m below meth c s₁ B X0 e0
  have F0 := trivial
  refine s_aloadN B X0 (pc' := 1) d5_0 rfl rfl rfl ?_
  refine s_getF B X0 (pc' := 4) e0 (host := "") (Or.inl (tw17 hw)) Via.refl D_b0_blocks d5_1 rfl (fun T1 X1 e1 => ?_)
  refine s_iloadN B X1 (pc' := 5) d5_4 rfl rfl ?_
  refine s_bipush B X1 (pc' := 7) (v := (12 : Int32)) d5_5 rfl rfl ?_
  refine s_iushr B X1 (pc' := 8) (v := (0 : Int32)) d5_7 (by decide +kernel) rfl ?_
  refine s_ldR B X1 (pc' := 9) (jn := 0) (v := (.ref b2)) e1 A_b1 rfl (by decide) (by decide) (by omega) rfl d5_8 rfl ?_
  refine s_iloadN B X1 (pc' := 10) d5_9 rfl rfl ?_
  refine s_sipush B X1 (pc' := 13) (v := (4095 : Int32)) d5_10 rfl rfl ?_
  refine s_iand B X1 (pc' := 14) (v := (2 : Int32)) d5_13 rfl rfl ?_
  refine s_ldJ B X1 (pc' := 15) (jn := 2) (v := (.long q7)) e1 A_b2 (by decide) (by decide) (by omega) rfl d5_14 rfl ?_
  exact r_long B X1 rfl d5_15 ⟨rfl, rfl, e1⟩ (by decide) (by decide)
theorem d4_6 : decode jdk_29_method_70_code 6 = .ok (.lload_n 0, 1) := by decide +kernel
theorem d4_7 : decode jdk_29_method_70_code 7 = .ok (.goto 4, 3) := by decide +kernel
theorem pn_rm4_1 : plainFor mn1 = true := by decide +kernel
set_option maxRecDepth 65536 in
set_option maxHeartbeats 40000000 in
theorem rm4_1 (l : Launch) (Z : State) (a0 : Array Value) (hw : ∀ d ∈ tables_1, d.before a0 Z = true) (q1 : Int64) (h0 : Heap) (F0 : OwnF Z h0 ) (hk0 : ¬ q1 < (4096 : Int64)) :
    OMeets l Z mn1 jdk_29_method_70_code 4 (some .long) [] ({ frames := 0, cells := 0, slots := 0, locals := 0 } : Room) #[(.long (4096 : Int64)), (.long q1)] h0 (PureQ (some (.long (4096 : Int64))) h0) := by
  refine OMeets.of pn_rm4_1 #[.val (.long (4096 : Int64)), .second, .val (.long q1), .second] (fun m => by first | rfl | (simp [entryFrame, mkF, argsToLocals, Value.category, maxLocals]; done)) ?_
  intro p e s m below meth c s₁ B X0 e0
  refine s_lloadN B X0 (pc' := 1) d4_0 rfl rfl ?_
  refine s_lloadN B X0 (pc' := 2) d4_1 rfl rfl ?_
  refine b_lcmp_gt B X0 (py := 10) (pn := 6) d4_2 rfl d4_3 (by decide) (by decide) rfl (fun q => absurd q hk0) (fun _ => ?_)
  refine s_lloadN B X0 (pc' := 7) d4_6 rfl rfl ?_
  refine s_goto B X0 (pc' := 11) d4_7 (by decide) (by decide) ?_
  exact r_long B X0 rfl d4_11 ⟨rfl, rfl, e0⟩ (by decide) (by decide)

theorem pn_mm3_8 : plainFor mn2 = true := plainFor_of_name (show plainName "com/example/stroll/stroll/ExplicitMetric$Weights" = true by first | (simp [plainName, overriddenIn]; done) | decide +kernel)
set_option maxRecDepth 65536 in
set_option maxHeartbeats 40000000 in
theorem mm3_8 (l : Launch) (Z : State) (a0 : Array Value) (hw : ∀ d ∈ tables_1, d.before a0 Z = true) (b0 : Addr) (q1 : Int64) (b2 : Addr) (q3 : Int64) (q4 : Int32) (k_b2 : ClassId) (h0 : Heap) (FZ : OwnF Z Z.heap ) (O0 : Old Z Z.heap.size h0) (ge_b0 : Z.heap.size ≤ b0) (E_b0 : Exa Z h0 b0 "com/example/stroll/stroll/ExplicitMetric$Weights") (D_b0_blocks : Fld Z h0 b0 "com/example/stroll/stroll/ExplicitMetric$Weights" "blocks" "[[J" (.ref b2)) (D_b0_given : Fld Z h0 b0 "com/example/stroll/stroll/ExplicitMetric$Weights" "given" "I" (.int (0 : Int32))) (D_b0_pairs : Fld Z h0 b0 "com/example/stroll/stroll/ExplicitMetric$Weights" "pairs" "J" (.long q3)) (D_b0_size : Fld Z h0 b0 "com/example/stroll/stroll/ExplicitMetric$Weights" "size" "I" (.int q4)) (ge_b2 : Z.heap.size ≤ b2) (A_b2 : Ary Z h0 b2 k_b2 (.array .long) 1 (fun _ => .null)) (V_b2 : OvrA Z k_b2 .long "[J") (ne_b0_b2 : b0 ≠ b2) (sd0 : 3 ≤ q3.toInt) (hk1 : ¬ q3 < (4096 : Int64)) :
    OMeets l Z mn2 prog_28_method_5_code 4 none [] ({ frames := 1, cells := 1, slots := 4096, locals := 17 } : Room) #[(.ref b0), (.long q1)] h0 (fun v h L => ∃ o6 : Addr, ∃ kq_o6 : ClassId, v = none ∧ Fr Z.heap.size L ∧ Keep h0 h [b0, b2] ∧ h0.size ≤ o6 ∧ Exa Z h o6 "[J" ∧ Ary Z h o6 kq_o6 .long 4096 (upd (fun _ => (.long (0 : Int64))) 0 (.long q1)) ∧ Fld Z h b0 "com/example/stroll/stroll/ExplicitMetric$Weights" "blocks" "[[J" (.ref b2) ∧ Fld Z h b0 "com/example/stroll/stroll/ExplicitMetric$Weights" "given" "I" (.int (1 : Int32)) ∧ Fld Z h b0 "com/example/stroll/stroll/ExplicitMetric$Weights" "pairs" "J" (.long q3) ∧ Fld Z h b0 "com/example/stroll/stroll/ExplicitMetric$Weights" "size" "I" (.int q4) ∧ Ary Z h b2 k_b2 (.array .long) 1 (upd (fun _ => .null) 0 (.ref o6))) := by
  refine OMeets.of pn_mm3_8 #[.val (.ref b0), .val (.long q1), .second, .unset] (fun m => by first | rfl | (simp [entryFrame, mkF, argsToLocals, Value.category, maxLocals]; done)) ?_
  intro p e s m below meth c s₁ B X0 e0
  have F0 := trivial
  refine s_aloadN B X0 (pc' := 1) d3_0 rfl rfl rfl ?_
  refine s_getF B X0 (pc' := 4) e0 (host := "") (Or.inl (tw24 hw)) Via.refl D_b0_given d3_1 rfl (fun T1 X1 e1 => ?_)
  refine s_bipush B X1 (pc' := 6) (v := (12 : Int32)) d3_4 rfl rfl ?_
  refine s_iushr B X1 (pc' := 7) (v := (0 : Int32)) d3_6 (by decide +kernel) rfl ?_
  refine s_istoreN B X1 (pc' := 8) (Ls' := #[.val (.ref b0), .val (.long q1), .second, .val (.int (0 : Int32))]) d3_7 rfl rfl ?_
  refine s_aloadN B X1 (pc' := 9) d3_8 rfl rfl rfl ?_
  refine s_getF B X1 (pc' := 12) e1 (host := "") (Or.inl (tw17 hw)) Via.refl D_b0_blocks d3_9 rfl (fun T2 X2 e2 => ?_)
  refine s_iloadN B X2 (pc' := 13) d3_12 rfl rfl ?_
  refine s_ldR B X2 (pc' := 14) (jn := 0) (v := .null) e2 A_b2 rfl (by decide) (by decide) (by omega) rfl d3_13 rfl ?_
  refine s_ifnonnullN B X2 (pc' := 17) d3_14 rfl ?_
  refine s_aloadN B X2 (pc' := 18) d3_17 rfl rfl rfl ?_
  refine s_getF B X2 (pc' := 21) e2 (host := "") (Or.inl (tw17 hw)) Via.refl D_b0_blocks d3_18 rfl (fun T3 X3 e3 => ?_)
  refine s_iloadN B X3 (pc' := 22) d3_21 rfl rfl ?_
  refine s_ldc2 B X3 (pc' := 25) (v := (4096 : Int64)) (tw14 hw) d3_22 rfl ?_
  refine s_aloadN B X3 (pc' := 26) d3_25 rfl rfl rfl ?_
  refine s_getF B X3 (pc' := 29) e3 (host := "") (Or.inl (tw12 hw)) Via.refl D_b0_pairs d3_26 rfl (fun T4 X4 e4 => ?_)
  refine s_iloadN B X4 (pc' := 30) d3_29 rfl rfl ?_
  refine s_i2l B X4 (pc' := 31) (v := (0 : Int64)) d3_30 rfl rfl ?_
  refine s_bipush B X4 (pc' := 33) (v := (12 : Int32)) d3_31 rfl rfl ?_
  refine s_lshl B X4 (pc' := 34) (v := (0 : Int64)) d3_33 (by decide +kernel) rfl ?_
  refine s_lsub B X4 (pc' := 35) (v := q3) d3_34 (Int64.sub_zero _) rfl ?_
  refine p_static B X4 (y := mn1) (pc' := 38) (argsL := [(.long (4096 : Int64)), (.long q3)]) (under := [(.int (0 : Int32)), (.ref b2)]) (W := 2) e4 (tw26 hw) (tw27 hw) (tw29 hw) (tw28 hw) (by decide) (rm4_1 l Z a0 hw q3  h0 F0 hk1) (lenOf pd_1 rfl) rfl rfl (by decide) (by decide) rfl rfl (by decide) (by decide) rfl d3_35 rfl (fun T5 X5 e5 => ?_)
  show Go p e below _ (T5.setTop (mkF m 38 #[.val (.ref b0), .val (.long q1), .second, .val (.int (0 : Int32))] [(.long (4096 : Int64)), (.int (0 : Int32)), (.ref b2)]))
  refine s_l2i B X5 (pc' := 39) (v := (4096 : Int32)) d3_38 rfl rfl ?_
  refine s_newPE B X5 (pc' := 41) (aty := .long) (N := 4096) (cap := 4096) (ad := "[J") e5 (by decide) (tw30 hw) (by decide) (by decide) (by decide) (by decide) (by decide) (by decide) d3_39 rfl (fun T6 h6 o6 k6 g6 X6 e6 E6 A6 Y6 => ?_)
  have ne_b0_o6 : b0 ≠ o6 := Nat.ne_of_lt (g6 ▸ E_b0.lt)
  have ne_b2_o6 : b2 ≠ o6 := Nat.ne_of_lt (g6 ▸ A_b2.lt)
  have ge_o6 : Z.heap.size ≤ o6 := g6 ▸ old_le O0
  have le_o6 : h0.size ≤ o6 := g6 ▸ ((Keep.refl h0 [b0, b2])).1
  replace A6 : Ary Z h6 o6 k6 .long 4096 (fun _ => (.long (0 : Int64))) := A6
  have O6 := (O0).ext E6
  have K6 := ((Keep.refl h0 [b0, b2])).ext E6
  show Go p e below _ (T6.setTop (mkF m 41 #[.val (.ref b0), .val (.long q1), .second, .val (.int (0 : Int32))] [(.ref o6), (.int (0 : Int32)), (.ref b2)]))
  have f8 := (A_b2.ext E6)
  refine s_stR B X6 (pc' := 42) (jn := 0) e6 f8 rfl (Ary.stoA f8 V_b2 (Ins.self Y6)) (by decide) (by decide) (by omega) d3_41 rfl (fun T7 h7 X7 e7 W7 A7 => ?_)
  have N7 := Fr.snoc X7 (Fr.nil _) ge_b2
  have O7 := (O6).wr W7 ge_b2
  have K7 := (K6).wr W7 (Or.inl (List.mem_of_getElem? (i := 1) rfl))
  show Go p e below _ (T7.setTop (mkF m 42 #[.val (.ref b0), .val (.long q1), .second, .val (.int (0 : Int32))] []))
  refine s_aloadN B X7 (pc' := 43) d3_42 rfl rfl rfl ?_
  have f9 := ((D_b0_blocks.ext E6).other W7 (Or.inl ne_b0_b2))
  refine s_getF B X7 (pc' := 46) e7 (host := "") (Or.inl (tw17 hw)) Via.refl f9 d3_43 rfl (fun T10 X10 e10 => ?_)
  refine s_iloadN B X10 (pc' := 47) d3_46 rfl rfl ?_
  refine s_ldR B X10 (pc' := 48) (jn := 0) (v := (.ref o6)) e10 A7 rfl (by decide) (by decide) (by omega) rfl d3_47 rfl ?_
  refine s_aloadN B X10 (pc' := 49) d3_48 rfl rfl rfl ?_
  have f11 := ((D_b0_given.ext E6).other W7 (Or.inl ne_b0_b2))
  refine s_getF B X10 (pc' := 52) e10 (host := "") (Or.inl (tw24 hw)) Via.refl f11 d3_49 rfl (fun T12 X12 e12 => ?_)
  refine s_sipush B X12 (pc' := 55) (v := (4095 : Int32)) d3_52 rfl rfl ?_
  refine s_iand B X12 (pc' := 56) (v := (0 : Int32)) d3_55 rfl rfl ?_
  refine s_lloadN B X12 (pc' := 57) d3_56 rfl rfl ?_
  have f14 := (Ary.other W7 A6 (Ne.symm ne_b2_o6))
  refine s_stJ B X12 (pc' := 58) (jn := 0) e12 f14  (by decide) (by decide) (by omega) d3_57 rfl (fun T13 h13 X13 e13 W13 A13 => ?_)
  have N13 := Fr.snoc X13 N7 ge_o6
  have O13 := (O7).wr W13 ge_o6
  have K13 := (K7).wr W13 (Or.inr le_o6)
  show Go p e below _ (T13.setTop (mkF m 58 #[.val (.ref b0), .val (.long q1), .second, .val (.int (0 : Int32))] []))
  refine s_aloadN B X13 (pc' := 59) d3_58 rfl rfl rfl ?_
  refine s_dup B X13 (pc' := 60) d3_59 rfl rfl ?_
  have f15 := (f11.other W13 (Or.inl ne_b0_o6))
  refine s_getF B X13 (pc' := 63) e13 (host := "") (Or.inl (tw24 hw)) Via.refl f15 d3_60 rfl (fun T16 X16 e16 => ?_)
  refine s_iconst B X16 (pc' := 64) (v := (1 : Int32)) d3_63 rfl rfl ?_
  refine s_iadd B X16 (pc' := 65) (v := (1 : Int32)) d3_64 rfl rfl ?_
  have f18 := (((E_b0.ext E6).wr W7).wr W13)
  refine s_putF B X16 (pc' := 68) (ty := .int) e16 (host := "") (Or.inl (tw24 hw)) Via.refl f15 f18 (Or.inl (tw25 hw)) (tw1 hw) (by decide) rfl rfl d3_65 rfl (fun T17 h17 X17 e17 W17 => ?_)
  have G17 := f15.same W17
  have N17 := Fr.snoc X17 N13 ge_b0
  have O17 := (O13).wr W17 ge_b0
  have K17 := (K13).wr W17 (Or.inl (List.mem_of_getElem? (i := 0) rfl))
  show Go p e below _ (T17.setTop (mkF m 68 #[.val (.ref b0), .val (.long q1), .second, .val (.int (0 : Int32))] []))
  have f19 := (((Y6.wr W7).wr W13).wr W17)
  have f20 := (Ary.other W17 A13 (Ne.symm ne_b0_o6))
  have f21 := ((f9.other W13 (Or.inl ne_b0_o6)).other W17 (Or.inr (slot_ne (Or.inr (tw18 hw)) (Or.inl (tw25 hw)) (by decide) (t := (.array (.array .long))) (t' := .int) (by decide) (by decide))))
  have f22 := ((((D_b0_pairs.ext E6).other W7 (Or.inl ne_b0_b2)).other W13 (Or.inl ne_b0_o6)).other W17 (Or.inr (slot_ne (Or.inr (tw13 hw)) (Or.inl (tw25 hw)) (by decide) (t := .long) (t' := .int) (by decide) (by decide))))
  have f23 := ((((D_b0_size.ext E6).other W7 (Or.inl ne_b0_b2)).other W13 (Or.inl ne_b0_o6)).other W17 (Or.inr (slot_ne (Or.inr (tw10 hw)) (Or.inl (tw25 hw)) (by decide) (t := .int) (t' := .int) (by decide) (by decide))))
  have f24 := (Ary.other W17 (Ary.other W13 A7 ne_b2_o6) (Ne.symm ne_b0_b2))
  exact r_void B X17 rfl d3_68 (by rw [e17]; exact ⟨o6, k6, rfl, N17, K17, le_o6, f19, f20, f21, G17, f22, f23, f24⟩) (by decide) (by decide)

theorem pn_mm5_9 : plainFor mn3 = true := plainFor_of_name (show plainName "com/example/stroll/stroll/ExplicitMetric$Weights" = true by first | (simp [plainName, overriddenIn]; done) | decide +kernel)
set_option maxRecDepth 65536 in
set_option maxHeartbeats 40000000 in
theorem mm5_9 (l : Launch) (Z : State) (a0 : Array Value) (hw : ∀ d ∈ tables_1, d.before a0 Z = true) (b0 : Addr) (b1 : Addr) (b2 : Addr) (q3 : Int64) (q4 : Int32) (k_b1 : ClassId) (k_b2 : ClassId) (q5 : Int64) (h0 : Heap) (FZ : OwnF Z Z.heap ) (O0 : Old Z Z.heap.size h0) (ge_b0 : Z.heap.size ≤ b0) (E_b0 : Exa Z h0 b0 "com/example/stroll/stroll/ExplicitMetric$Weights") (D_b0_blocks : Fld Z h0 b0 "com/example/stroll/stroll/ExplicitMetric$Weights" "blocks" "[[J" (.ref b1)) (D_b0_given : Fld Z h0 b0 "com/example/stroll/stroll/ExplicitMetric$Weights" "given" "I" (.int (1 : Int32))) (D_b0_pairs : Fld Z h0 b0 "com/example/stroll/stroll/ExplicitMetric$Weights" "pairs" "J" (.long q3)) (D_b0_size : Fld Z h0 b0 "com/example/stroll/stroll/ExplicitMetric$Weights" "size" "I" (.int q4)) (ge_b1 : Z.heap.size ≤ b1) (A_b1 : Ary Z h0 b1 k_b1 (.array .long) 1 (upd (fun _ => .null) 0 (.ref b2))) (V_b1 : OvrA Z k_b1 .long "[J") (ge_b2 : Z.heap.size ≤ b2) (E_b2 : Exa Z h0 b2 "[J") (A_b2 : Ary Z h0 b2 k_b2 .long 4096 (upd (fun _ => (.long (0 : Int64))) 0 (.long q5))) (ne_b0_b1 : b0 ≠ b1) (ne_b0_b2 : b0 ≠ b2) (ne_b1_b2 : b1 ≠ b2) (sd0 : 3 ≤ q3.toInt) (hk1 : ¬ q3 < (4096 : Int64)) :
    OMeets l Z mn3 prog_28_method_4_code 2 (some .long) [] ({ frames := 0, cells := 0, slots := 0, locals := 0 } : Room) #[(.ref b0), (.int (0 : Int32))] h0 (PureQ (some (.long q5)) h0) := by
  refine OMeets.of pn_mm5_9 #[.val (.ref b0), .val (.int (0 : Int32))] (fun m => by first | rfl | (simp [entryFrame, mkF, argsToLocals, Value.category, maxLocals]; done)) ?_
  intro p e s m below meth c s₁ B X0 e0
  have F0 := trivial
  refine s_aloadN B X0 (pc' := 1) d5_0 rfl rfl rfl ?_
  refine s_getF B X0 (pc' := 4) e0 (host := "") (Or.inl (tw17 hw)) Via.refl D_b0_blocks d5_1 rfl (fun T1 X1 e1 => ?_)
  refine s_iloadN B X1 (pc' := 5) d5_4 rfl rfl ?_
  refine s_bipush B X1 (pc' := 7) (v := (12 : Int32)) d5_5 rfl rfl ?_
  refine s_iushr B X1 (pc' := 8) (v := (0 : Int32)) d5_7 (by decide +kernel) rfl ?_
  refine s_ldR B X1 (pc' := 9) (jn := 0) (v := (.ref b2)) e1 A_b1 rfl (by decide) (by decide) (by omega) rfl d5_8 rfl ?_
  refine s_iloadN B X1 (pc' := 10) d5_9 rfl rfl ?_
  refine s_sipush B X1 (pc' := 13) (v := (4095 : Int32)) d5_10 rfl rfl ?_
  refine s_iand B X1 (pc' := 14) (v := (0 : Int32)) d5_13 rfl rfl ?_
  refine s_ldJ B X1 (pc' := 15) (jn := 0) (v := (.long q5)) e1 A_b2 (by decide) (by decide) (by omega) rfl d5_14 rfl ?_
  exact r_long B X1 rfl d5_15 ⟨rfl, rfl, e1⟩ (by decide) (by decide)

theorem pn_mm3_10 : plainFor mn2 = true := plainFor_of_name (show plainName "com/example/stroll/stroll/ExplicitMetric$Weights" = true by first | (simp [plainName, overriddenIn]; done) | decide +kernel)
set_option maxRecDepth 65536 in
set_option maxHeartbeats 40000000 in
theorem mm3_10 (l : Launch) (Z : State) (a0 : Array Value) (hw : ∀ d ∈ tables_1, d.before a0 Z = true) (b0 : Addr) (q1 : Int64) (b2 : Addr) (b3 : Addr) (q4 : Int64) (q5 : Int32) (k_b2 : ClassId) (k_b3 : ClassId) (q6 : Int64) (h0 : Heap) (FZ : OwnF Z Z.heap ) (O0 : Old Z Z.heap.size h0) (ge_b0 : Z.heap.size ≤ b0) (E_b0 : Exa Z h0 b0 "com/example/stroll/stroll/ExplicitMetric$Weights") (D_b0_blocks : Fld Z h0 b0 "com/example/stroll/stroll/ExplicitMetric$Weights" "blocks" "[[J" (.ref b2)) (D_b0_given : Fld Z h0 b0 "com/example/stroll/stroll/ExplicitMetric$Weights" "given" "I" (.int (1 : Int32))) (D_b0_pairs : Fld Z h0 b0 "com/example/stroll/stroll/ExplicitMetric$Weights" "pairs" "J" (.long q4)) (D_b0_size : Fld Z h0 b0 "com/example/stroll/stroll/ExplicitMetric$Weights" "size" "I" (.int q5)) (ge_b2 : Z.heap.size ≤ b2) (A_b2 : Ary Z h0 b2 k_b2 (.array .long) 1 (upd (fun _ => .null) 0 (.ref b3))) (V_b2 : OvrA Z k_b2 .long "[J") (ge_b3 : Z.heap.size ≤ b3) (E_b3 : Exa Z h0 b3 "[J") (A_b3 : Ary Z h0 b3 k_b3 .long 4096 (upd (fun _ => (.long (0 : Int64))) 0 (.long q6))) (ne_b0_b2 : b0 ≠ b2) (ne_b0_b3 : b0 ≠ b3) (ne_b2_b3 : b2 ≠ b3) (sd0 : 3 ≤ q4.toInt) (hk1 : ¬ q4 < (4096 : Int64)) :
    OMeets l Z mn2 prog_28_method_5_code 4 none [] ({ frames := 0, cells := 0, slots := 0, locals := 0 } : Room) #[(.ref b0), (.long q1)] h0 (fun v h L => v = none ∧ Fr Z.heap.size L ∧ Keep h0 h [b0, b3] ∧ Fld Z h b0 "com/example/stroll/stroll/ExplicitMetric$Weights" "blocks" "[[J" (.ref b2) ∧ Fld Z h b0 "com/example/stroll/stroll/ExplicitMetric$Weights" "given" "I" (.int (2 : Int32)) ∧ Fld Z h b0 "com/example/stroll/stroll/ExplicitMetric$Weights" "pairs" "J" (.long q4) ∧ Fld Z h b0 "com/example/stroll/stroll/ExplicitMetric$Weights" "size" "I" (.int q5) ∧ Ary Z h b3 k_b3 .long 4096 (upd (upd (fun _ => (.long (0 : Int64))) 0 (.long q6)) 1 (.long q1))) := by
  refine OMeets.of pn_mm3_10 #[.val (.ref b0), .val (.long q1), .second, .unset] (fun m => by first | rfl | (simp [entryFrame, mkF, argsToLocals, Value.category, maxLocals]; done)) ?_
  intro p e s m below meth c s₁ B X0 e0
  have F0 := trivial
  refine s_aloadN B X0 (pc' := 1) d3_0 rfl rfl rfl ?_
  refine s_getF B X0 (pc' := 4) e0 (host := "") (Or.inl (tw24 hw)) Via.refl D_b0_given d3_1 rfl (fun T1 X1 e1 => ?_)
  refine s_bipush B X1 (pc' := 6) (v := (12 : Int32)) d3_4 rfl rfl ?_
  refine s_iushr B X1 (pc' := 7) (v := (0 : Int32)) d3_6 (by decide +kernel) rfl ?_
  refine s_istoreN B X1 (pc' := 8) (Ls' := #[.val (.ref b0), .val (.long q1), .second, .val (.int (0 : Int32))]) d3_7 rfl rfl ?_
  refine s_aloadN B X1 (pc' := 9) d3_8 rfl rfl rfl ?_
  refine s_getF B X1 (pc' := 12) e1 (host := "") (Or.inl (tw17 hw)) Via.refl D_b0_blocks d3_9 rfl (fun T2 X2 e2 => ?_)
  refine s_iloadN B X2 (pc' := 13) d3_12 rfl rfl ?_
  refine s_ldR B X2 (pc' := 14) (jn := 0) (v := (.ref b3)) e2 A_b2 rfl (by decide) (by decide) (by omega) rfl d3_13 rfl ?_
  refine s_ifnonnullY B X2 (pc' := 42) d3_14 (by decide) (by decide) ?_
  refine s_aloadN B X2 (pc' := 43) d3_42 rfl rfl rfl ?_
  refine s_getF B X2 (pc' := 46) e2 (host := "") (Or.inl (tw17 hw)) Via.refl D_b0_blocks d3_43 rfl (fun T3 X3 e3 => ?_)
  refine s_iloadN B X3 (pc' := 47) d3_46 rfl rfl ?_
  refine s_ldR B X3 (pc' := 48) (jn := 0) (v := (.ref b3)) e3 A_b2 rfl (by decide) (by decide) (by omega) rfl d3_47 rfl ?_
  refine s_aloadN B X3 (pc' := 49) d3_48 rfl rfl rfl ?_
  refine s_getF B X3 (pc' := 52) e3 (host := "") (Or.inl (tw24 hw)) Via.refl D_b0_given d3_49 rfl (fun T4 X4 e4 => ?_)
  refine s_sipush B X4 (pc' := 55) (v := (4095 : Int32)) d3_52 rfl rfl ?_
  refine s_iand B X4 (pc' := 56) (v := (1 : Int32)) d3_55 rfl rfl ?_
  refine s_lloadN B X4 (pc' := 57) d3_56 rfl rfl ?_
  refine s_stJ B X4 (pc' := 58) (jn := 1) e4 A_b3  (by decide) (by decide) (by omega) d3_57 rfl (fun T5 h5 X5 e5 W5 A5 => ?_)
  have N5 := Fr.snoc X5 (Fr.nil _) ge_b3
  have O5 := (O0).wr W5 ge_b3
  have K5 := ((Keep.refl h0 [b0, b3])).wr W5 (Or.inl (List.mem_of_getElem? (i := 1) rfl))
  show Go p e below _ (T5.setTop (mkF m 58 #[.val (.ref b0), .val (.long q1), .second, .val (.int (0 : Int32))] []))
  refine s_aloadN B X5 (pc' := 59) d3_58 rfl rfl rfl ?_
  refine s_dup B X5 (pc' := 60) d3_59 rfl rfl ?_
  have f6 := (D_b0_given.other W5 (Or.inl ne_b0_b3))
  refine s_getF B X5 (pc' := 63) e5 (host := "") (Or.inl (tw24 hw)) Via.refl f6 d3_60 rfl (fun T7 X7 e7 => ?_)
  refine s_iconst B X7 (pc' := 64) (v := (1 : Int32)) d3_63 rfl rfl ?_
  refine s_iadd B X7 (pc' := 65) (v := (2 : Int32)) d3_64 rfl rfl ?_
  have f9 := (E_b0.wr W5)
  refine s_putF B X7 (pc' := 68) (ty := .int) e7 (host := "") (Or.inl (tw24 hw)) Via.refl f6 f9 (Or.inl (tw25 hw)) (tw1 hw) (by decide) rfl rfl d3_65 rfl (fun T8 h8 X8 e8 W8 => ?_)
  have G8 := f6.same W8
  have N8 := Fr.snoc X8 N5 ge_b0
  have O8 := (O5).wr W8 ge_b0
  have K8 := (K5).wr W8 (Or.inl (List.mem_of_getElem? (i := 0) rfl))
  show Go p e below _ (T8.setTop (mkF m 68 #[.val (.ref b0), .val (.long q1), .second, .val (.int (0 : Int32))] []))
  have f10 := ((D_b0_blocks.other W5 (Or.inl ne_b0_b3)).other W8 (Or.inr (slot_ne (Or.inr (tw18 hw)) (Or.inl (tw25 hw)) (by decide) (t := (.array (.array .long))) (t' := .int) (by decide) (by decide))))
  have f11 := ((D_b0_pairs.other W5 (Or.inl ne_b0_b3)).other W8 (Or.inr (slot_ne (Or.inr (tw13 hw)) (Or.inl (tw25 hw)) (by decide) (t := .long) (t' := .int) (by decide) (by decide))))
  have f12 := ((D_b0_size.other W5 (Or.inl ne_b0_b3)).other W8 (Or.inr (slot_ne (Or.inr (tw10 hw)) (Or.inl (tw25 hw)) (by decide) (t := .int) (t' := .int) (by decide) (by decide))))
  have f13 := (Ary.other W8 A5 (Ne.symm ne_b0_b3))
  exact r_void B X8 rfl d3_68 (by rw [e8]; exact ⟨rfl, N8, K8, f10, G8, f11, f12, f13⟩) (by decide) (by decide)

theorem pn_mm3_11 : plainFor mn2 = true := plainFor_of_name (show plainName "com/example/stroll/stroll/ExplicitMetric$Weights" = true by first | (simp [plainName, overriddenIn]; done) | decide +kernel)
set_option maxRecDepth 65536 in
set_option maxHeartbeats 40000000 in
theorem mm3_11 (l : Launch) (Z : State) (a0 : Array Value) (hw : ∀ d ∈ tables_1, d.before a0 Z = true) (b0 : Addr) (q1 : Int64) (b2 : Addr) (b3 : Addr) (q4 : Int64) (q5 : Int32) (k_b2 : ClassId) (k_b3 : ClassId) (q6 : Int64) (q7 : Int64) (h0 : Heap) (FZ : OwnF Z Z.heap ) (O0 : Old Z Z.heap.size h0) (ge_b0 : Z.heap.size ≤ b0) (E_b0 : Exa Z h0 b0 "com/example/stroll/stroll/ExplicitMetric$Weights") (D_b0_blocks : Fld Z h0 b0 "com/example/stroll/stroll/ExplicitMetric$Weights" "blocks" "[[J" (.ref b2)) (D_b0_given : Fld Z h0 b0 "com/example/stroll/stroll/ExplicitMetric$Weights" "given" "I" (.int (2 : Int32))) (D_b0_pairs : Fld Z h0 b0 "com/example/stroll/stroll/ExplicitMetric$Weights" "pairs" "J" (.long q4)) (D_b0_size : Fld Z h0 b0 "com/example/stroll/stroll/ExplicitMetric$Weights" "size" "I" (.int q5)) (ge_b2 : Z.heap.size ≤ b2) (A_b2 : Ary Z h0 b2 k_b2 (.array .long) 1 (upd (fun _ => .null) 0 (.ref b3))) (V_b2 : OvrA Z k_b2 .long "[J") (ge_b3 : Z.heap.size ≤ b3) (E_b3 : Exa Z h0 b3 "[J") (A_b3 : Ary Z h0 b3 k_b3 .long 4096 (upd (upd (fun _ => (.long (0 : Int64))) 0 (.long q6)) 1 (.long q7))) (ne_b0_b2 : b0 ≠ b2) (ne_b0_b3 : b0 ≠ b3) (ne_b2_b3 : b2 ≠ b3) (sd0 : 3 ≤ q4.toInt) (hk1 : ¬ q4 < (4096 : Int64)) :
    OMeets l Z mn2 prog_28_method_5_code 4 none [] ({ frames := 0, cells := 0, slots := 0, locals := 0 } : Room) #[(.ref b0), (.long q1)] h0 (fun v h L => v = none ∧ Fr Z.heap.size L ∧ Keep h0 h [b0, b3] ∧ Fld Z h b0 "com/example/stroll/stroll/ExplicitMetric$Weights" "blocks" "[[J" (.ref b2) ∧ Fld Z h b0 "com/example/stroll/stroll/ExplicitMetric$Weights" "given" "I" (.int (3 : Int32)) ∧ Fld Z h b0 "com/example/stroll/stroll/ExplicitMetric$Weights" "pairs" "J" (.long q4) ∧ Fld Z h b0 "com/example/stroll/stroll/ExplicitMetric$Weights" "size" "I" (.int q5) ∧ Ary Z h b3 k_b3 .long 4096 (upd (upd (upd (fun _ => (.long (0 : Int64))) 0 (.long q6)) 1 (.long q7)) 2 (.long q1))) := by
  refine OMeets.of pn_mm3_11 #[.val (.ref b0), .val (.long q1), .second, .unset] (fun m => by first | rfl | (simp [entryFrame, mkF, argsToLocals, Value.category, maxLocals]; done)) ?_
  intro p e s m below meth c s₁ B X0 e0
  have F0 := trivial
  refine s_aloadN B X0 (pc' := 1) d3_0 rfl rfl rfl ?_
  refine s_getF B X0 (pc' := 4) e0 (host := "") (Or.inl (tw24 hw)) Via.refl D_b0_given d3_1 rfl (fun T1 X1 e1 => ?_)
  refine s_bipush B X1 (pc' := 6) (v := (12 : Int32)) d3_4 rfl rfl ?_
  refine s_iushr B X1 (pc' := 7) (v := (0 : Int32)) d3_6 (by decide +kernel) rfl ?_
  refine s_istoreN B X1 (pc' := 8) (Ls' := #[.val (.ref b0), .val (.long q1), .second, .val (.int (0 : Int32))]) d3_7 rfl rfl ?_
  refine s_aloadN B X1 (pc' := 9) d3_8 rfl rfl rfl ?_
  refine s_getF B X1 (pc' := 12) e1 (host := "") (Or.inl (tw17 hw)) Via.refl D_b0_blocks d3_9 rfl (fun T2 X2 e2 => ?_)
  refine s_iloadN B X2 (pc' := 13) d3_12 rfl rfl ?_
  refine s_ldR B X2 (pc' := 14) (jn := 0) (v := (.ref b3)) e2 A_b2 rfl (by decide) (by decide) (by omega) rfl d3_13 rfl ?_
  refine s_ifnonnullY B X2 (pc' := 42) d3_14 (by decide) (by decide) ?_
  refine s_aloadN B X2 (pc' := 43) d3_42 rfl rfl rfl ?_
  refine s_getF B X2 (pc' := 46) e2 (host := "") (Or.inl (tw17 hw)) Via.refl D_b0_blocks d3_43 rfl (fun T3 X3 e3 => ?_)
  refine s_iloadN B X3 (pc' := 47) d3_46 rfl rfl ?_
  refine s_ldR B X3 (pc' := 48) (jn := 0) (v := (.ref b3)) e3 A_b2 rfl (by decide) (by decide) (by omega) rfl d3_47 rfl ?_
  refine s_aloadN B X3 (pc' := 49) d3_48 rfl rfl rfl ?_
  refine s_getF B X3 (pc' := 52) e3 (host := "") (Or.inl (tw24 hw)) Via.refl D_b0_given d3_49 rfl (fun T4 X4 e4 => ?_)
  refine s_sipush B X4 (pc' := 55) (v := (4095 : Int32)) d3_52 rfl rfl ?_
  refine s_iand B X4 (pc' := 56) (v := (2 : Int32)) d3_55 rfl rfl ?_
  refine s_lloadN B X4 (pc' := 57) d3_56 rfl rfl ?_
  refine s_stJ B X4 (pc' := 58) (jn := 2) e4 A_b3  (by decide) (by decide) (by omega) d3_57 rfl (fun T5 h5 X5 e5 W5 A5 => ?_)
  have N5 := Fr.snoc X5 (Fr.nil _) ge_b3
  have O5 := (O0).wr W5 ge_b3
  have K5 := ((Keep.refl h0 [b0, b3])).wr W5 (Or.inl (List.mem_of_getElem? (i := 1) rfl))
  show Go p e below _ (T5.setTop (mkF m 58 #[.val (.ref b0), .val (.long q1), .second, .val (.int (0 : Int32))] []))
  refine s_aloadN B X5 (pc' := 59) d3_58 rfl rfl rfl ?_
  refine s_dup B X5 (pc' := 60) d3_59 rfl rfl ?_
  have f6 := (D_b0_given.other W5 (Or.inl ne_b0_b3))
  refine s_getF B X5 (pc' := 63) e5 (host := "") (Or.inl (tw24 hw)) Via.refl f6 d3_60 rfl (fun T7 X7 e7 => ?_)
  refine s_iconst B X7 (pc' := 64) (v := (1 : Int32)) d3_63 rfl rfl ?_
  refine s_iadd B X7 (pc' := 65) (v := (3 : Int32)) d3_64 rfl rfl ?_
  have f9 := (E_b0.wr W5)
  refine s_putF B X7 (pc' := 68) (ty := .int) e7 (host := "") (Or.inl (tw24 hw)) Via.refl f6 f9 (Or.inl (tw25 hw)) (tw1 hw) (by decide) rfl rfl d3_65 rfl (fun T8 h8 X8 e8 W8 => ?_)
  have G8 := f6.same W8
  have N8 := Fr.snoc X8 N5 ge_b0
  have O8 := (O5).wr W8 ge_b0
  have K8 := (K5).wr W8 (Or.inl (List.mem_of_getElem? (i := 0) rfl))
  show Go p e below _ (T8.setTop (mkF m 68 #[.val (.ref b0), .val (.long q1), .second, .val (.int (0 : Int32))] []))
  have f10 := ((D_b0_blocks.other W5 (Or.inl ne_b0_b3)).other W8 (Or.inr (slot_ne (Or.inr (tw18 hw)) (Or.inl (tw25 hw)) (by decide) (t := (.array (.array .long))) (t' := .int) (by decide) (by decide))))
  have f11 := ((D_b0_pairs.other W5 (Or.inl ne_b0_b3)).other W8 (Or.inr (slot_ne (Or.inr (tw13 hw)) (Or.inl (tw25 hw)) (by decide) (t := .long) (t' := .int) (by decide) (by decide))))
  have f12 := ((D_b0_size.other W5 (Or.inl ne_b0_b3)).other W8 (Or.inr (slot_ne (Or.inr (tw10 hw)) (Or.inl (tw25 hw)) (by decide) (t := .int) (t' := .int) (by decide) (by decide))))
  have f13 := (Ary.other W8 A5 (Ne.symm ne_b0_b3))
  exact r_void B X8 rfl d3_68 (by rw [e8]; exact ⟨rfl, N8, K8, f10, G8, f11, f12, f13⟩) (by decide) (by decide)

theorem pn_mm5_12 : plainFor mn3 = true := plainFor_of_name (show plainName "com/example/stroll/stroll/ExplicitMetric$Weights" = true by first | (simp [plainName, overriddenIn]; done) | decide +kernel)
set_option maxRecDepth 65536 in
set_option maxHeartbeats 40000000 in
theorem mm5_12 (l : Launch) (Z : State) (a0 : Array Value) (hw : ∀ d ∈ tables_1, d.before a0 Z = true) (b0 : Addr) (b1 : Addr) (b2 : Addr) (q3 : Int64) (q4 : Int32) (k_b1 : ClassId) (k_b2 : ClassId) (q5 : Int64) (q6 : Int64) (q7 : Int64) (h0 : Heap) (FZ : OwnF Z Z.heap ) (O0 : Old Z Z.heap.size h0) (ge_b0 : Z.heap.size ≤ b0) (E_b0 : Exa Z h0 b0 "com/example/stroll/stroll/ExplicitMetric$Weights") (D_b0_blocks : Fld Z h0 b0 "com/example/stroll/stroll/ExplicitMetric$Weights" "blocks" "[[J" (.ref b1)) (D_b0_given : Fld Z h0 b0 "com/example/stroll/stroll/ExplicitMetric$Weights" "given" "I" (.int (3 : Int32))) (D_b0_pairs : Fld Z h0 b0 "com/example/stroll/stroll/ExplicitMetric$Weights" "pairs" "J" (.long q3)) (D_b0_size : Fld Z h0 b0 "com/example/stroll/stroll/ExplicitMetric$Weights" "size" "I" (.int q4)) (ge_b1 : Z.heap.size ≤ b1) (A_b1 : Ary Z h0 b1 k_b1 (.array .long) 1 (upd (fun _ => .null) 0 (.ref b2))) (V_b1 : OvrA Z k_b1 .long "[J") (ge_b2 : Z.heap.size ≤ b2) (E_b2 : Exa Z h0 b2 "[J") (A_b2 : Ary Z h0 b2 k_b2 .long 4096 (upd (upd (upd (fun _ => (.long (0 : Int64))) 0 (.long q5)) 1 (.long q6)) 2 (.long q7))) (ne_b0_b1 : b0 ≠ b1) (ne_b0_b2 : b0 ≠ b2) (ne_b1_b2 : b1 ≠ b2) (sd0 : 3 ≤ q3.toInt) (hk1 : ¬ q3 < (4096 : Int64)) :
    OMeets l Z mn3 prog_28_method_4_code 2 (some .long) [] ({ frames := 0, cells := 0, slots := 0, locals := 0 } : Room) #[(.ref b0), (.int (0 : Int32))] h0 (PureQ (some (.long q5)) h0) := by
  refine OMeets.of pn_mm5_12 #[.val (.ref b0), .val (.int (0 : Int32))] (fun m => by first | rfl | (simp [entryFrame, mkF, argsToLocals, Value.category, maxLocals]; done)) ?_
  intro p e s m below meth c s₁ B X0 e0
  have F0 := trivial
  refine s_aloadN B X0 (pc' := 1) d5_0 rfl rfl rfl ?_
  refine s_getF B X0 (pc' := 4) e0 (host := "") (Or.inl (tw17 hw)) Via.refl D_b0_blocks d5_1 rfl (fun T1 X1 e1 => ?_)
  refine s_iloadN B X1 (pc' := 5) d5_4 rfl rfl ?_
  refine s_bipush B X1 (pc' := 7) (v := (12 : Int32)) d5_5 rfl rfl ?_
  refine s_iushr B X1 (pc' := 8) (v := (0 : Int32)) d5_7 (by decide +kernel) rfl ?_
  refine s_ldR B X1 (pc' := 9) (jn := 0) (v := (.ref b2)) e1 A_b1 rfl (by decide) (by decide) (by omega) rfl d5_8 rfl ?_
  refine s_iloadN B X1 (pc' := 10) d5_9 rfl rfl ?_
  refine s_sipush B X1 (pc' := 13) (v := (4095 : Int32)) d5_10 rfl rfl ?_
  refine s_iand B X1 (pc' := 14) (v := (0 : Int32)) d5_13 rfl rfl ?_
  refine s_ldJ B X1 (pc' := 15) (jn := 0) (v := (.long q5)) e1 A_b2 (by decide) (by decide) (by omega) rfl d5_14 rfl ?_
  exact r_long B X1 rfl d5_15 ⟨rfl, rfl, e1⟩ (by decide) (by decide)

theorem pn_mm5_13 : plainFor mn3 = true := plainFor_of_name (show plainName "com/example/stroll/stroll/ExplicitMetric$Weights" = true by first | (simp [plainName, overriddenIn]; done) | decide +kernel)
set_option maxRecDepth 65536 in
set_option maxHeartbeats 40000000 in
theorem mm5_13 (l : Launch) (Z : State) (a0 : Array Value) (hw : ∀ d ∈ tables_1, d.before a0 Z = true) (b0 : Addr) (b1 : Addr) (b2 : Addr) (q3 : Int64) (q4 : Int32) (k_b1 : ClassId) (k_b2 : ClassId) (q5 : Int64) (q6 : Int64) (q7 : Int64) (h0 : Heap) (FZ : OwnF Z Z.heap ) (O0 : Old Z Z.heap.size h0) (ge_b0 : Z.heap.size ≤ b0) (E_b0 : Exa Z h0 b0 "com/example/stroll/stroll/ExplicitMetric$Weights") (D_b0_blocks : Fld Z h0 b0 "com/example/stroll/stroll/ExplicitMetric$Weights" "blocks" "[[J" (.ref b1)) (D_b0_given : Fld Z h0 b0 "com/example/stroll/stroll/ExplicitMetric$Weights" "given" "I" (.int (3 : Int32))) (D_b0_pairs : Fld Z h0 b0 "com/example/stroll/stroll/ExplicitMetric$Weights" "pairs" "J" (.long q3)) (D_b0_size : Fld Z h0 b0 "com/example/stroll/stroll/ExplicitMetric$Weights" "size" "I" (.int q4)) (ge_b1 : Z.heap.size ≤ b1) (A_b1 : Ary Z h0 b1 k_b1 (.array .long) 1 (upd (fun _ => .null) 0 (.ref b2))) (V_b1 : OvrA Z k_b1 .long "[J") (ge_b2 : Z.heap.size ≤ b2) (E_b2 : Exa Z h0 b2 "[J") (A_b2 : Ary Z h0 b2 k_b2 .long 4096 (upd (upd (upd (fun _ => (.long (0 : Int64))) 0 (.long q5)) 1 (.long q6)) 2 (.long q7))) (ne_b0_b1 : b0 ≠ b1) (ne_b0_b2 : b0 ≠ b2) (ne_b1_b2 : b1 ≠ b2) (sd0 : 3 ≤ q3.toInt) (hk1 : ¬ q3 < (4096 : Int64)) :
    OMeets l Z mn3 prog_28_method_4_code 2 (some .long) [] ({ frames := 0, cells := 0, slots := 0, locals := 0 } : Room) #[(.ref b0), (.int (1 : Int32))] h0 (PureQ (some (.long q6)) h0) := by
  refine OMeets.of pn_mm5_13 #[.val (.ref b0), .val (.int (1 : Int32))] (fun m => by first | rfl | (simp [entryFrame, mkF, argsToLocals, Value.category, maxLocals]; done)) ?_
  intro p e s m below meth c s₁ B X0 e0
  have F0 := trivial
  refine s_aloadN B X0 (pc' := 1) d5_0 rfl rfl rfl ?_
  refine s_getF B X0 (pc' := 4) e0 (host := "") (Or.inl (tw17 hw)) Via.refl D_b0_blocks d5_1 rfl (fun T1 X1 e1 => ?_)
  refine s_iloadN B X1 (pc' := 5) d5_4 rfl rfl ?_
  refine s_bipush B X1 (pc' := 7) (v := (12 : Int32)) d5_5 rfl rfl ?_
  refine s_iushr B X1 (pc' := 8) (v := (0 : Int32)) d5_7 (by decide +kernel) rfl ?_
  refine s_ldR B X1 (pc' := 9) (jn := 0) (v := (.ref b2)) e1 A_b1 rfl (by decide) (by decide) (by omega) rfl d5_8 rfl ?_
  refine s_iloadN B X1 (pc' := 10) d5_9 rfl rfl ?_
  refine s_sipush B X1 (pc' := 13) (v := (4095 : Int32)) d5_10 rfl rfl ?_
  refine s_iand B X1 (pc' := 14) (v := (1 : Int32)) d5_13 rfl rfl ?_
  refine s_ldJ B X1 (pc' := 15) (jn := 1) (v := (.long q6)) e1 A_b2 (by decide) (by decide) (by omega) rfl d5_14 rfl ?_
  exact r_long B X1 rfl d5_15 ⟨rfl, rfl, e1⟩ (by decide) (by decide)

theorem pn_mm5_14 : plainFor mn3 = true := plainFor_of_name (show plainName "com/example/stroll/stroll/ExplicitMetric$Weights" = true by first | (simp [plainName, overriddenIn]; done) | decide +kernel)
set_option maxRecDepth 65536 in
set_option maxHeartbeats 40000000 in
theorem mm5_14 (l : Launch) (Z : State) (a0 : Array Value) (hw : ∀ d ∈ tables_1, d.before a0 Z = true) (b0 : Addr) (b1 : Addr) (b2 : Addr) (q3 : Int64) (q4 : Int32) (k_b1 : ClassId) (k_b2 : ClassId) (q5 : Int64) (q6 : Int64) (q7 : Int64) (h0 : Heap) (FZ : OwnF Z Z.heap ) (O0 : Old Z Z.heap.size h0) (ge_b0 : Z.heap.size ≤ b0) (E_b0 : Exa Z h0 b0 "com/example/stroll/stroll/ExplicitMetric$Weights") (D_b0_blocks : Fld Z h0 b0 "com/example/stroll/stroll/ExplicitMetric$Weights" "blocks" "[[J" (.ref b1)) (D_b0_given : Fld Z h0 b0 "com/example/stroll/stroll/ExplicitMetric$Weights" "given" "I" (.int (3 : Int32))) (D_b0_pairs : Fld Z h0 b0 "com/example/stroll/stroll/ExplicitMetric$Weights" "pairs" "J" (.long q3)) (D_b0_size : Fld Z h0 b0 "com/example/stroll/stroll/ExplicitMetric$Weights" "size" "I" (.int q4)) (ge_b1 : Z.heap.size ≤ b1) (A_b1 : Ary Z h0 b1 k_b1 (.array .long) 1 (upd (fun _ => .null) 0 (.ref b2))) (V_b1 : OvrA Z k_b1 .long "[J") (ge_b2 : Z.heap.size ≤ b2) (E_b2 : Exa Z h0 b2 "[J") (A_b2 : Ary Z h0 b2 k_b2 .long 4096 (upd (upd (upd (fun _ => (.long (0 : Int64))) 0 (.long q5)) 1 (.long q6)) 2 (.long q7))) (ne_b0_b1 : b0 ≠ b1) (ne_b0_b2 : b0 ≠ b2) (ne_b1_b2 : b1 ≠ b2) (sd0 : 3 ≤ q3.toInt) (hk1 : ¬ q3 < (4096 : Int64)) :
    OMeets l Z mn3 prog_28_method_4_code 2 (some .long) [] ({ frames := 0, cells := 0, slots := 0, locals := 0 } : Room) #[(.ref b0), (.int (2 : Int32))] h0 (PureQ (some (.long q7)) h0) := by
  refine OMeets.of pn_mm5_14 #[.val (.ref b0), .val (.int (2 : Int32))] (fun m => by first | rfl | (simp [entryFrame, mkF, argsToLocals, Value.category, maxLocals]; done)) ?_
  intro p e s m below meth c s₁ B X0 e0
  have F0 := trivial
  refine s_aloadN B X0 (pc' := 1) d5_0 rfl rfl rfl ?_
  refine s_getF B X0 (pc' := 4) e0 (host := "") (Or.inl (tw17 hw)) Via.refl D_b0_blocks d5_1 rfl (fun T1 X1 e1 => ?_)
  refine s_iloadN B X1 (pc' := 5) d5_4 rfl rfl ?_
  refine s_bipush B X1 (pc' := 7) (v := (12 : Int32)) d5_5 rfl rfl ?_
  refine s_iushr B X1 (pc' := 8) (v := (0 : Int32)) d5_7 (by decide +kernel) rfl ?_
  refine s_ldR B X1 (pc' := 9) (jn := 0) (v := (.ref b2)) e1 A_b1 rfl (by decide) (by decide) (by omega) rfl d5_8 rfl ?_
  refine s_iloadN B X1 (pc' := 10) d5_9 rfl rfl ?_
  refine s_sipush B X1 (pc' := 13) (v := (4095 : Int32)) d5_10 rfl rfl ?_
  refine s_iand B X1 (pc' := 14) (v := (2 : Int32)) d5_13 rfl rfl ?_
  refine s_ldJ B X1 (pc' := 15) (jn := 2) (v := (.long q7)) e1 A_b2 (by decide) (by decide) (by omega) rfl d5_14 rfl ?_
  exact r_long B X1 rfl d5_15 ⟨rfl, rfl, e1⟩ (by decide) (by decide)

theorem pn_mm1_15 : plainFor mn0 = true := plainFor_of_name (show plainName "com/example/stroll/stroll/ExplicitMetric$Weights" = true by first | (simp [plainName, overriddenIn]; done) | decide +kernel)
set_option maxRecDepth 65536 in
set_option maxHeartbeats 40000000 in
theorem mm1_15 (l : Launch) (Z : State) (a0 : Array Value) (hw : ∀ d ∈ tables_1, d.before a0 Z = true) (b0 : Addr) (q1 : Int32) (h0 : Heap) (FZ : OwnF Z Z.heap ) (O0 : Old Z Z.heap.size h0) (ge_b0 : Z.heap.size ≤ b0) (E_b0 : Exa Z h0 b0 "com/example/stroll/stroll/ExplicitMetric$Weights") (D_b0_blocks : Fld Z h0 b0 "com/example/stroll/stroll/ExplicitMetric$Weights" "blocks" "[[J" .null) (D_b0_given : Fld Z h0 b0 "com/example/stroll/stroll/ExplicitMetric$Weights" "given" "I" (.int (0 : Int32))) (D_b0_pairs : Fld Z h0 b0 "com/example/stroll/stroll/ExplicitMetric$Weights" "pairs" "J" (.long (0 : Int64))) (D_b0_size : Fld Z h0 b0 "com/example/stroll/stroll/ExplicitMetric$Weights" "size" "I" (.int (0 : Int32))) (hnb : nbOf (pairsOf q1) = 2) :
    OMeets l Z mn0 prog_28_method_1_code 2 none [] ({ frames := 1, cells := 1, slots := 2, locals := 12 } : Room) #[(.ref b0), (.int q1)] h0 (fun v h L => ∃ o7 : Addr, ∃ kq_o7 : ClassId, v = none ∧ Fr Z.heap.size L ∧ Keep h0 h [b0] ∧ h0.size ≤ o7 ∧ Ary Z h o7 kq_o7 (.array .long) 2 (fun _ => .null) ∧ OvrA Z kq_o7 .long "[J" ∧ Fld Z h b0 "com/example/stroll/stroll/ExplicitMetric$Weights" "blocks" "[[J" (.ref o7) ∧ Fld Z h b0 "com/example/stroll/stroll/ExplicitMetric$Weights" "given" "I" (.int (0 : Int32)) ∧ Fld Z h b0 "com/example/stroll/stroll/ExplicitMetric$Weights" "pairs" "J" (.long (pairsOf q1)) ∧ Fld Z h b0 "com/example/stroll/stroll/ExplicitMetric$Weights" "size" "I" (.int q1)) := by
  refine OMeets.of pn_mm1_15 #[.val (.ref b0), .val (.int q1)] (fun m => by first | rfl | (simp [entryFrame, mkF, argsToLocals, Value.category, maxLocals]; done)) ?_
  intro p e s m below meth c s₁ B X0 e0
  have F0 := trivial
  refine s_aloadN B X0 (pc' := 1) d1_0 rfl rfl rfl ?_
  refine s_initO B X0 (pc' := 4) (W := 0) e0 (tw6 hw) (tw7 hw) (tw8 hw) rfl (by decide) (by decide) rfl d1_1 rfl (fun T1 X1 e1 => ?_)
  refine s_aloadN B X1 (pc' := 5) d1_4 rfl rfl rfl ?_
  refine s_iloadN B X1 (pc' := 6) d1_5 rfl rfl ?_
  refine s_putF B X1 (pc' := 9) (ty := .int) e1 (host := "") (Or.inl (tw9 hw)) Via.refl D_b0_size E_b0 (Or.inr ⟨(tw10 hw), rfl, rfl⟩) (tw1 hw) (by decide) rfl rfl d1_6 rfl (fun T2 h2 X2 e2 W2 => ?_)
  have G2 := D_b0_size.same W2
  have N2 := Fr.snoc X2 (Fr.nil _) ge_b0
  have O2 := (O0).wr W2 ge_b0
  have K2 := ((Keep.refl h0 [b0])).wr W2 (Or.inl (List.mem_of_getElem? (i := 0) rfl))
  show Go p e below _ (T2.setTop (mkF m 9 #[.val (.ref b0), .val (.int q1)] []))
  refine s_aloadN B X2 (pc' := 10) d1_9 rfl rfl rfl ?_
  refine s_iloadN B X2 (pc' := 11) d1_10 rfl rfl ?_
  refine s_i2l B X2 (pc' := 12) (v := q1.toInt64) d1_11 rfl rfl ?_
  refine s_iloadN B X2 (pc' := 13) d1_12 rfl rfl ?_
  refine s_iconst B X2 (pc' := 14) (v := (1 : Int32)) d1_13 rfl rfl ?_
  refine s_isub B X2 (pc' := 15) (v := (q1 - (1 : Int32))) d1_14 rfl rfl ?_
  refine s_i2l B X2 (pc' := 16) (v := (q1 - (1 : Int32)).toInt64) d1_15 rfl rfl ?_
  refine s_lmul B X2 (pc' := 17) (v := (q1.toInt64 * (q1 - (1 : Int32)).toInt64)) d1_16 rfl rfl ?_
  refine s_ldc2 B X2 (pc' := 20) (v := (2 : Int64)) (tw11 hw) d1_17 rfl ?_
  refine s_ldiv B X2 (pc' := 21) (v := (pairsOf q1)) d1_20 (rfl) (by decide) rfl ?_
  have f4 := (D_b0_pairs.other W2 (Or.inr (slot_ne (Or.inr (tw13 hw)) (Or.inr (tw10 hw)) (by decide) (t := .long) (t' := .int) (by decide) (by decide))))
  have f5 := (E_b0.wr W2)
  refine s_putF B X2 (pc' := 24) (ty := .long) e2 (host := "") (Or.inl (tw12 hw)) Via.refl f4 f5 (Or.inr ⟨(tw13 hw), rfl, rfl⟩) (tw1 hw) (by decide) rfl rfl d1_21 rfl (fun T3 h3 X3 e3 W3 => ?_)
  have G3 := f4.same W3
  have N3 := Fr.snoc X3 N2 ge_b0
  have O3 := (O2).wr W3 ge_b0
  have K3 := (K2).wr W3 (Or.inl (List.mem_of_getElem? (i := 0) rfl))
  show Go p e below _ (T3.setTop (mkF m 24 #[.val (.ref b0), .val (.int q1)] []))
  refine s_aloadN B X3 (pc' := 25) d1_24 rfl rfl rfl ?_
  refine s_aloadN B X3 (pc' := 26) d1_25 rfl rfl rfl ?_
  refine s_getF B X3 (pc' := 29) e3 (host := "") (Or.inl (tw12 hw)) Via.refl G3 d1_26 rfl (fun T6 X6 e6 => ?_)
  refine s_ldc2 B X6 (pc' := 32) (v := (4096 : Int64)) (tw14 hw) d1_29 rfl ?_
  refine s_ladd B X6 (pc' := 33) (v := ((pairsOf q1) + (4096 : Int64))) d1_32 rfl rfl ?_
  refine s_lconst B X6 (pc' := 34) (v := (1 : Int64)) d1_33 rfl rfl ?_
  refine s_lsub B X6 (pc' := 35) (v := (((pairsOf q1) + (4096 : Int64)) - (1 : Int64))) d1_34 rfl rfl ?_
  refine s_bipush B X6 (pc' := 37) (v := (12 : Int32)) d1_35 rfl rfl ?_
  refine s_lushr B X6 (pc' := 38) (v := (((((pairsOf q1) + (4096 : Int64)) - (1 : Int64)).toUInt64 >>> ((12 : Int32) &&& 0x3f).toInt64.toUInt64).toInt64)) d1_37 rfl rfl ?_
  refine s_l2i B X6 (pc' := 39) (v := (2 : Int32)) d1_38 (hnb) rfl ?_
  refine s_newRA B X6 (pc' := 42) (N := 2) (cap := 2) (ty := .long) (C := "[J") e6 rfl (tw15 hw) (tw16 hw) (by decide) (by decide) (by decide) (by decide) (by decide) (by decide) d1_39 rfl (fun T7 h7 o7 k7 g7 X7 e7 E7 A7 V7 => ?_)
  have f8 := (f5.wr W3)
  have ne_b0_o7 : b0 ≠ o7 := Nat.ne_of_lt (g7 ▸ f8.lt)
  have ge_o7 : Z.heap.size ≤ o7 := g7 ▸ old_le O3
  have le_o7 : h0.size ≤ o7 := g7 ▸ (K3).1
  have O7 := (O3).ext E7
  have K7 := (K3).ext E7
  show Go p e below _ (T7.setTop (mkF m 42 #[.val (.ref b0), .val (.int q1)] [(.ref o7), (.ref b0)]))
  have f10 := (((D_b0_blocks.other W2 (Or.inr (slot_ne (Or.inr (tw18 hw)) (Or.inr (tw10 hw)) (by decide) (t := (.array (.array .long))) (t' := .int) (by decide) (by decide)))).other W3 (Or.inr (slot_ne (Or.inr (tw18 hw)) (Or.inr (tw13 hw)) (by decide) (t := (.array (.array .long))) (t' := .long) (by decide) (by decide)))).ext E7)
  have f11 := (f8.ext E7)
  refine s_putF B X7 (pc' := 45) (ty := (.array (.array .long))) e7 (host := "") (Or.inl (tw17 hw)) Via.refl f10 f11 (Or.inr ⟨(tw18 hw), rfl, rfl⟩) (tw1 hw) (by decide) rfl rfl d1_42 rfl (fun T9 h9 X9 e9 W9 => ?_)
  have G9 := f10.same W9
  have N9 := Fr.snoc X9 N3 ge_b0
  have O9 := (O7).wr W9 ge_b0
  have K9 := (K7).wr W9 (Or.inl (List.mem_of_getElem? (i := 0) rfl))
  show Go p e below _ (T9.setTop (mkF m 45 #[.val (.ref b0), .val (.int q1)] []))
  have f12 := (Ary.other W9 A7 (Ne.symm ne_b0_o7))
  have f13 := ((((D_b0_given.other W2 (Or.inr (slot_ne (Or.inl (tw25 hw)) (Or.inr (tw10 hw)) (by decide) (t := .int) (t' := .int) (by decide) (by decide)))).other W3 (Or.inr (slot_ne (Or.inl (tw25 hw)) (Or.inr (tw13 hw)) (by decide) (t := .int) (t' := .long) (by decide) (by decide)))).ext E7).other W9 (Or.inr (slot_ne (Or.inl (tw25 hw)) (Or.inr (tw18 hw)) (by decide) (t := .int) (t' := (.array (.array .long))) (by decide) (by decide))))
  have f14 := ((G3.ext E7).other W9 (Or.inr (slot_ne (Or.inr (tw13 hw)) (Or.inr (tw18 hw)) (by decide) (t := .long) (t' := (.array (.array .long))) (by decide) (by decide))))
  have f15 := (((G2.other W3 (Or.inr (slot_ne (Or.inr (tw10 hw)) (Or.inr (tw13 hw)) (by decide) (t := .int) (t' := .long) (by decide) (by decide)))).ext E7).other W9 (Or.inr (slot_ne (Or.inr (tw10 hw)) (Or.inr (tw18 hw)) (by decide) (t := .int) (t' := (.array (.array .long))) (by decide) (by decide))))
  exact r_void B X9 rfl d1_45 (by rw [e9]; exact ⟨o7, k7, rfl, N9, K9, le_o7, f12, V7, G9, f13, f14, f15⟩) (by decide) (by decide)

theorem pn_mm3_16 : plainFor mn2 = true := plainFor_of_name (show plainName "com/example/stroll/stroll/ExplicitMetric$Weights" = true by first | (simp [plainName, overriddenIn]; done) | decide +kernel)
set_option maxRecDepth 65536 in
set_option maxHeartbeats 40000000 in
theorem mm3_16 (l : Launch) (Z : State) (a0 : Array Value) (hw : ∀ d ∈ tables_1, d.before a0 Z = true) (b0 : Addr) (q1 : Int64) (b2 : Addr) (q3 : Int64) (q4 : Int32) (k_b2 : ClassId) (h0 : Heap) (FZ : OwnF Z Z.heap ) (O0 : Old Z Z.heap.size h0) (ge_b0 : Z.heap.size ≤ b0) (E_b0 : Exa Z h0 b0 "com/example/stroll/stroll/ExplicitMetric$Weights") (D_b0_blocks : Fld Z h0 b0 "com/example/stroll/stroll/ExplicitMetric$Weights" "blocks" "[[J" (.ref b2)) (D_b0_given : Fld Z h0 b0 "com/example/stroll/stroll/ExplicitMetric$Weights" "given" "I" (.int (0 : Int32))) (D_b0_pairs : Fld Z h0 b0 "com/example/stroll/stroll/ExplicitMetric$Weights" "pairs" "J" (.long q3)) (D_b0_size : Fld Z h0 b0 "com/example/stroll/stroll/ExplicitMetric$Weights" "size" "I" (.int q4)) (ge_b2 : Z.heap.size ≤ b2) (A_b2 : Ary Z h0 b2 k_b2 (.array .long) 2 (fun _ => .null)) (V_b2 : OvrA Z k_b2 .long "[J") (ne_b0_b2 : b0 ≠ b2) (sd0 : 3 ≤ q3.toInt) (hk1 : q3 < (4096 : Int64)) :
    OMeets l Z mn2 prog_28_method_5_code 4 none [] ({ frames := 1, cells := 1, slots := 4096, locals := 17 } : Room) #[(.ref b0), (.long q1)] h0 (fun v h L => ∃ o6 : Addr, ∃ kq_o6 : ClassId, v = none ∧ Fr Z.heap.size L ∧ Keep h0 h [b0, b2] ∧ h0.size ≤ o6 ∧ Exa Z h o6 "[J" ∧ Ary Z h o6 kq_o6 .long (own_n q3) (upd (fun _ => (.long (0 : Int64))) 0 (.long q1)) ∧ Fld Z h b0 "com/example/stroll/stroll/ExplicitMetric$Weights" "blocks" "[[J" (.ref b2) ∧ Fld Z h b0 "com/example/stroll/stroll/ExplicitMetric$Weights" "given" "I" (.int (1 : Int32)) ∧ Fld Z h b0 "com/example/stroll/stroll/ExplicitMetric$Weights" "pairs" "J" (.long q3) ∧ Fld Z h b0 "com/example/stroll/stroll/ExplicitMetric$Weights" "size" "I" (.int q4) ∧ Ary Z h b2 k_b2 (.array .long) 2 (upd (fun _ => .null) 0 (.ref o6))) := by
  refine OMeets.of pn_mm3_16 #[.val (.ref b0), .val (.long q1), .second, .unset] (fun m => by first | rfl | (simp [entryFrame, mkF, argsToLocals, Value.category, maxLocals]; done)) ?_
  intro p e s m below meth c s₁ B X0 e0
  have F0 := trivial
  refine s_aloadN B X0 (pc' := 1) d3_0 rfl rfl rfl ?_
  refine s_getF B X0 (pc' := 4) e0 (host := "") (Or.inl (tw24 hw)) Via.refl D_b0_given d3_1 rfl (fun T1 X1 e1 => ?_)
  refine s_bipush B X1 (pc' := 6) (v := (12 : Int32)) d3_4 rfl rfl ?_
  refine s_iushr B X1 (pc' := 7) (v := (0 : Int32)) d3_6 (by decide +kernel) rfl ?_
  refine s_istoreN B X1 (pc' := 8) (Ls' := #[.val (.ref b0), .val (.long q1), .second, .val (.int (0 : Int32))]) d3_7 rfl rfl ?_
  refine s_aloadN B X1 (pc' := 9) d3_8 rfl rfl rfl ?_
  refine s_getF B X1 (pc' := 12) e1 (host := "") (Or.inl (tw17 hw)) Via.refl D_b0_blocks d3_9 rfl (fun T2 X2 e2 => ?_)
  refine s_iloadN B X2 (pc' := 13) d3_12 rfl rfl ?_
  refine s_ldR B X2 (pc' := 14) (jn := 0) (v := .null) e2 A_b2 rfl (by decide) (by decide) (by omega) rfl d3_13 rfl ?_
  refine s_ifnonnullN B X2 (pc' := 17) d3_14 rfl ?_
  refine s_aloadN B X2 (pc' := 18) d3_17 rfl rfl rfl ?_
  refine s_getF B X2 (pc' := 21) e2 (host := "") (Or.inl (tw17 hw)) Via.refl D_b0_blocks d3_18 rfl (fun T3 X3 e3 => ?_)
  refine s_iloadN B X3 (pc' := 22) d3_21 rfl rfl ?_
  refine s_ldc2 B X3 (pc' := 25) (v := (4096 : Int64)) (tw14 hw) d3_22 rfl ?_
  refine s_aloadN B X3 (pc' := 26) d3_25 rfl rfl rfl ?_
  refine s_getF B X3 (pc' := 29) e3 (host := "") (Or.inl (tw12 hw)) Via.refl D_b0_pairs d3_26 rfl (fun T4 X4 e4 => ?_)
  refine s_iloadN B X4 (pc' := 30) d3_29 rfl rfl ?_
  refine s_i2l B X4 (pc' := 31) (v := (0 : Int64)) d3_30 rfl rfl ?_
  refine s_bipush B X4 (pc' := 33) (v := (12 : Int32)) d3_31 rfl rfl ?_
  refine s_lshl B X4 (pc' := 34) (v := (0 : Int64)) d3_33 (by decide +kernel) rfl ?_
  refine s_lsub B X4 (pc' := 35) (v := q3) d3_34 (Int64.sub_zero _) rfl ?_
  refine p_static B X4 (y := mn1) (pc' := 38) (argsL := [(.long (4096 : Int64)), (.long q3)]) (under := [(.int (0 : Int32)), (.ref b2)]) (W := 2) e4 (tw26 hw) (tw27 hw) (tw29 hw) (tw28 hw) (by decide) (rm4_0 l Z a0 hw q3  h0 F0 hk1) (lenOf pd_1 rfl) rfl rfl (by decide) (by decide) rfl rfl (by decide) (by decide) rfl d3_35 rfl (fun T5 X5 e5 => ?_)
  show Go p e below _ (T5.setTop (mkF m 38 #[.val (.ref b0), .val (.long q1), .second, .val (.int (0 : Int32))] [(.long q3), (.int (0 : Int32)), (.ref b2)]))
  refine s_l2i B X5 (pc' := 39) (v := q3.toInt32) d3_38 rfl rfl ?_
  have hlq3 := own_len sd0 hk1
  have h3q3 := hlq3.2.2
  refine s_newPE B X5 (pc' := 41) (aty := .long) (N := (own_n q3)) (cap := 4096) (ad := "[J") e5 (by decide) (tw30 hw) hlq3.1 rfl hlq3.2.1 (by decide) (by decide) (by decide) d3_39 rfl (fun T6 h6 o6 k6 g6 X6 e6 E6 A6 Y6 => ?_)
  have ne_b0_o6 : b0 ≠ o6 := Nat.ne_of_lt (g6 ▸ E_b0.lt)
  have ne_b2_o6 : b2 ≠ o6 := Nat.ne_of_lt (g6 ▸ A_b2.lt)
  have ge_o6 : Z.heap.size ≤ o6 := g6 ▸ old_le O0
  have le_o6 : h0.size ≤ o6 := g6 ▸ ((Keep.refl h0 [b0, b2])).1
  replace A6 : Ary Z h6 o6 k6 .long (own_n q3) (fun _ => (.long (0 : Int64))) := A6
  have O6 := (O0).ext E6
  have K6 := ((Keep.refl h0 [b0, b2])).ext E6
  show Go p e below _ (T6.setTop (mkF m 41 #[.val (.ref b0), .val (.long q1), .second, .val (.int (0 : Int32))] [(.ref o6), (.int (0 : Int32)), (.ref b2)]))
  have f8 := (A_b2.ext E6)
  refine s_stR B X6 (pc' := 42) (jn := 0) e6 f8 rfl (Ary.stoA f8 V_b2 (Ins.self Y6)) (by decide) (by decide) (by omega) d3_41 rfl (fun T7 h7 X7 e7 W7 A7 => ?_)
  have N7 := Fr.snoc X7 (Fr.nil _) ge_b2
  have O7 := (O6).wr W7 ge_b2
  have K7 := (K6).wr W7 (Or.inl (List.mem_of_getElem? (i := 1) rfl))
  show Go p e below _ (T7.setTop (mkF m 42 #[.val (.ref b0), .val (.long q1), .second, .val (.int (0 : Int32))] []))
  refine s_aloadN B X7 (pc' := 43) d3_42 rfl rfl rfl ?_
  have f9 := ((D_b0_blocks.ext E6).other W7 (Or.inl ne_b0_b2))
  refine s_getF B X7 (pc' := 46) e7 (host := "") (Or.inl (tw17 hw)) Via.refl f9 d3_43 rfl (fun T10 X10 e10 => ?_)
  refine s_iloadN B X10 (pc' := 47) d3_46 rfl rfl ?_
  refine s_ldR B X10 (pc' := 48) (jn := 0) (v := (.ref o6)) e10 A7 rfl (by decide) (by decide) (by omega) rfl d3_47 rfl ?_
  refine s_aloadN B X10 (pc' := 49) d3_48 rfl rfl rfl ?_
  have f11 := ((D_b0_given.ext E6).other W7 (Or.inl ne_b0_b2))
  refine s_getF B X10 (pc' := 52) e10 (host := "") (Or.inl (tw24 hw)) Via.refl f11 d3_49 rfl (fun T12 X12 e12 => ?_)
  refine s_sipush B X12 (pc' := 55) (v := (4095 : Int32)) d3_52 rfl rfl ?_
  refine s_iand B X12 (pc' := 56) (v := (0 : Int32)) d3_55 rfl rfl ?_
  refine s_lloadN B X12 (pc' := 57) d3_56 rfl rfl ?_
  have f14 := (Ary.other W7 A6 (Ne.symm ne_b2_o6))
  refine s_stJ B X12 (pc' := 58) (jn := 0) e12 f14  (by decide) (by decide) (by omega) d3_57 rfl (fun T13 h13 X13 e13 W13 A13 => ?_)
  have N13 := Fr.snoc X13 N7 ge_o6
  have O13 := (O7).wr W13 ge_o6
  have K13 := (K7).wr W13 (Or.inr le_o6)
  show Go p e below _ (T13.setTop (mkF m 58 #[.val (.ref b0), .val (.long q1), .second, .val (.int (0 : Int32))] []))
  refine s_aloadN B X13 (pc' := 59) d3_58 rfl rfl rfl ?_
  refine s_dup B X13 (pc' := 60) d3_59 rfl rfl ?_
  have f15 := (f11.other W13 (Or.inl ne_b0_o6))
  refine s_getF B X13 (pc' := 63) e13 (host := "") (Or.inl (tw24 hw)) Via.refl f15 d3_60 rfl (fun T16 X16 e16 => ?_)
  refine s_iconst B X16 (pc' := 64) (v := (1 : Int32)) d3_63 rfl rfl ?_
  refine s_iadd B X16 (pc' := 65) (v := (1 : Int32)) d3_64 rfl rfl ?_
  have f18 := (((E_b0.ext E6).wr W7).wr W13)
  refine s_putF B X16 (pc' := 68) (ty := .int) e16 (host := "") (Or.inl (tw24 hw)) Via.refl f15 f18 (Or.inl (tw25 hw)) (tw1 hw) (by decide) rfl rfl d3_65 rfl (fun T17 h17 X17 e17 W17 => ?_)
  have G17 := f15.same W17
  have N17 := Fr.snoc X17 N13 ge_b0
  have O17 := (O13).wr W17 ge_b0
  have K17 := (K13).wr W17 (Or.inl (List.mem_of_getElem? (i := 0) rfl))
  show Go p e below _ (T17.setTop (mkF m 68 #[.val (.ref b0), .val (.long q1), .second, .val (.int (0 : Int32))] []))
  have f19 := (((Y6.wr W7).wr W13).wr W17)
  have f20 := (Ary.other W17 A13 (Ne.symm ne_b0_o6))
  have f21 := ((f9.other W13 (Or.inl ne_b0_o6)).other W17 (Or.inr (slot_ne (Or.inr (tw18 hw)) (Or.inl (tw25 hw)) (by decide) (t := (.array (.array .long))) (t' := .int) (by decide) (by decide))))
  have f22 := ((((D_b0_pairs.ext E6).other W7 (Or.inl ne_b0_b2)).other W13 (Or.inl ne_b0_o6)).other W17 (Or.inr (slot_ne (Or.inr (tw13 hw)) (Or.inl (tw25 hw)) (by decide) (t := .long) (t' := .int) (by decide) (by decide))))
  have f23 := ((((D_b0_size.ext E6).other W7 (Or.inl ne_b0_b2)).other W13 (Or.inl ne_b0_o6)).other W17 (Or.inr (slot_ne (Or.inr (tw10 hw)) (Or.inl (tw25 hw)) (by decide) (t := .int) (t' := .int) (by decide) (by decide))))
  have f24 := (Ary.other W17 (Ary.other W13 A7 ne_b2_o6) (Ne.symm ne_b0_b2))
  exact r_void B X17 rfl d3_68 (by rw [e17]; exact ⟨o6, k6, rfl, N17, K17, le_o6, f19, f20, f21, G17, f22, f23, f24⟩) (by decide) (by decide)

theorem pn_mm5_17 : plainFor mn3 = true := plainFor_of_name (show plainName "com/example/stroll/stroll/ExplicitMetric$Weights" = true by first | (simp [plainName, overriddenIn]; done) | decide +kernel)
set_option maxRecDepth 65536 in
set_option maxHeartbeats 40000000 in
theorem mm5_17 (l : Launch) (Z : State) (a0 : Array Value) (hw : ∀ d ∈ tables_1, d.before a0 Z = true) (b0 : Addr) (b1 : Addr) (b2 : Addr) (q3 : Int64) (q4 : Int32) (k_b1 : ClassId) (k_b2 : ClassId) (q5 : Int64) (n0 : Nat) (h0 : Heap) (FZ : OwnF Z Z.heap ) (O0 : Old Z Z.heap.size h0) (ge_b0 : Z.heap.size ≤ b0) (E_b0 : Exa Z h0 b0 "com/example/stroll/stroll/ExplicitMetric$Weights") (D_b0_blocks : Fld Z h0 b0 "com/example/stroll/stroll/ExplicitMetric$Weights" "blocks" "[[J" (.ref b1)) (D_b0_given : Fld Z h0 b0 "com/example/stroll/stroll/ExplicitMetric$Weights" "given" "I" (.int (1 : Int32))) (D_b0_pairs : Fld Z h0 b0 "com/example/stroll/stroll/ExplicitMetric$Weights" "pairs" "J" (.long q3)) (D_b0_size : Fld Z h0 b0 "com/example/stroll/stroll/ExplicitMetric$Weights" "size" "I" (.int q4)) (ge_b1 : Z.heap.size ≤ b1) (A_b1 : Ary Z h0 b1 k_b1 (.array .long) 2 (upd (fun _ => .null) 0 (.ref b2))) (V_b1 : OvrA Z k_b1 .long "[J") (ge_b2 : Z.heap.size ≤ b2) (E_b2 : Exa Z h0 b2 "[J") (A_b2 : Ary Z h0 b2 k_b2 .long n0 (upd (fun _ => (.long (0 : Int64))) 0 (.long q5))) (ne_b0_b1 : b0 ≠ b1) (ne_b0_b2 : b0 ≠ b2) (ne_b1_b2 : b1 ≠ b2) (sd0 : 3 ≤ q3.toInt) (sd1 : 3 ≤ n0) (hk2 : q3 < (4096 : Int64)) :
    OMeets l Z mn3 prog_28_method_4_code 2 (some .long) [] ({ frames := 0, cells := 0, slots := 0, locals := 0 } : Room) #[(.ref b0), (.int (0 : Int32))] h0 (PureQ (some (.long q5)) h0) := by
  refine OMeets.of pn_mm5_17 #[.val (.ref b0), .val (.int (0 : Int32))] (fun m => by first | rfl | (simp [entryFrame, mkF, argsToLocals, Value.category, maxLocals]; done)) ?_
  intro p e s m below meth c s₁ B X0 e0
  have F0 := trivial
  refine s_aloadN B X0 (pc' := 1) d5_0 rfl rfl rfl ?_
  refine s_getF B X0 (pc' := 4) e0 (host := "") (Or.inl (tw17 hw)) Via.refl D_b0_blocks d5_1 rfl (fun T1 X1 e1 => ?_)
  refine s_iloadN B X1 (pc' := 5) d5_4 rfl rfl ?_
  refine s_bipush B X1 (pc' := 7) (v := (12 : Int32)) d5_5 rfl rfl ?_
  refine s_iushr B X1 (pc' := 8) (v := (0 : Int32)) d5_7 (by decide +kernel) rfl ?_
  refine s_ldR B X1 (pc' := 9) (jn := 0) (v := (.ref b2)) e1 A_b1 rfl (by decide) (by decide) (by omega) rfl d5_8 rfl ?_
  refine s_iloadN B X1 (pc' := 10) d5_9 rfl rfl ?_
  refine s_sipush B X1 (pc' := 13) (v := (4095 : Int32)) d5_10 rfl rfl ?_
  refine s_iand B X1 (pc' := 14) (v := (0 : Int32)) d5_13 rfl rfl ?_
  refine s_ldJ B X1 (pc' := 15) (jn := 0) (v := (.long q5)) e1 A_b2 (by decide) (by decide) (by omega) rfl d5_14 rfl ?_
  exact r_long B X1 rfl d5_15 ⟨rfl, rfl, e1⟩ (by decide) (by decide)

theorem pn_mm3_18 : plainFor mn2 = true := plainFor_of_name (show plainName "com/example/stroll/stroll/ExplicitMetric$Weights" = true by first | (simp [plainName, overriddenIn]; done) | decide +kernel)
set_option maxRecDepth 65536 in
set_option maxHeartbeats 40000000 in
theorem mm3_18 (l : Launch) (Z : State) (a0 : Array Value) (hw : ∀ d ∈ tables_1, d.before a0 Z = true) (b0 : Addr) (q1 : Int64) (b2 : Addr) (b3 : Addr) (q4 : Int64) (q5 : Int32) (k_b2 : ClassId) (k_b3 : ClassId) (q6 : Int64) (n0 : Nat) (h0 : Heap) (FZ : OwnF Z Z.heap ) (O0 : Old Z Z.heap.size h0) (ge_b0 : Z.heap.size ≤ b0) (E_b0 : Exa Z h0 b0 "com/example/stroll/stroll/ExplicitMetric$Weights") (D_b0_blocks : Fld Z h0 b0 "com/example/stroll/stroll/ExplicitMetric$Weights" "blocks" "[[J" (.ref b2)) (D_b0_given : Fld Z h0 b0 "com/example/stroll/stroll/ExplicitMetric$Weights" "given" "I" (.int (1 : Int32))) (D_b0_pairs : Fld Z h0 b0 "com/example/stroll/stroll/ExplicitMetric$Weights" "pairs" "J" (.long q4)) (D_b0_size : Fld Z h0 b0 "com/example/stroll/stroll/ExplicitMetric$Weights" "size" "I" (.int q5)) (ge_b2 : Z.heap.size ≤ b2) (A_b2 : Ary Z h0 b2 k_b2 (.array .long) 2 (upd (fun _ => .null) 0 (.ref b3))) (V_b2 : OvrA Z k_b2 .long "[J") (ge_b3 : Z.heap.size ≤ b3) (E_b3 : Exa Z h0 b3 "[J") (A_b3 : Ary Z h0 b3 k_b3 .long n0 (upd (fun _ => (.long (0 : Int64))) 0 (.long q6))) (ne_b0_b2 : b0 ≠ b2) (ne_b0_b3 : b0 ≠ b3) (ne_b2_b3 : b2 ≠ b3) (sd0 : 3 ≤ q4.toInt) (sd1 : 3 ≤ n0) (hk2 : q4 < (4096 : Int64)) :
    OMeets l Z mn2 prog_28_method_5_code 4 none [] ({ frames := 0, cells := 0, slots := 0, locals := 0 } : Room) #[(.ref b0), (.long q1)] h0 (fun v h L => v = none ∧ Fr Z.heap.size L ∧ Keep h0 h [b0, b3] ∧ Fld Z h b0 "com/example/stroll/stroll/ExplicitMetric$Weights" "blocks" "[[J" (.ref b2) ∧ Fld Z h b0 "com/example/stroll/stroll/ExplicitMetric$Weights" "given" "I" (.int (2 : Int32)) ∧ Fld Z h b0 "com/example/stroll/stroll/ExplicitMetric$Weights" "pairs" "J" (.long q4) ∧ Fld Z h b0 "com/example/stroll/stroll/ExplicitMetric$Weights" "size" "I" (.int q5) ∧ Ary Z h b3 k_b3 .long n0 (upd (upd (fun _ => (.long (0 : Int64))) 0 (.long q6)) 1 (.long q1))) := by
  refine OMeets.of pn_mm3_18 #[.val (.ref b0), .val (.long q1), .second, .unset] (fun m => by first | rfl | (simp [entryFrame, mkF, argsToLocals, Value.category, maxLocals]; done)) ?_
  intro p e s m below meth c s₁ B X0 e0
  have F0 := trivial
  refine s_aloadN B X0 (pc' := 1) d3_0 rfl rfl rfl ?_
  refine s_getF B X0 (pc' := 4) e0 (host := "") (Or.inl (tw24 hw)) Via.refl D_b0_given d3_1 rfl (fun T1 X1 e1 => ?_)
  refine s_bipush B X1 (pc' := 6) (v := (12 : Int32)) d3_4 rfl rfl ?_
  refine s_iushr B X1 (pc' := 7) (v := (0 : Int32)) d3_6 (by decide +kernel) rfl ?_
  refine s_istoreN B X1 (pc' := 8) (Ls' := #[.val (.ref b0), .val (.long q1), .second, .val (.int (0 : Int32))]) d3_7 rfl rfl ?_
  refine s_aloadN B X1 (pc' := 9) d3_8 rfl rfl rfl ?_
  refine s_getF B X1 (pc' := 12) e1 (host := "") (Or.inl (tw17 hw)) Via.refl D_b0_blocks d3_9 rfl (fun T2 X2 e2 => ?_)
  refine s_iloadN B X2 (pc' := 13) d3_12 rfl rfl ?_
  refine s_ldR B X2 (pc' := 14) (jn := 0) (v := (.ref b3)) e2 A_b2 rfl (by decide) (by decide) (by omega) rfl d3_13 rfl ?_
  refine s_ifnonnullY B X2 (pc' := 42) d3_14 (by decide) (by decide) ?_
  refine s_aloadN B X2 (pc' := 43) d3_42 rfl rfl rfl ?_
  refine s_getF B X2 (pc' := 46) e2 (host := "") (Or.inl (tw17 hw)) Via.refl D_b0_blocks d3_43 rfl (fun T3 X3 e3 => ?_)
  refine s_iloadN B X3 (pc' := 47) d3_46 rfl rfl ?_
  refine s_ldR B X3 (pc' := 48) (jn := 0) (v := (.ref b3)) e3 A_b2 rfl (by decide) (by decide) (by omega) rfl d3_47 rfl ?_
  refine s_aloadN B X3 (pc' := 49) d3_48 rfl rfl rfl ?_
  refine s_getF B X3 (pc' := 52) e3 (host := "") (Or.inl (tw24 hw)) Via.refl D_b0_given d3_49 rfl (fun T4 X4 e4 => ?_)
  refine s_sipush B X4 (pc' := 55) (v := (4095 : Int32)) d3_52 rfl rfl ?_
  refine s_iand B X4 (pc' := 56) (v := (1 : Int32)) d3_55 rfl rfl ?_
  refine s_lloadN B X4 (pc' := 57) d3_56 rfl rfl ?_
  refine s_stJ B X4 (pc' := 58) (jn := 1) e4 A_b3  (by decide) (by decide) (by omega) d3_57 rfl (fun T5 h5 X5 e5 W5 A5 => ?_)
  have N5 := Fr.snoc X5 (Fr.nil _) ge_b3
  have O5 := (O0).wr W5 ge_b3
  have K5 := ((Keep.refl h0 [b0, b3])).wr W5 (Or.inl (List.mem_of_getElem? (i := 1) rfl))
  show Go p e below _ (T5.setTop (mkF m 58 #[.val (.ref b0), .val (.long q1), .second, .val (.int (0 : Int32))] []))
  refine s_aloadN B X5 (pc' := 59) d3_58 rfl rfl rfl ?_
  refine s_dup B X5 (pc' := 60) d3_59 rfl rfl ?_
  have f6 := (D_b0_given.other W5 (Or.inl ne_b0_b3))
  refine s_getF B X5 (pc' := 63) e5 (host := "") (Or.inl (tw24 hw)) Via.refl f6 d3_60 rfl (fun T7 X7 e7 => ?_)
  refine s_iconst B X7 (pc' := 64) (v := (1 : Int32)) d3_63 rfl rfl ?_
  refine s_iadd B X7 (pc' := 65) (v := (2 : Int32)) d3_64 rfl rfl ?_
  have f9 := (E_b0.wr W5)
  refine s_putF B X7 (pc' := 68) (ty := .int) e7 (host := "") (Or.inl (tw24 hw)) Via.refl f6 f9 (Or.inl (tw25 hw)) (tw1 hw) (by decide) rfl rfl d3_65 rfl (fun T8 h8 X8 e8 W8 => ?_)
  have G8 := f6.same W8
  have N8 := Fr.snoc X8 N5 ge_b0
  have O8 := (O5).wr W8 ge_b0
  have K8 := (K5).wr W8 (Or.inl (List.mem_of_getElem? (i := 0) rfl))
  show Go p e below _ (T8.setTop (mkF m 68 #[.val (.ref b0), .val (.long q1), .second, .val (.int (0 : Int32))] []))
  have f10 := ((D_b0_blocks.other W5 (Or.inl ne_b0_b3)).other W8 (Or.inr (slot_ne (Or.inr (tw18 hw)) (Or.inl (tw25 hw)) (by decide) (t := (.array (.array .long))) (t' := .int) (by decide) (by decide))))
  have f11 := ((D_b0_pairs.other W5 (Or.inl ne_b0_b3)).other W8 (Or.inr (slot_ne (Or.inr (tw13 hw)) (Or.inl (tw25 hw)) (by decide) (t := .long) (t' := .int) (by decide) (by decide))))
  have f12 := ((D_b0_size.other W5 (Or.inl ne_b0_b3)).other W8 (Or.inr (slot_ne (Or.inr (tw10 hw)) (Or.inl (tw25 hw)) (by decide) (t := .int) (t' := .int) (by decide) (by decide))))
  have f13 := (Ary.other W8 A5 (Ne.symm ne_b0_b3))
  exact r_void B X8 rfl d3_68 (by rw [e8]; exact ⟨rfl, N8, K8, f10, G8, f11, f12, f13⟩) (by decide) (by decide)

theorem pn_mm3_19 : plainFor mn2 = true := plainFor_of_name (show plainName "com/example/stroll/stroll/ExplicitMetric$Weights" = true by first | (simp [plainName, overriddenIn]; done) | decide +kernel)
set_option maxRecDepth 65536 in
set_option maxHeartbeats 40000000 in
theorem mm3_19 (l : Launch) (Z : State) (a0 : Array Value) (hw : ∀ d ∈ tables_1, d.before a0 Z = true) (b0 : Addr) (q1 : Int64) (b2 : Addr) (b3 : Addr) (q4 : Int64) (q5 : Int32) (k_b2 : ClassId) (k_b3 : ClassId) (q6 : Int64) (q7 : Int64) (n0 : Nat) (h0 : Heap) (FZ : OwnF Z Z.heap ) (O0 : Old Z Z.heap.size h0) (ge_b0 : Z.heap.size ≤ b0) (E_b0 : Exa Z h0 b0 "com/example/stroll/stroll/ExplicitMetric$Weights") (D_b0_blocks : Fld Z h0 b0 "com/example/stroll/stroll/ExplicitMetric$Weights" "blocks" "[[J" (.ref b2)) (D_b0_given : Fld Z h0 b0 "com/example/stroll/stroll/ExplicitMetric$Weights" "given" "I" (.int (2 : Int32))) (D_b0_pairs : Fld Z h0 b0 "com/example/stroll/stroll/ExplicitMetric$Weights" "pairs" "J" (.long q4)) (D_b0_size : Fld Z h0 b0 "com/example/stroll/stroll/ExplicitMetric$Weights" "size" "I" (.int q5)) (ge_b2 : Z.heap.size ≤ b2) (A_b2 : Ary Z h0 b2 k_b2 (.array .long) 2 (upd (fun _ => .null) 0 (.ref b3))) (V_b2 : OvrA Z k_b2 .long "[J") (ge_b3 : Z.heap.size ≤ b3) (E_b3 : Exa Z h0 b3 "[J") (A_b3 : Ary Z h0 b3 k_b3 .long n0 (upd (upd (fun _ => (.long (0 : Int64))) 0 (.long q6)) 1 (.long q7))) (ne_b0_b2 : b0 ≠ b2) (ne_b0_b3 : b0 ≠ b3) (ne_b2_b3 : b2 ≠ b3) (sd0 : 3 ≤ q4.toInt) (sd1 : 3 ≤ n0) (hk2 : q4 < (4096 : Int64)) :
    OMeets l Z mn2 prog_28_method_5_code 4 none [] ({ frames := 0, cells := 0, slots := 0, locals := 0 } : Room) #[(.ref b0), (.long q1)] h0 (fun v h L => v = none ∧ Fr Z.heap.size L ∧ Keep h0 h [b0, b3] ∧ Fld Z h b0 "com/example/stroll/stroll/ExplicitMetric$Weights" "blocks" "[[J" (.ref b2) ∧ Fld Z h b0 "com/example/stroll/stroll/ExplicitMetric$Weights" "given" "I" (.int (3 : Int32)) ∧ Fld Z h b0 "com/example/stroll/stroll/ExplicitMetric$Weights" "pairs" "J" (.long q4) ∧ Fld Z h b0 "com/example/stroll/stroll/ExplicitMetric$Weights" "size" "I" (.int q5) ∧ Ary Z h b3 k_b3 .long n0 (upd (upd (upd (fun _ => (.long (0 : Int64))) 0 (.long q6)) 1 (.long q7)) 2 (.long q1))) := by
  refine OMeets.of pn_mm3_19 #[.val (.ref b0), .val (.long q1), .second, .unset] (fun m => by first | rfl | (simp [entryFrame, mkF, argsToLocals, Value.category, maxLocals]; done)) ?_
  intro p e s m below meth c s₁ B X0 e0
  have F0 := trivial
  refine s_aloadN B X0 (pc' := 1) d3_0 rfl rfl rfl ?_
  refine s_getF B X0 (pc' := 4) e0 (host := "") (Or.inl (tw24 hw)) Via.refl D_b0_given d3_1 rfl (fun T1 X1 e1 => ?_)
  refine s_bipush B X1 (pc' := 6) (v := (12 : Int32)) d3_4 rfl rfl ?_
  refine s_iushr B X1 (pc' := 7) (v := (0 : Int32)) d3_6 (by decide +kernel) rfl ?_
  refine s_istoreN B X1 (pc' := 8) (Ls' := #[.val (.ref b0), .val (.long q1), .second, .val (.int (0 : Int32))]) d3_7 rfl rfl ?_
  refine s_aloadN B X1 (pc' := 9) d3_8 rfl rfl rfl ?_
  refine s_getF B X1 (pc' := 12) e1 (host := "") (Or.inl (tw17 hw)) Via.refl D_b0_blocks d3_9 rfl (fun T2 X2 e2 => ?_)
  refine s_iloadN B X2 (pc' := 13) d3_12 rfl rfl ?_
  refine s_ldR B X2 (pc' := 14) (jn := 0) (v := (.ref b3)) e2 A_b2 rfl (by decide) (by decide) (by omega) rfl d3_13 rfl ?_
  refine s_ifnonnullY B X2 (pc' := 42) d3_14 (by decide) (by decide) ?_
  refine s_aloadN B X2 (pc' := 43) d3_42 rfl rfl rfl ?_
  refine s_getF B X2 (pc' := 46) e2 (host := "") (Or.inl (tw17 hw)) Via.refl D_b0_blocks d3_43 rfl (fun T3 X3 e3 => ?_)
  refine s_iloadN B X3 (pc' := 47) d3_46 rfl rfl ?_
  refine s_ldR B X3 (pc' := 48) (jn := 0) (v := (.ref b3)) e3 A_b2 rfl (by decide) (by decide) (by omega) rfl d3_47 rfl ?_
  refine s_aloadN B X3 (pc' := 49) d3_48 rfl rfl rfl ?_
  refine s_getF B X3 (pc' := 52) e3 (host := "") (Or.inl (tw24 hw)) Via.refl D_b0_given d3_49 rfl (fun T4 X4 e4 => ?_)
  refine s_sipush B X4 (pc' := 55) (v := (4095 : Int32)) d3_52 rfl rfl ?_
  refine s_iand B X4 (pc' := 56) (v := (2 : Int32)) d3_55 rfl rfl ?_
  refine s_lloadN B X4 (pc' := 57) d3_56 rfl rfl ?_
  refine s_stJ B X4 (pc' := 58) (jn := 2) e4 A_b3  (by decide) (by decide) (by omega) d3_57 rfl (fun T5 h5 X5 e5 W5 A5 => ?_)
  have N5 := Fr.snoc X5 (Fr.nil _) ge_b3
  have O5 := (O0).wr W5 ge_b3
  have K5 := ((Keep.refl h0 [b0, b3])).wr W5 (Or.inl (List.mem_of_getElem? (i := 1) rfl))
  show Go p e below _ (T5.setTop (mkF m 58 #[.val (.ref b0), .val (.long q1), .second, .val (.int (0 : Int32))] []))
  refine s_aloadN B X5 (pc' := 59) d3_58 rfl rfl rfl ?_
  refine s_dup B X5 (pc' := 60) d3_59 rfl rfl ?_
  have f6 := (D_b0_given.other W5 (Or.inl ne_b0_b3))
  refine s_getF B X5 (pc' := 63) e5 (host := "") (Or.inl (tw24 hw)) Via.refl f6 d3_60 rfl (fun T7 X7 e7 => ?_)
  refine s_iconst B X7 (pc' := 64) (v := (1 : Int32)) d3_63 rfl rfl ?_
  refine s_iadd B X7 (pc' := 65) (v := (3 : Int32)) d3_64 rfl rfl ?_
  have f9 := (E_b0.wr W5)
  refine s_putF B X7 (pc' := 68) (ty := .int) e7 (host := "") (Or.inl (tw24 hw)) Via.refl f6 f9 (Or.inl (tw25 hw)) (tw1 hw) (by decide) rfl rfl d3_65 rfl (fun T8 h8 X8 e8 W8 => ?_)
  have G8 := f6.same W8
  have N8 := Fr.snoc X8 N5 ge_b0
  have O8 := (O5).wr W8 ge_b0
  have K8 := (K5).wr W8 (Or.inl (List.mem_of_getElem? (i := 0) rfl))
  show Go p e below _ (T8.setTop (mkF m 68 #[.val (.ref b0), .val (.long q1), .second, .val (.int (0 : Int32))] []))
  have f10 := ((D_b0_blocks.other W5 (Or.inl ne_b0_b3)).other W8 (Or.inr (slot_ne (Or.inr (tw18 hw)) (Or.inl (tw25 hw)) (by decide) (t := (.array (.array .long))) (t' := .int) (by decide) (by decide))))
  have f11 := ((D_b0_pairs.other W5 (Or.inl ne_b0_b3)).other W8 (Or.inr (slot_ne (Or.inr (tw13 hw)) (Or.inl (tw25 hw)) (by decide) (t := .long) (t' := .int) (by decide) (by decide))))
  have f12 := ((D_b0_size.other W5 (Or.inl ne_b0_b3)).other W8 (Or.inr (slot_ne (Or.inr (tw10 hw)) (Or.inl (tw25 hw)) (by decide) (t := .int) (t' := .int) (by decide) (by decide))))
  have f13 := (Ary.other W8 A5 (Ne.symm ne_b0_b3))
  exact r_void B X8 rfl d3_68 (by rw [e8]; exact ⟨rfl, N8, K8, f10, G8, f11, f12, f13⟩) (by decide) (by decide)

theorem pn_mm5_20 : plainFor mn3 = true := plainFor_of_name (show plainName "com/example/stroll/stroll/ExplicitMetric$Weights" = true by first | (simp [plainName, overriddenIn]; done) | decide +kernel)
set_option maxRecDepth 65536 in
set_option maxHeartbeats 40000000 in
theorem mm5_20 (l : Launch) (Z : State) (a0 : Array Value) (hw : ∀ d ∈ tables_1, d.before a0 Z = true) (b0 : Addr) (b1 : Addr) (b2 : Addr) (q3 : Int64) (q4 : Int32) (k_b1 : ClassId) (k_b2 : ClassId) (q5 : Int64) (q6 : Int64) (q7 : Int64) (n0 : Nat) (h0 : Heap) (FZ : OwnF Z Z.heap ) (O0 : Old Z Z.heap.size h0) (ge_b0 : Z.heap.size ≤ b0) (E_b0 : Exa Z h0 b0 "com/example/stroll/stroll/ExplicitMetric$Weights") (D_b0_blocks : Fld Z h0 b0 "com/example/stroll/stroll/ExplicitMetric$Weights" "blocks" "[[J" (.ref b1)) (D_b0_given : Fld Z h0 b0 "com/example/stroll/stroll/ExplicitMetric$Weights" "given" "I" (.int (3 : Int32))) (D_b0_pairs : Fld Z h0 b0 "com/example/stroll/stroll/ExplicitMetric$Weights" "pairs" "J" (.long q3)) (D_b0_size : Fld Z h0 b0 "com/example/stroll/stroll/ExplicitMetric$Weights" "size" "I" (.int q4)) (ge_b1 : Z.heap.size ≤ b1) (A_b1 : Ary Z h0 b1 k_b1 (.array .long) 2 (upd (fun _ => .null) 0 (.ref b2))) (V_b1 : OvrA Z k_b1 .long "[J") (ge_b2 : Z.heap.size ≤ b2) (E_b2 : Exa Z h0 b2 "[J") (A_b2 : Ary Z h0 b2 k_b2 .long n0 (upd (upd (upd (fun _ => (.long (0 : Int64))) 0 (.long q5)) 1 (.long q6)) 2 (.long q7))) (ne_b0_b1 : b0 ≠ b1) (ne_b0_b2 : b0 ≠ b2) (ne_b1_b2 : b1 ≠ b2) (sd0 : 3 ≤ q3.toInt) (sd1 : 3 ≤ n0) (hk2 : q3 < (4096 : Int64)) :
    OMeets l Z mn3 prog_28_method_4_code 2 (some .long) [] ({ frames := 0, cells := 0, slots := 0, locals := 0 } : Room) #[(.ref b0), (.int (0 : Int32))] h0 (PureQ (some (.long q5)) h0) := by
  refine OMeets.of pn_mm5_20 #[.val (.ref b0), .val (.int (0 : Int32))] (fun m => by first | rfl | (simp [entryFrame, mkF, argsToLocals, Value.category, maxLocals]; done)) ?_
  intro p e s m below meth c s₁ B X0 e0
  have F0 := trivial
  refine s_aloadN B X0 (pc' := 1) d5_0 rfl rfl rfl ?_
  refine s_getF B X0 (pc' := 4) e0 (host := "") (Or.inl (tw17 hw)) Via.refl D_b0_blocks d5_1 rfl (fun T1 X1 e1 => ?_)
  refine s_iloadN B X1 (pc' := 5) d5_4 rfl rfl ?_
  refine s_bipush B X1 (pc' := 7) (v := (12 : Int32)) d5_5 rfl rfl ?_
  refine s_iushr B X1 (pc' := 8) (v := (0 : Int32)) d5_7 (by decide +kernel) rfl ?_
  refine s_ldR B X1 (pc' := 9) (jn := 0) (v := (.ref b2)) e1 A_b1 rfl (by decide) (by decide) (by omega) rfl d5_8 rfl ?_
  refine s_iloadN B X1 (pc' := 10) d5_9 rfl rfl ?_
  refine s_sipush B X1 (pc' := 13) (v := (4095 : Int32)) d5_10 rfl rfl ?_
  refine s_iand B X1 (pc' := 14) (v := (0 : Int32)) d5_13 rfl rfl ?_
  refine s_ldJ B X1 (pc' := 15) (jn := 0) (v := (.long q5)) e1 A_b2 (by decide) (by decide) (by omega) rfl d5_14 rfl ?_
  exact r_long B X1 rfl d5_15 ⟨rfl, rfl, e1⟩ (by decide) (by decide)

theorem pn_mm5_21 : plainFor mn3 = true := plainFor_of_name (show plainName "com/example/stroll/stroll/ExplicitMetric$Weights" = true by first | (simp [plainName, overriddenIn]; done) | decide +kernel)
set_option maxRecDepth 65536 in
set_option maxHeartbeats 40000000 in
theorem mm5_21 (l : Launch) (Z : State) (a0 : Array Value) (hw : ∀ d ∈ tables_1, d.before a0 Z = true) (b0 : Addr) (b1 : Addr) (b2 : Addr) (q3 : Int64) (q4 : Int32) (k_b1 : ClassId) (k_b2 : ClassId) (q5 : Int64) (q6 : Int64) (q7 : Int64) (n0 : Nat) (h0 : Heap) (FZ : OwnF Z Z.heap ) (O0 : Old Z Z.heap.size h0) (ge_b0 : Z.heap.size ≤ b0) (E_b0 : Exa Z h0 b0 "com/example/stroll/stroll/ExplicitMetric$Weights") (D_b0_blocks : Fld Z h0 b0 "com/example/stroll/stroll/ExplicitMetric$Weights" "blocks" "[[J" (.ref b1)) (D_b0_given : Fld Z h0 b0 "com/example/stroll/stroll/ExplicitMetric$Weights" "given" "I" (.int (3 : Int32))) (D_b0_pairs : Fld Z h0 b0 "com/example/stroll/stroll/ExplicitMetric$Weights" "pairs" "J" (.long q3)) (D_b0_size : Fld Z h0 b0 "com/example/stroll/stroll/ExplicitMetric$Weights" "size" "I" (.int q4)) (ge_b1 : Z.heap.size ≤ b1) (A_b1 : Ary Z h0 b1 k_b1 (.array .long) 2 (upd (fun _ => .null) 0 (.ref b2))) (V_b1 : OvrA Z k_b1 .long "[J") (ge_b2 : Z.heap.size ≤ b2) (E_b2 : Exa Z h0 b2 "[J") (A_b2 : Ary Z h0 b2 k_b2 .long n0 (upd (upd (upd (fun _ => (.long (0 : Int64))) 0 (.long q5)) 1 (.long q6)) 2 (.long q7))) (ne_b0_b1 : b0 ≠ b1) (ne_b0_b2 : b0 ≠ b2) (ne_b1_b2 : b1 ≠ b2) (sd0 : 3 ≤ q3.toInt) (sd1 : 3 ≤ n0) (hk2 : q3 < (4096 : Int64)) :
    OMeets l Z mn3 prog_28_method_4_code 2 (some .long) [] ({ frames := 0, cells := 0, slots := 0, locals := 0 } : Room) #[(.ref b0), (.int (1 : Int32))] h0 (PureQ (some (.long q6)) h0) := by
  refine OMeets.of pn_mm5_21 #[.val (.ref b0), .val (.int (1 : Int32))] (fun m => by first | rfl | (simp [entryFrame, mkF, argsToLocals, Value.category, maxLocals]; done)) ?_
  intro p e s m below meth c s₁ B X0 e0
  have F0 := trivial
  refine s_aloadN B X0 (pc' := 1) d5_0 rfl rfl rfl ?_
  refine s_getF B X0 (pc' := 4) e0 (host := "") (Or.inl (tw17 hw)) Via.refl D_b0_blocks d5_1 rfl (fun T1 X1 e1 => ?_)
  refine s_iloadN B X1 (pc' := 5) d5_4 rfl rfl ?_
  refine s_bipush B X1 (pc' := 7) (v := (12 : Int32)) d5_5 rfl rfl ?_
  refine s_iushr B X1 (pc' := 8) (v := (0 : Int32)) d5_7 (by decide +kernel) rfl ?_
  refine s_ldR B X1 (pc' := 9) (jn := 0) (v := (.ref b2)) e1 A_b1 rfl (by decide) (by decide) (by omega) rfl d5_8 rfl ?_
  refine s_iloadN B X1 (pc' := 10) d5_9 rfl rfl ?_
  refine s_sipush B X1 (pc' := 13) (v := (4095 : Int32)) d5_10 rfl rfl ?_
  refine s_iand B X1 (pc' := 14) (v := (1 : Int32)) d5_13 rfl rfl ?_
  refine s_ldJ B X1 (pc' := 15) (jn := 1) (v := (.long q6)) e1 A_b2 (by decide) (by decide) (by omega) rfl d5_14 rfl ?_
  exact r_long B X1 rfl d5_15 ⟨rfl, rfl, e1⟩ (by decide) (by decide)

theorem pn_mm5_22 : plainFor mn3 = true := plainFor_of_name (show plainName "com/example/stroll/stroll/ExplicitMetric$Weights" = true by first | (simp [plainName, overriddenIn]; done) | decide +kernel)
set_option maxRecDepth 65536 in
set_option maxHeartbeats 40000000 in
theorem mm5_22 (l : Launch) (Z : State) (a0 : Array Value) (hw : ∀ d ∈ tables_1, d.before a0 Z = true) (b0 : Addr) (b1 : Addr) (b2 : Addr) (q3 : Int64) (q4 : Int32) (k_b1 : ClassId) (k_b2 : ClassId) (q5 : Int64) (q6 : Int64) (q7 : Int64) (n0 : Nat) (h0 : Heap) (FZ : OwnF Z Z.heap ) (O0 : Old Z Z.heap.size h0) (ge_b0 : Z.heap.size ≤ b0) (E_b0 : Exa Z h0 b0 "com/example/stroll/stroll/ExplicitMetric$Weights") (D_b0_blocks : Fld Z h0 b0 "com/example/stroll/stroll/ExplicitMetric$Weights" "blocks" "[[J" (.ref b1)) (D_b0_given : Fld Z h0 b0 "com/example/stroll/stroll/ExplicitMetric$Weights" "given" "I" (.int (3 : Int32))) (D_b0_pairs : Fld Z h0 b0 "com/example/stroll/stroll/ExplicitMetric$Weights" "pairs" "J" (.long q3)) (D_b0_size : Fld Z h0 b0 "com/example/stroll/stroll/ExplicitMetric$Weights" "size" "I" (.int q4)) (ge_b1 : Z.heap.size ≤ b1) (A_b1 : Ary Z h0 b1 k_b1 (.array .long) 2 (upd (fun _ => .null) 0 (.ref b2))) (V_b1 : OvrA Z k_b1 .long "[J") (ge_b2 : Z.heap.size ≤ b2) (E_b2 : Exa Z h0 b2 "[J") (A_b2 : Ary Z h0 b2 k_b2 .long n0 (upd (upd (upd (fun _ => (.long (0 : Int64))) 0 (.long q5)) 1 (.long q6)) 2 (.long q7))) (ne_b0_b1 : b0 ≠ b1) (ne_b0_b2 : b0 ≠ b2) (ne_b1_b2 : b1 ≠ b2) (sd0 : 3 ≤ q3.toInt) (sd1 : 3 ≤ n0) (hk2 : q3 < (4096 : Int64)) :
    OMeets l Z mn3 prog_28_method_4_code 2 (some .long) [] ({ frames := 0, cells := 0, slots := 0, locals := 0 } : Room) #[(.ref b0), (.int (2 : Int32))] h0 (PureQ (some (.long q7)) h0) := by
  refine OMeets.of pn_mm5_22 #[.val (.ref b0), .val (.int (2 : Int32))] (fun m => by first | rfl | (simp [entryFrame, mkF, argsToLocals, Value.category, maxLocals]; done)) ?_
  intro p e s m below meth c s₁ B X0 e0
  have F0 := trivial
  refine s_aloadN B X0 (pc' := 1) d5_0 rfl rfl rfl ?_
  refine s_getF B X0 (pc' := 4) e0 (host := "") (Or.inl (tw17 hw)) Via.refl D_b0_blocks d5_1 rfl (fun T1 X1 e1 => ?_)
  refine s_iloadN B X1 (pc' := 5) d5_4 rfl rfl ?_
  refine s_bipush B X1 (pc' := 7) (v := (12 : Int32)) d5_5 rfl rfl ?_
  refine s_iushr B X1 (pc' := 8) (v := (0 : Int32)) d5_7 (by decide +kernel) rfl ?_
  refine s_ldR B X1 (pc' := 9) (jn := 0) (v := (.ref b2)) e1 A_b1 rfl (by decide) (by decide) (by omega) rfl d5_8 rfl ?_
  refine s_iloadN B X1 (pc' := 10) d5_9 rfl rfl ?_
  refine s_sipush B X1 (pc' := 13) (v := (4095 : Int32)) d5_10 rfl rfl ?_
  refine s_iand B X1 (pc' := 14) (v := (2 : Int32)) d5_13 rfl rfl ?_
  refine s_ldJ B X1 (pc' := 15) (jn := 2) (v := (.long q7)) e1 A_b2 (by decide) (by decide) (by omega) rfl d5_14 rfl ?_
  exact r_long B X1 rfl d5_15 ⟨rfl, rfl, e1⟩ (by decide) (by decide)

theorem pn_mm3_23 : plainFor mn2 = true := plainFor_of_name (show plainName "com/example/stroll/stroll/ExplicitMetric$Weights" = true by first | (simp [plainName, overriddenIn]; done) | decide +kernel)
set_option maxRecDepth 65536 in
set_option maxHeartbeats 40000000 in
theorem mm3_23 (l : Launch) (Z : State) (a0 : Array Value) (hw : ∀ d ∈ tables_1, d.before a0 Z = true) (b0 : Addr) (q1 : Int64) (b2 : Addr) (q3 : Int64) (q4 : Int32) (k_b2 : ClassId) (h0 : Heap) (FZ : OwnF Z Z.heap ) (O0 : Old Z Z.heap.size h0) (ge_b0 : Z.heap.size ≤ b0) (E_b0 : Exa Z h0 b0 "com/example/stroll/stroll/ExplicitMetric$Weights") (D_b0_blocks : Fld Z h0 b0 "com/example/stroll/stroll/ExplicitMetric$Weights" "blocks" "[[J" (.ref b2)) (D_b0_given : Fld Z h0 b0 "com/example/stroll/stroll/ExplicitMetric$Weights" "given" "I" (.int (0 : Int32))) (D_b0_pairs : Fld Z h0 b0 "com/example/stroll/stroll/ExplicitMetric$Weights" "pairs" "J" (.long q3)) (D_b0_size : Fld Z h0 b0 "com/example/stroll/stroll/ExplicitMetric$Weights" "size" "I" (.int q4)) (ge_b2 : Z.heap.size ≤ b2) (A_b2 : Ary Z h0 b2 k_b2 (.array .long) 2 (fun _ => .null)) (V_b2 : OvrA Z k_b2 .long "[J") (ne_b0_b2 : b0 ≠ b2) (sd0 : 3 ≤ q3.toInt) (hk1 : ¬ q3 < (4096 : Int64)) :
    OMeets l Z mn2 prog_28_method_5_code 4 none [] ({ frames := 1, cells := 1, slots := 4096, locals := 17 } : Room) #[(.ref b0), (.long q1)] h0 (fun v h L => ∃ o6 : Addr, ∃ kq_o6 : ClassId, v = none ∧ Fr Z.heap.size L ∧ Keep h0 h [b0, b2] ∧ h0.size ≤ o6 ∧ Exa Z h o6 "[J" ∧ Ary Z h o6 kq_o6 .long 4096 (upd (fun _ => (.long (0 : Int64))) 0 (.long q1)) ∧ Fld Z h b0 "com/example/stroll/stroll/ExplicitMetric$Weights" "blocks" "[[J" (.ref b2) ∧ Fld Z h b0 "com/example/stroll/stroll/ExplicitMetric$Weights" "given" "I" (.int (1 : Int32)) ∧ Fld Z h b0 "com/example/stroll/stroll/ExplicitMetric$Weights" "pairs" "J" (.long q3) ∧ Fld Z h b0 "com/example/stroll/stroll/ExplicitMetric$Weights" "size" "I" (.int q4) ∧ Ary Z h b2 k_b2 (.array .long) 2 (upd (fun _ => .null) 0 (.ref o6))) := by
  refine OMeets.of pn_mm3_23 #[.val (.ref b0), .val (.long q1), .second, .unset] (fun m => by first | rfl | (simp [entryFrame, mkF, argsToLocals, Value.category, maxLocals]; done)) ?_
  intro p e s m below meth c s₁ B X0 e0
  have F0 := trivial
  refine s_aloadN B X0 (pc' := 1) d3_0 rfl rfl rfl ?_
  refine s_getF B X0 (pc' := 4) e0 (host := "") (Or.inl (tw24 hw)) Via.refl D_b0_given d3_1 rfl (fun T1 X1 e1 => ?_)
  refine s_bipush B X1 (pc' := 6) (v := (12 : Int32)) d3_4 rfl rfl ?_
  refine s_iushr B X1 (pc' := 7) (v := (0 : Int32)) d3_6 (by decide +kernel) rfl ?_
  refine s_istoreN B X1 (pc' := 8) (Ls' := #[.val (.ref b0), .val (.long q1), .second, .val (.int (0 : Int32))]) d3_7 rfl rfl ?_
  refine s_aloadN B X1 (pc' := 9) d3_8 rfl rfl rfl ?_
  refine s_getF B X1 (pc' := 12) e1 (host := "") (Or.inl (tw17 hw)) Via.refl D_b0_blocks d3_9 rfl (fun T2 X2 e2 => ?_)
  refine s_iloadN B X2 (pc' := 13) d3_12 rfl rfl ?_
  refine s_ldR B X2 (pc' := 14) (jn := 0) (v := .null) e2 A_b2 rfl (by decide) (by decide) (by omega) rfl d3_13 rfl ?_
  refine s_ifnonnullN B X2 (pc' := 17) d3_14 rfl ?_
  refine s_aloadN B X2 (pc' := 18) d3_17 rfl rfl rfl ?_
  refine s_getF B X2 (pc' := 21) e2 (host := "") (Or.inl (tw17 hw)) Via.refl D_b0_blocks d3_18 rfl (fun T3 X3 e3 => ?_)
  refine s_iloadN B X3 (pc' := 22) d3_21 rfl rfl ?_
  refine s_ldc2 B X3 (pc' := 25) (v := (4096 : Int64)) (tw14 hw) d3_22 rfl ?_
  refine s_aloadN B X3 (pc' := 26) d3_25 rfl rfl rfl ?_
  refine s_getF B X3 (pc' := 29) e3 (host := "") (Or.inl (tw12 hw)) Via.refl D_b0_pairs d3_26 rfl (fun T4 X4 e4 => ?_)
  refine s_iloadN B X4 (pc' := 30) d3_29 rfl rfl ?_
  refine s_i2l B X4 (pc' := 31) (v := (0 : Int64)) d3_30 rfl rfl ?_
  refine s_bipush B X4 (pc' := 33) (v := (12 : Int32)) d3_31 rfl rfl ?_
  refine s_lshl B X4 (pc' := 34) (v := (0 : Int64)) d3_33 (by decide +kernel) rfl ?_
  refine s_lsub B X4 (pc' := 35) (v := q3) d3_34 (Int64.sub_zero _) rfl ?_
  refine p_static B X4 (y := mn1) (pc' := 38) (argsL := [(.long (4096 : Int64)), (.long q3)]) (under := [(.int (0 : Int32)), (.ref b2)]) (W := 2) e4 (tw26 hw) (tw27 hw) (tw29 hw) (tw28 hw) (by decide) (rm4_1 l Z a0 hw q3  h0 F0 hk1) (lenOf pd_1 rfl) rfl rfl (by decide) (by decide) rfl rfl (by decide) (by decide) rfl d3_35 rfl (fun T5 X5 e5 => ?_)
  show Go p e below _ (T5.setTop (mkF m 38 #[.val (.ref b0), .val (.long q1), .second, .val (.int (0 : Int32))] [(.long (4096 : Int64)), (.int (0 : Int32)), (.ref b2)]))
  refine s_l2i B X5 (pc' := 39) (v := (4096 : Int32)) d3_38 rfl rfl ?_
  refine s_newPE B X5 (pc' := 41) (aty := .long) (N := 4096) (cap := 4096) (ad := "[J") e5 (by decide) (tw30 hw) (by decide) (by decide) (by decide) (by decide) (by decide) (by decide) d3_39 rfl (fun T6 h6 o6 k6 g6 X6 e6 E6 A6 Y6 => ?_)
  have ne_b0_o6 : b0 ≠ o6 := Nat.ne_of_lt (g6 ▸ E_b0.lt)
  have ne_b2_o6 : b2 ≠ o6 := Nat.ne_of_lt (g6 ▸ A_b2.lt)
  have ge_o6 : Z.heap.size ≤ o6 := g6 ▸ old_le O0
  have le_o6 : h0.size ≤ o6 := g6 ▸ ((Keep.refl h0 [b0, b2])).1
  replace A6 : Ary Z h6 o6 k6 .long 4096 (fun _ => (.long (0 : Int64))) := A6
  have O6 := (O0).ext E6
  have K6 := ((Keep.refl h0 [b0, b2])).ext E6
  show Go p e below _ (T6.setTop (mkF m 41 #[.val (.ref b0), .val (.long q1), .second, .val (.int (0 : Int32))] [(.ref o6), (.int (0 : Int32)), (.ref b2)]))
  have f8 := (A_b2.ext E6)
  refine s_stR B X6 (pc' := 42) (jn := 0) e6 f8 rfl (Ary.stoA f8 V_b2 (Ins.self Y6)) (by decide) (by decide) (by omega) d3_41 rfl (fun T7 h7 X7 e7 W7 A7 => ?_)
  have N7 := Fr.snoc X7 (Fr.nil _) ge_b2
  have O7 := (O6).wr W7 ge_b2
  have K7 := (K6).wr W7 (Or.inl (List.mem_of_getElem? (i := 1) rfl))
  show Go p e below _ (T7.setTop (mkF m 42 #[.val (.ref b0), .val (.long q1), .second, .val (.int (0 : Int32))] []))
  refine s_aloadN B X7 (pc' := 43) d3_42 rfl rfl rfl ?_
  have f9 := ((D_b0_blocks.ext E6).other W7 (Or.inl ne_b0_b2))
  refine s_getF B X7 (pc' := 46) e7 (host := "") (Or.inl (tw17 hw)) Via.refl f9 d3_43 rfl (fun T10 X10 e10 => ?_)
  refine s_iloadN B X10 (pc' := 47) d3_46 rfl rfl ?_
  refine s_ldR B X10 (pc' := 48) (jn := 0) (v := (.ref o6)) e10 A7 rfl (by decide) (by decide) (by omega) rfl d3_47 rfl ?_
  refine s_aloadN B X10 (pc' := 49) d3_48 rfl rfl rfl ?_
  have f11 := ((D_b0_given.ext E6).other W7 (Or.inl ne_b0_b2))
  refine s_getF B X10 (pc' := 52) e10 (host := "") (Or.inl (tw24 hw)) Via.refl f11 d3_49 rfl (fun T12 X12 e12 => ?_)
  refine s_sipush B X12 (pc' := 55) (v := (4095 : Int32)) d3_52 rfl rfl ?_
  refine s_iand B X12 (pc' := 56) (v := (0 : Int32)) d3_55 rfl rfl ?_
  refine s_lloadN B X12 (pc' := 57) d3_56 rfl rfl ?_
  have f14 := (Ary.other W7 A6 (Ne.symm ne_b2_o6))
  refine s_stJ B X12 (pc' := 58) (jn := 0) e12 f14  (by decide) (by decide) (by omega) d3_57 rfl (fun T13 h13 X13 e13 W13 A13 => ?_)
  have N13 := Fr.snoc X13 N7 ge_o6
  have O13 := (O7).wr W13 ge_o6
  have K13 := (K7).wr W13 (Or.inr le_o6)
  show Go p e below _ (T13.setTop (mkF m 58 #[.val (.ref b0), .val (.long q1), .second, .val (.int (0 : Int32))] []))
  refine s_aloadN B X13 (pc' := 59) d3_58 rfl rfl rfl ?_
  refine s_dup B X13 (pc' := 60) d3_59 rfl rfl ?_
  have f15 := (f11.other W13 (Or.inl ne_b0_o6))
  refine s_getF B X13 (pc' := 63) e13 (host := "") (Or.inl (tw24 hw)) Via.refl f15 d3_60 rfl (fun T16 X16 e16 => ?_)
  refine s_iconst B X16 (pc' := 64) (v := (1 : Int32)) d3_63 rfl rfl ?_
  refine s_iadd B X16 (pc' := 65) (v := (1 : Int32)) d3_64 rfl rfl ?_
  have f18 := (((E_b0.ext E6).wr W7).wr W13)
  refine s_putF B X16 (pc' := 68) (ty := .int) e16 (host := "") (Or.inl (tw24 hw)) Via.refl f15 f18 (Or.inl (tw25 hw)) (tw1 hw) (by decide) rfl rfl d3_65 rfl (fun T17 h17 X17 e17 W17 => ?_)
  have G17 := f15.same W17
  have N17 := Fr.snoc X17 N13 ge_b0
  have O17 := (O13).wr W17 ge_b0
  have K17 := (K13).wr W17 (Or.inl (List.mem_of_getElem? (i := 0) rfl))
  show Go p e below _ (T17.setTop (mkF m 68 #[.val (.ref b0), .val (.long q1), .second, .val (.int (0 : Int32))] []))
  have f19 := (((Y6.wr W7).wr W13).wr W17)
  have f20 := (Ary.other W17 A13 (Ne.symm ne_b0_o6))
  have f21 := ((f9.other W13 (Or.inl ne_b0_o6)).other W17 (Or.inr (slot_ne (Or.inr (tw18 hw)) (Or.inl (tw25 hw)) (by decide) (t := (.array (.array .long))) (t' := .int) (by decide) (by decide))))
  have f22 := ((((D_b0_pairs.ext E6).other W7 (Or.inl ne_b0_b2)).other W13 (Or.inl ne_b0_o6)).other W17 (Or.inr (slot_ne (Or.inr (tw13 hw)) (Or.inl (tw25 hw)) (by decide) (t := .long) (t' := .int) (by decide) (by decide))))
  have f23 := ((((D_b0_size.ext E6).other W7 (Or.inl ne_b0_b2)).other W13 (Or.inl ne_b0_o6)).other W17 (Or.inr (slot_ne (Or.inr (tw10 hw)) (Or.inl (tw25 hw)) (by decide) (t := .int) (t' := .int) (by decide) (by decide))))
  have f24 := (Ary.other W17 (Ary.other W13 A7 ne_b2_o6) (Ne.symm ne_b0_b2))
  exact r_void B X17 rfl d3_68 (by rw [e17]; exact ⟨o6, k6, rfl, N17, K17, le_o6, f19, f20, f21, G17, f22, f23, f24⟩) (by decide) (by decide)

theorem pn_mm5_24 : plainFor mn3 = true := plainFor_of_name (show plainName "com/example/stroll/stroll/ExplicitMetric$Weights" = true by first | (simp [plainName, overriddenIn]; done) | decide +kernel)
set_option maxRecDepth 65536 in
set_option maxHeartbeats 40000000 in
theorem mm5_24 (l : Launch) (Z : State) (a0 : Array Value) (hw : ∀ d ∈ tables_1, d.before a0 Z = true) (b0 : Addr) (b1 : Addr) (b2 : Addr) (q3 : Int64) (q4 : Int32) (k_b1 : ClassId) (k_b2 : ClassId) (q5 : Int64) (h0 : Heap) (FZ : OwnF Z Z.heap ) (O0 : Old Z Z.heap.size h0) (ge_b0 : Z.heap.size ≤ b0) (E_b0 : Exa Z h0 b0 "com/example/stroll/stroll/ExplicitMetric$Weights") (D_b0_blocks : Fld Z h0 b0 "com/example/stroll/stroll/ExplicitMetric$Weights" "blocks" "[[J" (.ref b1)) (D_b0_given : Fld Z h0 b0 "com/example/stroll/stroll/ExplicitMetric$Weights" "given" "I" (.int (1 : Int32))) (D_b0_pairs : Fld Z h0 b0 "com/example/stroll/stroll/ExplicitMetric$Weights" "pairs" "J" (.long q3)) (D_b0_size : Fld Z h0 b0 "com/example/stroll/stroll/ExplicitMetric$Weights" "size" "I" (.int q4)) (ge_b1 : Z.heap.size ≤ b1) (A_b1 : Ary Z h0 b1 k_b1 (.array .long) 2 (upd (fun _ => .null) 0 (.ref b2))) (V_b1 : OvrA Z k_b1 .long "[J") (ge_b2 : Z.heap.size ≤ b2) (E_b2 : Exa Z h0 b2 "[J") (A_b2 : Ary Z h0 b2 k_b2 .long 4096 (upd (fun _ => (.long (0 : Int64))) 0 (.long q5))) (ne_b0_b1 : b0 ≠ b1) (ne_b0_b2 : b0 ≠ b2) (ne_b1_b2 : b1 ≠ b2) (sd0 : 3 ≤ q3.toInt) (hk1 : ¬ q3 < (4096 : Int64)) :
    OMeets l Z mn3 prog_28_method_4_code 2 (some .long) [] ({ frames := 0, cells := 0, slots := 0, locals := 0 } : Room) #[(.ref b0), (.int (0 : Int32))] h0 (PureQ (some (.long q5)) h0) := by
  refine OMeets.of pn_mm5_24 #[.val (.ref b0), .val (.int (0 : Int32))] (fun m => by first | rfl | (simp [entryFrame, mkF, argsToLocals, Value.category, maxLocals]; done)) ?_
  intro p e s m below meth c s₁ B X0 e0
  have F0 := trivial
  refine s_aloadN B X0 (pc' := 1) d5_0 rfl rfl rfl ?_
  refine s_getF B X0 (pc' := 4) e0 (host := "") (Or.inl (tw17 hw)) Via.refl D_b0_blocks d5_1 rfl (fun T1 X1 e1 => ?_)
  refine s_iloadN B X1 (pc' := 5) d5_4 rfl rfl ?_
  refine s_bipush B X1 (pc' := 7) (v := (12 : Int32)) d5_5 rfl rfl ?_
  refine s_iushr B X1 (pc' := 8) (v := (0 : Int32)) d5_7 (by decide +kernel) rfl ?_
  refine s_ldR B X1 (pc' := 9) (jn := 0) (v := (.ref b2)) e1 A_b1 rfl (by decide) (by decide) (by omega) rfl d5_8 rfl ?_
  refine s_iloadN B X1 (pc' := 10) d5_9 rfl rfl ?_
  refine s_sipush B X1 (pc' := 13) (v := (4095 : Int32)) d5_10 rfl rfl ?_
  refine s_iand B X1 (pc' := 14) (v := (0 : Int32)) d5_13 rfl rfl ?_
  refine s_ldJ B X1 (pc' := 15) (jn := 0) (v := (.long q5)) e1 A_b2 (by decide) (by decide) (by omega) rfl d5_14 rfl ?_
  exact r_long B X1 rfl d5_15 ⟨rfl, rfl, e1⟩ (by decide) (by decide)

theorem pn_mm3_25 : plainFor mn2 = true := plainFor_of_name (show plainName "com/example/stroll/stroll/ExplicitMetric$Weights" = true by first | (simp [plainName, overriddenIn]; done) | decide +kernel)
set_option maxRecDepth 65536 in
set_option maxHeartbeats 40000000 in
theorem mm3_25 (l : Launch) (Z : State) (a0 : Array Value) (hw : ∀ d ∈ tables_1, d.before a0 Z = true) (b0 : Addr) (q1 : Int64) (b2 : Addr) (b3 : Addr) (q4 : Int64) (q5 : Int32) (k_b2 : ClassId) (k_b3 : ClassId) (q6 : Int64) (h0 : Heap) (FZ : OwnF Z Z.heap ) (O0 : Old Z Z.heap.size h0) (ge_b0 : Z.heap.size ≤ b0) (E_b0 : Exa Z h0 b0 "com/example/stroll/stroll/ExplicitMetric$Weights") (D_b0_blocks : Fld Z h0 b0 "com/example/stroll/stroll/ExplicitMetric$Weights" "blocks" "[[J" (.ref b2)) (D_b0_given : Fld Z h0 b0 "com/example/stroll/stroll/ExplicitMetric$Weights" "given" "I" (.int (1 : Int32))) (D_b0_pairs : Fld Z h0 b0 "com/example/stroll/stroll/ExplicitMetric$Weights" "pairs" "J" (.long q4)) (D_b0_size : Fld Z h0 b0 "com/example/stroll/stroll/ExplicitMetric$Weights" "size" "I" (.int q5)) (ge_b2 : Z.heap.size ≤ b2) (A_b2 : Ary Z h0 b2 k_b2 (.array .long) 2 (upd (fun _ => .null) 0 (.ref b3))) (V_b2 : OvrA Z k_b2 .long "[J") (ge_b3 : Z.heap.size ≤ b3) (E_b3 : Exa Z h0 b3 "[J") (A_b3 : Ary Z h0 b3 k_b3 .long 4096 (upd (fun _ => (.long (0 : Int64))) 0 (.long q6))) (ne_b0_b2 : b0 ≠ b2) (ne_b0_b3 : b0 ≠ b3) (ne_b2_b3 : b2 ≠ b3) (sd0 : 3 ≤ q4.toInt) (hk1 : ¬ q4 < (4096 : Int64)) :
    OMeets l Z mn2 prog_28_method_5_code 4 none [] ({ frames := 0, cells := 0, slots := 0, locals := 0 } : Room) #[(.ref b0), (.long q1)] h0 (fun v h L => v = none ∧ Fr Z.heap.size L ∧ Keep h0 h [b0, b3] ∧ Fld Z h b0 "com/example/stroll/stroll/ExplicitMetric$Weights" "blocks" "[[J" (.ref b2) ∧ Fld Z h b0 "com/example/stroll/stroll/ExplicitMetric$Weights" "given" "I" (.int (2 : Int32)) ∧ Fld Z h b0 "com/example/stroll/stroll/ExplicitMetric$Weights" "pairs" "J" (.long q4) ∧ Fld Z h b0 "com/example/stroll/stroll/ExplicitMetric$Weights" "size" "I" (.int q5) ∧ Ary Z h b3 k_b3 .long 4096 (upd (upd (fun _ => (.long (0 : Int64))) 0 (.long q6)) 1 (.long q1))) := by
  refine OMeets.of pn_mm3_25 #[.val (.ref b0), .val (.long q1), .second, .unset] (fun m => by first | rfl | (simp [entryFrame, mkF, argsToLocals, Value.category, maxLocals]; done)) ?_
  intro p e s m below meth c s₁ B X0 e0
  have F0 := trivial
  refine s_aloadN B X0 (pc' := 1) d3_0 rfl rfl rfl ?_
  refine s_getF B X0 (pc' := 4) e0 (host := "") (Or.inl (tw24 hw)) Via.refl D_b0_given d3_1 rfl (fun T1 X1 e1 => ?_)
  refine s_bipush B X1 (pc' := 6) (v := (12 : Int32)) d3_4 rfl rfl ?_
  refine s_iushr B X1 (pc' := 7) (v := (0 : Int32)) d3_6 (by decide +kernel) rfl ?_
  refine s_istoreN B X1 (pc' := 8) (Ls' := #[.val (.ref b0), .val (.long q1), .second, .val (.int (0 : Int32))]) d3_7 rfl rfl ?_
  refine s_aloadN B X1 (pc' := 9) d3_8 rfl rfl rfl ?_
  refine s_getF B X1 (pc' := 12) e1 (host := "") (Or.inl (tw17 hw)) Via.refl D_b0_blocks d3_9 rfl (fun T2 X2 e2 => ?_)
  refine s_iloadN B X2 (pc' := 13) d3_12 rfl rfl ?_
  refine s_ldR B X2 (pc' := 14) (jn := 0) (v := (.ref b3)) e2 A_b2 rfl (by decide) (by decide) (by omega) rfl d3_13 rfl ?_
  refine s_ifnonnullY B X2 (pc' := 42) d3_14 (by decide) (by decide) ?_
  refine s_aloadN B X2 (pc' := 43) d3_42 rfl rfl rfl ?_
  refine s_getF B X2 (pc' := 46) e2 (host := "") (Or.inl (tw17 hw)) Via.refl D_b0_blocks d3_43 rfl (fun T3 X3 e3 => ?_)
  refine s_iloadN B X3 (pc' := 47) d3_46 rfl rfl ?_
  refine s_ldR B X3 (pc' := 48) (jn := 0) (v := (.ref b3)) e3 A_b2 rfl (by decide) (by decide) (by omega) rfl d3_47 rfl ?_
  refine s_aloadN B X3 (pc' := 49) d3_48 rfl rfl rfl ?_
  refine s_getF B X3 (pc' := 52) e3 (host := "") (Or.inl (tw24 hw)) Via.refl D_b0_given d3_49 rfl (fun T4 X4 e4 => ?_)
  refine s_sipush B X4 (pc' := 55) (v := (4095 : Int32)) d3_52 rfl rfl ?_
  refine s_iand B X4 (pc' := 56) (v := (1 : Int32)) d3_55 rfl rfl ?_
  refine s_lloadN B X4 (pc' := 57) d3_56 rfl rfl ?_
  refine s_stJ B X4 (pc' := 58) (jn := 1) e4 A_b3  (by decide) (by decide) (by omega) d3_57 rfl (fun T5 h5 X5 e5 W5 A5 => ?_)
  have N5 := Fr.snoc X5 (Fr.nil _) ge_b3
  have O5 := (O0).wr W5 ge_b3
  have K5 := ((Keep.refl h0 [b0, b3])).wr W5 (Or.inl (List.mem_of_getElem? (i := 1) rfl))
  show Go p e below _ (T5.setTop (mkF m 58 #[.val (.ref b0), .val (.long q1), .second, .val (.int (0 : Int32))] []))
  refine s_aloadN B X5 (pc' := 59) d3_58 rfl rfl rfl ?_
  refine s_dup B X5 (pc' := 60) d3_59 rfl rfl ?_
  have f6 := (D_b0_given.other W5 (Or.inl ne_b0_b3))
  refine s_getF B X5 (pc' := 63) e5 (host := "") (Or.inl (tw24 hw)) Via.refl f6 d3_60 rfl (fun T7 X7 e7 => ?_)
  refine s_iconst B X7 (pc' := 64) (v := (1 : Int32)) d3_63 rfl rfl ?_
  refine s_iadd B X7 (pc' := 65) (v := (2 : Int32)) d3_64 rfl rfl ?_
  have f9 := (E_b0.wr W5)
  refine s_putF B X7 (pc' := 68) (ty := .int) e7 (host := "") (Or.inl (tw24 hw)) Via.refl f6 f9 (Or.inl (tw25 hw)) (tw1 hw) (by decide) rfl rfl d3_65 rfl (fun T8 h8 X8 e8 W8 => ?_)
  have G8 := f6.same W8
  have N8 := Fr.snoc X8 N5 ge_b0
  have O8 := (O5).wr W8 ge_b0
  have K8 := (K5).wr W8 (Or.inl (List.mem_of_getElem? (i := 0) rfl))
  show Go p e below _ (T8.setTop (mkF m 68 #[.val (.ref b0), .val (.long q1), .second, .val (.int (0 : Int32))] []))
  have f10 := ((D_b0_blocks.other W5 (Or.inl ne_b0_b3)).other W8 (Or.inr (slot_ne (Or.inr (tw18 hw)) (Or.inl (tw25 hw)) (by decide) (t := (.array (.array .long))) (t' := .int) (by decide) (by decide))))
  have f11 := ((D_b0_pairs.other W5 (Or.inl ne_b0_b3)).other W8 (Or.inr (slot_ne (Or.inr (tw13 hw)) (Or.inl (tw25 hw)) (by decide) (t := .long) (t' := .int) (by decide) (by decide))))
  have f12 := ((D_b0_size.other W5 (Or.inl ne_b0_b3)).other W8 (Or.inr (slot_ne (Or.inr (tw10 hw)) (Or.inl (tw25 hw)) (by decide) (t := .int) (t' := .int) (by decide) (by decide))))
  have f13 := (Ary.other W8 A5 (Ne.symm ne_b0_b3))
  exact r_void B X8 rfl d3_68 (by rw [e8]; exact ⟨rfl, N8, K8, f10, G8, f11, f12, f13⟩) (by decide) (by decide)

theorem pn_mm3_26 : plainFor mn2 = true := plainFor_of_name (show plainName "com/example/stroll/stroll/ExplicitMetric$Weights" = true by first | (simp [plainName, overriddenIn]; done) | decide +kernel)
set_option maxRecDepth 65536 in
set_option maxHeartbeats 40000000 in
theorem mm3_26 (l : Launch) (Z : State) (a0 : Array Value) (hw : ∀ d ∈ tables_1, d.before a0 Z = true) (b0 : Addr) (q1 : Int64) (b2 : Addr) (b3 : Addr) (q4 : Int64) (q5 : Int32) (k_b2 : ClassId) (k_b3 : ClassId) (q6 : Int64) (q7 : Int64) (h0 : Heap) (FZ : OwnF Z Z.heap ) (O0 : Old Z Z.heap.size h0) (ge_b0 : Z.heap.size ≤ b0) (E_b0 : Exa Z h0 b0 "com/example/stroll/stroll/ExplicitMetric$Weights") (D_b0_blocks : Fld Z h0 b0 "com/example/stroll/stroll/ExplicitMetric$Weights" "blocks" "[[J" (.ref b2)) (D_b0_given : Fld Z h0 b0 "com/example/stroll/stroll/ExplicitMetric$Weights" "given" "I" (.int (2 : Int32))) (D_b0_pairs : Fld Z h0 b0 "com/example/stroll/stroll/ExplicitMetric$Weights" "pairs" "J" (.long q4)) (D_b0_size : Fld Z h0 b0 "com/example/stroll/stroll/ExplicitMetric$Weights" "size" "I" (.int q5)) (ge_b2 : Z.heap.size ≤ b2) (A_b2 : Ary Z h0 b2 k_b2 (.array .long) 2 (upd (fun _ => .null) 0 (.ref b3))) (V_b2 : OvrA Z k_b2 .long "[J") (ge_b3 : Z.heap.size ≤ b3) (E_b3 : Exa Z h0 b3 "[J") (A_b3 : Ary Z h0 b3 k_b3 .long 4096 (upd (upd (fun _ => (.long (0 : Int64))) 0 (.long q6)) 1 (.long q7))) (ne_b0_b2 : b0 ≠ b2) (ne_b0_b3 : b0 ≠ b3) (ne_b2_b3 : b2 ≠ b3) (sd0 : 3 ≤ q4.toInt) (hk1 : ¬ q4 < (4096 : Int64)) :
    OMeets l Z mn2 prog_28_method_5_code 4 none [] ({ frames := 0, cells := 0, slots := 0, locals := 0 } : Room) #[(.ref b0), (.long q1)] h0 (fun v h L => v = none ∧ Fr Z.heap.size L ∧ Keep h0 h [b0, b3] ∧ Fld Z h b0 "com/example/stroll/stroll/ExplicitMetric$Weights" "blocks" "[[J" (.ref b2) ∧ Fld Z h b0 "com/example/stroll/stroll/ExplicitMetric$Weights" "given" "I" (.int (3 : Int32)) ∧ Fld Z h b0 "com/example/stroll/stroll/ExplicitMetric$Weights" "pairs" "J" (.long q4) ∧ Fld Z h b0 "com/example/stroll/stroll/ExplicitMetric$Weights" "size" "I" (.int q5) ∧ Ary Z h b3 k_b3 .long 4096 (upd (upd (upd (fun _ => (.long (0 : Int64))) 0 (.long q6)) 1 (.long q7)) 2 (.long q1))) := by
  refine OMeets.of pn_mm3_26 #[.val (.ref b0), .val (.long q1), .second, .unset] (fun m => by first | rfl | (simp [entryFrame, mkF, argsToLocals, Value.category, maxLocals]; done)) ?_
  intro p e s m below meth c s₁ B X0 e0
  have F0 := trivial
  refine s_aloadN B X0 (pc' := 1) d3_0 rfl rfl rfl ?_
  refine s_getF B X0 (pc' := 4) e0 (host := "") (Or.inl (tw24 hw)) Via.refl D_b0_given d3_1 rfl (fun T1 X1 e1 => ?_)
  refine s_bipush B X1 (pc' := 6) (v := (12 : Int32)) d3_4 rfl rfl ?_
  refine s_iushr B X1 (pc' := 7) (v := (0 : Int32)) d3_6 (by decide +kernel) rfl ?_
  refine s_istoreN B X1 (pc' := 8) (Ls' := #[.val (.ref b0), .val (.long q1), .second, .val (.int (0 : Int32))]) d3_7 rfl rfl ?_
  refine s_aloadN B X1 (pc' := 9) d3_8 rfl rfl rfl ?_
  refine s_getF B X1 (pc' := 12) e1 (host := "") (Or.inl (tw17 hw)) Via.refl D_b0_blocks d3_9 rfl (fun T2 X2 e2 => ?_)
  refine s_iloadN B X2 (pc' := 13) d3_12 rfl rfl ?_
  refine s_ldR B X2 (pc' := 14) (jn := 0) (v := (.ref b3)) e2 A_b2 rfl (by decide) (by decide) (by omega) rfl d3_13 rfl ?_
  refine s_ifnonnullY B X2 (pc' := 42) d3_14 (by decide) (by decide) ?_
  refine s_aloadN B X2 (pc' := 43) d3_42 rfl rfl rfl ?_
  refine s_getF B X2 (pc' := 46) e2 (host := "") (Or.inl (tw17 hw)) Via.refl D_b0_blocks d3_43 rfl (fun T3 X3 e3 => ?_)
  refine s_iloadN B X3 (pc' := 47) d3_46 rfl rfl ?_
  refine s_ldR B X3 (pc' := 48) (jn := 0) (v := (.ref b3)) e3 A_b2 rfl (by decide) (by decide) (by omega) rfl d3_47 rfl ?_
  refine s_aloadN B X3 (pc' := 49) d3_48 rfl rfl rfl ?_
  refine s_getF B X3 (pc' := 52) e3 (host := "") (Or.inl (tw24 hw)) Via.refl D_b0_given d3_49 rfl (fun T4 X4 e4 => ?_)
  refine s_sipush B X4 (pc' := 55) (v := (4095 : Int32)) d3_52 rfl rfl ?_
  refine s_iand B X4 (pc' := 56) (v := (2 : Int32)) d3_55 rfl rfl ?_
  refine s_lloadN B X4 (pc' := 57) d3_56 rfl rfl ?_
  refine s_stJ B X4 (pc' := 58) (jn := 2) e4 A_b3  (by decide) (by decide) (by omega) d3_57 rfl (fun T5 h5 X5 e5 W5 A5 => ?_)
  have N5 := Fr.snoc X5 (Fr.nil _) ge_b3
  have O5 := (O0).wr W5 ge_b3
  have K5 := ((Keep.refl h0 [b0, b3])).wr W5 (Or.inl (List.mem_of_getElem? (i := 1) rfl))
  show Go p e below _ (T5.setTop (mkF m 58 #[.val (.ref b0), .val (.long q1), .second, .val (.int (0 : Int32))] []))
  refine s_aloadN B X5 (pc' := 59) d3_58 rfl rfl rfl ?_
  refine s_dup B X5 (pc' := 60) d3_59 rfl rfl ?_
  have f6 := (D_b0_given.other W5 (Or.inl ne_b0_b3))
  refine s_getF B X5 (pc' := 63) e5 (host := "") (Or.inl (tw24 hw)) Via.refl f6 d3_60 rfl (fun T7 X7 e7 => ?_)
  refine s_iconst B X7 (pc' := 64) (v := (1 : Int32)) d3_63 rfl rfl ?_
  refine s_iadd B X7 (pc' := 65) (v := (3 : Int32)) d3_64 rfl rfl ?_
  have f9 := (E_b0.wr W5)
  refine s_putF B X7 (pc' := 68) (ty := .int) e7 (host := "") (Or.inl (tw24 hw)) Via.refl f6 f9 (Or.inl (tw25 hw)) (tw1 hw) (by decide) rfl rfl d3_65 rfl (fun T8 h8 X8 e8 W8 => ?_)
  have G8 := f6.same W8
  have N8 := Fr.snoc X8 N5 ge_b0
  have O8 := (O5).wr W8 ge_b0
  have K8 := (K5).wr W8 (Or.inl (List.mem_of_getElem? (i := 0) rfl))
  show Go p e below _ (T8.setTop (mkF m 68 #[.val (.ref b0), .val (.long q1), .second, .val (.int (0 : Int32))] []))
  have f10 := ((D_b0_blocks.other W5 (Or.inl ne_b0_b3)).other W8 (Or.inr (slot_ne (Or.inr (tw18 hw)) (Or.inl (tw25 hw)) (by decide) (t := (.array (.array .long))) (t' := .int) (by decide) (by decide))))
  have f11 := ((D_b0_pairs.other W5 (Or.inl ne_b0_b3)).other W8 (Or.inr (slot_ne (Or.inr (tw13 hw)) (Or.inl (tw25 hw)) (by decide) (t := .long) (t' := .int) (by decide) (by decide))))
  have f12 := ((D_b0_size.other W5 (Or.inl ne_b0_b3)).other W8 (Or.inr (slot_ne (Or.inr (tw10 hw)) (Or.inl (tw25 hw)) (by decide) (t := .int) (t' := .int) (by decide) (by decide))))
  have f13 := (Ary.other W8 A5 (Ne.symm ne_b0_b3))
  exact r_void B X8 rfl d3_68 (by rw [e8]; exact ⟨rfl, N8, K8, f10, G8, f11, f12, f13⟩) (by decide) (by decide)

theorem pn_mm5_27 : plainFor mn3 = true := plainFor_of_name (show plainName "com/example/stroll/stroll/ExplicitMetric$Weights" = true by first | (simp [plainName, overriddenIn]; done) | decide +kernel)
set_option maxRecDepth 65536 in
set_option maxHeartbeats 40000000 in
theorem mm5_27 (l : Launch) (Z : State) (a0 : Array Value) (hw : ∀ d ∈ tables_1, d.before a0 Z = true) (b0 : Addr) (b1 : Addr) (b2 : Addr) (q3 : Int64) (q4 : Int32) (k_b1 : ClassId) (k_b2 : ClassId) (q5 : Int64) (q6 : Int64) (q7 : Int64) (h0 : Heap) (FZ : OwnF Z Z.heap ) (O0 : Old Z Z.heap.size h0) (ge_b0 : Z.heap.size ≤ b0) (E_b0 : Exa Z h0 b0 "com/example/stroll/stroll/ExplicitMetric$Weights") (D_b0_blocks : Fld Z h0 b0 "com/example/stroll/stroll/ExplicitMetric$Weights" "blocks" "[[J" (.ref b1)) (D_b0_given : Fld Z h0 b0 "com/example/stroll/stroll/ExplicitMetric$Weights" "given" "I" (.int (3 : Int32))) (D_b0_pairs : Fld Z h0 b0 "com/example/stroll/stroll/ExplicitMetric$Weights" "pairs" "J" (.long q3)) (D_b0_size : Fld Z h0 b0 "com/example/stroll/stroll/ExplicitMetric$Weights" "size" "I" (.int q4)) (ge_b1 : Z.heap.size ≤ b1) (A_b1 : Ary Z h0 b1 k_b1 (.array .long) 2 (upd (fun _ => .null) 0 (.ref b2))) (V_b1 : OvrA Z k_b1 .long "[J") (ge_b2 : Z.heap.size ≤ b2) (E_b2 : Exa Z h0 b2 "[J") (A_b2 : Ary Z h0 b2 k_b2 .long 4096 (upd (upd (upd (fun _ => (.long (0 : Int64))) 0 (.long q5)) 1 (.long q6)) 2 (.long q7))) (ne_b0_b1 : b0 ≠ b1) (ne_b0_b2 : b0 ≠ b2) (ne_b1_b2 : b1 ≠ b2) (sd0 : 3 ≤ q3.toInt) (hk1 : ¬ q3 < (4096 : Int64)) :
    OMeets l Z mn3 prog_28_method_4_code 2 (some .long) [] ({ frames := 0, cells := 0, slots := 0, locals := 0 } : Room) #[(.ref b0), (.int (0 : Int32))] h0 (PureQ (some (.long q5)) h0) := by
  refine OMeets.of pn_mm5_27 #[.val (.ref b0), .val (.int (0 : Int32))] (fun m => by first | rfl | (simp [entryFrame, mkF, argsToLocals, Value.category, maxLocals]; done)) ?_
  intro p e s m below meth c s₁ B X0 e0
  have F0 := trivial
  refine s_aloadN B X0 (pc' := 1) d5_0 rfl rfl rfl ?_
  refine s_getF B X0 (pc' := 4) e0 (host := "") (Or.inl (tw17 hw)) Via.refl D_b0_blocks d5_1 rfl (fun T1 X1 e1 => ?_)
  refine s_iloadN B X1 (pc' := 5) d5_4 rfl rfl ?_
  refine s_bipush B X1 (pc' := 7) (v := (12 : Int32)) d5_5 rfl rfl ?_
  refine s_iushr B X1 (pc' := 8) (v := (0 : Int32)) d5_7 (by decide +kernel) rfl ?_
  refine s_ldR B X1 (pc' := 9) (jn := 0) (v := (.ref b2)) e1 A_b1 rfl (by decide) (by decide) (by omega) rfl d5_8 rfl ?_
  refine s_iloadN B X1 (pc' := 10) d5_9 rfl rfl ?_
  refine s_sipush B X1 (pc' := 13) (v := (4095 : Int32)) d5_10 rfl rfl ?_
  refine s_iand B X1 (pc' := 14) (v := (0 : Int32)) d5_13 rfl rfl ?_
  refine s_ldJ B X1 (pc' := 15) (jn := 0) (v := (.long q5)) e1 A_b2 (by decide) (by decide) (by omega) rfl d5_14 rfl ?_
  exact r_long B X1 rfl d5_15 ⟨rfl, rfl, e1⟩ (by decide) (by decide)

theorem pn_mm5_28 : plainFor mn3 = true := plainFor_of_name (show plainName "com/example/stroll/stroll/ExplicitMetric$Weights" = true by first | (simp [plainName, overriddenIn]; done) | decide +kernel)
set_option maxRecDepth 65536 in
set_option maxHeartbeats 40000000 in
theorem mm5_28 (l : Launch) (Z : State) (a0 : Array Value) (hw : ∀ d ∈ tables_1, d.before a0 Z = true) (b0 : Addr) (b1 : Addr) (b2 : Addr) (q3 : Int64) (q4 : Int32) (k_b1 : ClassId) (k_b2 : ClassId) (q5 : Int64) (q6 : Int64) (q7 : Int64) (h0 : Heap) (FZ : OwnF Z Z.heap ) (O0 : Old Z Z.heap.size h0) (ge_b0 : Z.heap.size ≤ b0) (E_b0 : Exa Z h0 b0 "com/example/stroll/stroll/ExplicitMetric$Weights") (D_b0_blocks : Fld Z h0 b0 "com/example/stroll/stroll/ExplicitMetric$Weights" "blocks" "[[J" (.ref b1)) (D_b0_given : Fld Z h0 b0 "com/example/stroll/stroll/ExplicitMetric$Weights" "given" "I" (.int (3 : Int32))) (D_b0_pairs : Fld Z h0 b0 "com/example/stroll/stroll/ExplicitMetric$Weights" "pairs" "J" (.long q3)) (D_b0_size : Fld Z h0 b0 "com/example/stroll/stroll/ExplicitMetric$Weights" "size" "I" (.int q4)) (ge_b1 : Z.heap.size ≤ b1) (A_b1 : Ary Z h0 b1 k_b1 (.array .long) 2 (upd (fun _ => .null) 0 (.ref b2))) (V_b1 : OvrA Z k_b1 .long "[J") (ge_b2 : Z.heap.size ≤ b2) (E_b2 : Exa Z h0 b2 "[J") (A_b2 : Ary Z h0 b2 k_b2 .long 4096 (upd (upd (upd (fun _ => (.long (0 : Int64))) 0 (.long q5)) 1 (.long q6)) 2 (.long q7))) (ne_b0_b1 : b0 ≠ b1) (ne_b0_b2 : b0 ≠ b2) (ne_b1_b2 : b1 ≠ b2) (sd0 : 3 ≤ q3.toInt) (hk1 : ¬ q3 < (4096 : Int64)) :
    OMeets l Z mn3 prog_28_method_4_code 2 (some .long) [] ({ frames := 0, cells := 0, slots := 0, locals := 0 } : Room) #[(.ref b0), (.int (1 : Int32))] h0 (PureQ (some (.long q6)) h0) := by
  refine OMeets.of pn_mm5_28 #[.val (.ref b0), .val (.int (1 : Int32))] (fun m => by first | rfl | (simp [entryFrame, mkF, argsToLocals, Value.category, maxLocals]; done)) ?_
  intro p e s m below meth c s₁ B X0 e0
  have F0 := trivial
  refine s_aloadN B X0 (pc' := 1) d5_0 rfl rfl rfl ?_
  refine s_getF B X0 (pc' := 4) e0 (host := "") (Or.inl (tw17 hw)) Via.refl D_b0_blocks d5_1 rfl (fun T1 X1 e1 => ?_)
  refine s_iloadN B X1 (pc' := 5) d5_4 rfl rfl ?_
  refine s_bipush B X1 (pc' := 7) (v := (12 : Int32)) d5_5 rfl rfl ?_
  refine s_iushr B X1 (pc' := 8) (v := (0 : Int32)) d5_7 (by decide +kernel) rfl ?_
  refine s_ldR B X1 (pc' := 9) (jn := 0) (v := (.ref b2)) e1 A_b1 rfl (by decide) (by decide) (by omega) rfl d5_8 rfl ?_
  refine s_iloadN B X1 (pc' := 10) d5_9 rfl rfl ?_
  refine s_sipush B X1 (pc' := 13) (v := (4095 : Int32)) d5_10 rfl rfl ?_
  refine s_iand B X1 (pc' := 14) (v := (1 : Int32)) d5_13 rfl rfl ?_
  refine s_ldJ B X1 (pc' := 15) (jn := 1) (v := (.long q6)) e1 A_b2 (by decide) (by decide) (by omega) rfl d5_14 rfl ?_
  exact r_long B X1 rfl d5_15 ⟨rfl, rfl, e1⟩ (by decide) (by decide)

theorem pn_mm5_29 : plainFor mn3 = true := plainFor_of_name (show plainName "com/example/stroll/stroll/ExplicitMetric$Weights" = true by first | (simp [plainName, overriddenIn]; done) | decide +kernel)
set_option maxRecDepth 65536 in
set_option maxHeartbeats 40000000 in
theorem mm5_29 (l : Launch) (Z : State) (a0 : Array Value) (hw : ∀ d ∈ tables_1, d.before a0 Z = true) (b0 : Addr) (b1 : Addr) (b2 : Addr) (q3 : Int64) (q4 : Int32) (k_b1 : ClassId) (k_b2 : ClassId) (q5 : Int64) (q6 : Int64) (q7 : Int64) (h0 : Heap) (FZ : OwnF Z Z.heap ) (O0 : Old Z Z.heap.size h0) (ge_b0 : Z.heap.size ≤ b0) (E_b0 : Exa Z h0 b0 "com/example/stroll/stroll/ExplicitMetric$Weights") (D_b0_blocks : Fld Z h0 b0 "com/example/stroll/stroll/ExplicitMetric$Weights" "blocks" "[[J" (.ref b1)) (D_b0_given : Fld Z h0 b0 "com/example/stroll/stroll/ExplicitMetric$Weights" "given" "I" (.int (3 : Int32))) (D_b0_pairs : Fld Z h0 b0 "com/example/stroll/stroll/ExplicitMetric$Weights" "pairs" "J" (.long q3)) (D_b0_size : Fld Z h0 b0 "com/example/stroll/stroll/ExplicitMetric$Weights" "size" "I" (.int q4)) (ge_b1 : Z.heap.size ≤ b1) (A_b1 : Ary Z h0 b1 k_b1 (.array .long) 2 (upd (fun _ => .null) 0 (.ref b2))) (V_b1 : OvrA Z k_b1 .long "[J") (ge_b2 : Z.heap.size ≤ b2) (E_b2 : Exa Z h0 b2 "[J") (A_b2 : Ary Z h0 b2 k_b2 .long 4096 (upd (upd (upd (fun _ => (.long (0 : Int64))) 0 (.long q5)) 1 (.long q6)) 2 (.long q7))) (ne_b0_b1 : b0 ≠ b1) (ne_b0_b2 : b0 ≠ b2) (ne_b1_b2 : b1 ≠ b2) (sd0 : 3 ≤ q3.toInt) (hk1 : ¬ q3 < (4096 : Int64)) :
    OMeets l Z mn3 prog_28_method_4_code 2 (some .long) [] ({ frames := 0, cells := 0, slots := 0, locals := 0 } : Room) #[(.ref b0), (.int (2 : Int32))] h0 (PureQ (some (.long q7)) h0) := by
  refine OMeets.of pn_mm5_29 #[.val (.ref b0), .val (.int (2 : Int32))] (fun m => by first | rfl | (simp [entryFrame, mkF, argsToLocals, Value.category, maxLocals]; done)) ?_
  intro p e s m below meth c s₁ B X0 e0
  have F0 := trivial
  refine s_aloadN B X0 (pc' := 1) d5_0 rfl rfl rfl ?_
  refine s_getF B X0 (pc' := 4) e0 (host := "") (Or.inl (tw17 hw)) Via.refl D_b0_blocks d5_1 rfl (fun T1 X1 e1 => ?_)
  refine s_iloadN B X1 (pc' := 5) d5_4 rfl rfl ?_
  refine s_bipush B X1 (pc' := 7) (v := (12 : Int32)) d5_5 rfl rfl ?_
  refine s_iushr B X1 (pc' := 8) (v := (0 : Int32)) d5_7 (by decide +kernel) rfl ?_
  refine s_ldR B X1 (pc' := 9) (jn := 0) (v := (.ref b2)) e1 A_b1 rfl (by decide) (by decide) (by omega) rfl d5_8 rfl ?_
  refine s_iloadN B X1 (pc' := 10) d5_9 rfl rfl ?_
  refine s_sipush B X1 (pc' := 13) (v := (4095 : Int32)) d5_10 rfl rfl ?_
  refine s_iand B X1 (pc' := 14) (v := (2 : Int32)) d5_13 rfl rfl ?_
  refine s_ldJ B X1 (pc' := 15) (jn := 2) (v := (.long q7)) e1 A_b2 (by decide) (by decide) (by omega) rfl d5_14 rfl ?_
  exact r_long B X1 rfl d5_15 ⟨rfl, rfl, e1⟩ (by decide) (by decide)

theorem pn_mm1_30 : plainFor mn0 = true := plainFor_of_name (show plainName "com/example/stroll/stroll/ExplicitMetric$Weights" = true by first | (simp [plainName, overriddenIn]; done) | decide +kernel)
set_option maxRecDepth 65536 in
set_option maxHeartbeats 40000000 in
theorem mm1_30 (l : Launch) (Z : State) (a0 : Array Value) (hw : ∀ d ∈ tables_1, d.before a0 Z = true) (b0 : Addr) (q1 : Int32) (h0 : Heap) (FZ : OwnF Z Z.heap ) (O0 : Old Z Z.heap.size h0) (ge_b0 : Z.heap.size ≤ b0) (E_b0 : Exa Z h0 b0 "com/example/stroll/stroll/ExplicitMetric$Weights") (D_b0_blocks : Fld Z h0 b0 "com/example/stroll/stroll/ExplicitMetric$Weights" "blocks" "[[J" .null) (D_b0_given : Fld Z h0 b0 "com/example/stroll/stroll/ExplicitMetric$Weights" "given" "I" (.int (0 : Int32))) (D_b0_pairs : Fld Z h0 b0 "com/example/stroll/stroll/ExplicitMetric$Weights" "pairs" "J" (.long (0 : Int64))) (D_b0_size : Fld Z h0 b0 "com/example/stroll/stroll/ExplicitMetric$Weights" "size" "I" (.int (0 : Int32))) (hnb : nbOf (pairsOf q1) = 3) :
    OMeets l Z mn0 prog_28_method_1_code 2 none [] ({ frames := 1, cells := 1, slots := 3, locals := 12 } : Room) #[(.ref b0), (.int q1)] h0 (fun v h L => ∃ o7 : Addr, ∃ kq_o7 : ClassId, v = none ∧ Fr Z.heap.size L ∧ Keep h0 h [b0] ∧ h0.size ≤ o7 ∧ Ary Z h o7 kq_o7 (.array .long) 3 (fun _ => .null) ∧ OvrA Z kq_o7 .long "[J" ∧ Fld Z h b0 "com/example/stroll/stroll/ExplicitMetric$Weights" "blocks" "[[J" (.ref o7) ∧ Fld Z h b0 "com/example/stroll/stroll/ExplicitMetric$Weights" "given" "I" (.int (0 : Int32)) ∧ Fld Z h b0 "com/example/stroll/stroll/ExplicitMetric$Weights" "pairs" "J" (.long (pairsOf q1)) ∧ Fld Z h b0 "com/example/stroll/stroll/ExplicitMetric$Weights" "size" "I" (.int q1)) := by
  refine OMeets.of pn_mm1_30 #[.val (.ref b0), .val (.int q1)] (fun m => by first | rfl | (simp [entryFrame, mkF, argsToLocals, Value.category, maxLocals]; done)) ?_
  intro p e s m below meth c s₁ B X0 e0
  have F0 := trivial
  refine s_aloadN B X0 (pc' := 1) d1_0 rfl rfl rfl ?_
  refine s_initO B X0 (pc' := 4) (W := 0) e0 (tw6 hw) (tw7 hw) (tw8 hw) rfl (by decide) (by decide) rfl d1_1 rfl (fun T1 X1 e1 => ?_)
  refine s_aloadN B X1 (pc' := 5) d1_4 rfl rfl rfl ?_
  refine s_iloadN B X1 (pc' := 6) d1_5 rfl rfl ?_
  refine s_putF B X1 (pc' := 9) (ty := .int) e1 (host := "") (Or.inl (tw9 hw)) Via.refl D_b0_size E_b0 (Or.inr ⟨(tw10 hw), rfl, rfl⟩) (tw1 hw) (by decide) rfl rfl d1_6 rfl (fun T2 h2 X2 e2 W2 => ?_)
  have G2 := D_b0_size.same W2
  have N2 := Fr.snoc X2 (Fr.nil _) ge_b0
  have O2 := (O0).wr W2 ge_b0
  have K2 := ((Keep.refl h0 [b0])).wr W2 (Or.inl (List.mem_of_getElem? (i := 0) rfl))
  show Go p e below _ (T2.setTop (mkF m 9 #[.val (.ref b0), .val (.int q1)] []))
  refine s_aloadN B X2 (pc' := 10) d1_9 rfl rfl rfl ?_
  refine s_iloadN B X2 (pc' := 11) d1_10 rfl rfl ?_
  refine s_i2l B X2 (pc' := 12) (v := q1.toInt64) d1_11 rfl rfl ?_
  refine s_iloadN B X2 (pc' := 13) d1_12 rfl rfl ?_
  refine s_iconst B X2 (pc' := 14) (v := (1 : Int32)) d1_13 rfl rfl ?_
  refine s_isub B X2 (pc' := 15) (v := (q1 - (1 : Int32))) d1_14 rfl rfl ?_
  refine s_i2l B X2 (pc' := 16) (v := (q1 - (1 : Int32)).toInt64) d1_15 rfl rfl ?_
  refine s_lmul B X2 (pc' := 17) (v := (q1.toInt64 * (q1 - (1 : Int32)).toInt64)) d1_16 rfl rfl ?_
  refine s_ldc2 B X2 (pc' := 20) (v := (2 : Int64)) (tw11 hw) d1_17 rfl ?_
  refine s_ldiv B X2 (pc' := 21) (v := (pairsOf q1)) d1_20 (rfl) (by decide) rfl ?_
  have f4 := (D_b0_pairs.other W2 (Or.inr (slot_ne (Or.inr (tw13 hw)) (Or.inr (tw10 hw)) (by decide) (t := .long) (t' := .int) (by decide) (by decide))))
  have f5 := (E_b0.wr W2)
  refine s_putF B X2 (pc' := 24) (ty := .long) e2 (host := "") (Or.inl (tw12 hw)) Via.refl f4 f5 (Or.inr ⟨(tw13 hw), rfl, rfl⟩) (tw1 hw) (by decide) rfl rfl d1_21 rfl (fun T3 h3 X3 e3 W3 => ?_)
  have G3 := f4.same W3
  have N3 := Fr.snoc X3 N2 ge_b0
  have O3 := (O2).wr W3 ge_b0
  have K3 := (K2).wr W3 (Or.inl (List.mem_of_getElem? (i := 0) rfl))
  show Go p e below _ (T3.setTop (mkF m 24 #[.val (.ref b0), .val (.int q1)] []))
  refine s_aloadN B X3 (pc' := 25) d1_24 rfl rfl rfl ?_
  refine s_aloadN B X3 (pc' := 26) d1_25 rfl rfl rfl ?_
  refine s_getF B X3 (pc' := 29) e3 (host := "") (Or.inl (tw12 hw)) Via.refl G3 d1_26 rfl (fun T6 X6 e6 => ?_)
  refine s_ldc2 B X6 (pc' := 32) (v := (4096 : Int64)) (tw14 hw) d1_29 rfl ?_
  refine s_ladd B X6 (pc' := 33) (v := ((pairsOf q1) + (4096 : Int64))) d1_32 rfl rfl ?_
  refine s_lconst B X6 (pc' := 34) (v := (1 : Int64)) d1_33 rfl rfl ?_
  refine s_lsub B X6 (pc' := 35) (v := (((pairsOf q1) + (4096 : Int64)) - (1 : Int64))) d1_34 rfl rfl ?_
  refine s_bipush B X6 (pc' := 37) (v := (12 : Int32)) d1_35 rfl rfl ?_
  refine s_lushr B X6 (pc' := 38) (v := (((((pairsOf q1) + (4096 : Int64)) - (1 : Int64)).toUInt64 >>> ((12 : Int32) &&& 0x3f).toInt64.toUInt64).toInt64)) d1_37 rfl rfl ?_
  refine s_l2i B X6 (pc' := 39) (v := (3 : Int32)) d1_38 (hnb) rfl ?_
  refine s_newRA B X6 (pc' := 42) (N := 3) (cap := 3) (ty := .long) (C := "[J") e6 rfl (tw15 hw) (tw16 hw) (by decide) (by decide) (by decide) (by decide) (by decide) (by decide) d1_39 rfl (fun T7 h7 o7 k7 g7 X7 e7 E7 A7 V7 => ?_)
  have f8 := (f5.wr W3)
  have ne_b0_o7 : b0 ≠ o7 := Nat.ne_of_lt (g7 ▸ f8.lt)
  have ge_o7 : Z.heap.size ≤ o7 := g7 ▸ old_le O3
  have le_o7 : h0.size ≤ o7 := g7 ▸ (K3).1
  have O7 := (O3).ext E7
  have K7 := (K3).ext E7
  show Go p e below _ (T7.setTop (mkF m 42 #[.val (.ref b0), .val (.int q1)] [(.ref o7), (.ref b0)]))
  have f10 := (((D_b0_blocks.other W2 (Or.inr (slot_ne (Or.inr (tw18 hw)) (Or.inr (tw10 hw)) (by decide) (t := (.array (.array .long))) (t' := .int) (by decide) (by decide)))).other W3 (Or.inr (slot_ne (Or.inr (tw18 hw)) (Or.inr (tw13 hw)) (by decide) (t := (.array (.array .long))) (t' := .long) (by decide) (by decide)))).ext E7)
  have f11 := (f8.ext E7)
  refine s_putF B X7 (pc' := 45) (ty := (.array (.array .long))) e7 (host := "") (Or.inl (tw17 hw)) Via.refl f10 f11 (Or.inr ⟨(tw18 hw), rfl, rfl⟩) (tw1 hw) (by decide) rfl rfl d1_42 rfl (fun T9 h9 X9 e9 W9 => ?_)
  have G9 := f10.same W9
  have N9 := Fr.snoc X9 N3 ge_b0
  have O9 := (O7).wr W9 ge_b0
  have K9 := (K7).wr W9 (Or.inl (List.mem_of_getElem? (i := 0) rfl))
  show Go p e below _ (T9.setTop (mkF m 45 #[.val (.ref b0), .val (.int q1)] []))
  have f12 := (Ary.other W9 A7 (Ne.symm ne_b0_o7))
  have f13 := ((((D_b0_given.other W2 (Or.inr (slot_ne (Or.inl (tw25 hw)) (Or.inr (tw10 hw)) (by decide) (t := .int) (t' := .int) (by decide) (by decide)))).other W3 (Or.inr (slot_ne (Or.inl (tw25 hw)) (Or.inr (tw13 hw)) (by decide) (t := .int) (t' := .long) (by decide) (by decide)))).ext E7).other W9 (Or.inr (slot_ne (Or.inl (tw25 hw)) (Or.inr (tw18 hw)) (by decide) (t := .int) (t' := (.array (.array .long))) (by decide) (by decide))))
  have f14 := ((G3.ext E7).other W9 (Or.inr (slot_ne (Or.inr (tw13 hw)) (Or.inr (tw18 hw)) (by decide) (t := .long) (t' := (.array (.array .long))) (by decide) (by decide))))
  have f15 := (((G2.other W3 (Or.inr (slot_ne (Or.inr (tw10 hw)) (Or.inr (tw13 hw)) (by decide) (t := .int) (t' := .long) (by decide) (by decide)))).ext E7).other W9 (Or.inr (slot_ne (Or.inr (tw10 hw)) (Or.inr (tw18 hw)) (by decide) (t := .int) (t' := (.array (.array .long))) (by decide) (by decide))))
  exact r_void B X9 rfl d1_45 (by rw [e9]; exact ⟨o7, k7, rfl, N9, K9, le_o7, f12, V7, G9, f13, f14, f15⟩) (by decide) (by decide)

theorem pn_mm3_31 : plainFor mn2 = true := plainFor_of_name (show plainName "com/example/stroll/stroll/ExplicitMetric$Weights" = true by first | (simp [plainName, overriddenIn]; done) | decide +kernel)
set_option maxRecDepth 65536 in
set_option maxHeartbeats 40000000 in
theorem mm3_31 (l : Launch) (Z : State) (a0 : Array Value) (hw : ∀ d ∈ tables_1, d.before a0 Z = true) (b0 : Addr) (q1 : Int64) (b2 : Addr) (q3 : Int64) (q4 : Int32) (k_b2 : ClassId) (h0 : Heap) (FZ : OwnF Z Z.heap ) (O0 : Old Z Z.heap.size h0) (ge_b0 : Z.heap.size ≤ b0) (E_b0 : Exa Z h0 b0 "com/example/stroll/stroll/ExplicitMetric$Weights") (D_b0_blocks : Fld Z h0 b0 "com/example/stroll/stroll/ExplicitMetric$Weights" "blocks" "[[J" (.ref b2)) (D_b0_given : Fld Z h0 b0 "com/example/stroll/stroll/ExplicitMetric$Weights" "given" "I" (.int (0 : Int32))) (D_b0_pairs : Fld Z h0 b0 "com/example/stroll/stroll/ExplicitMetric$Weights" "pairs" "J" (.long q3)) (D_b0_size : Fld Z h0 b0 "com/example/stroll/stroll/ExplicitMetric$Weights" "size" "I" (.int q4)) (ge_b2 : Z.heap.size ≤ b2) (A_b2 : Ary Z h0 b2 k_b2 (.array .long) 3 (fun _ => .null)) (V_b2 : OvrA Z k_b2 .long "[J") (ne_b0_b2 : b0 ≠ b2) (sd0 : 3 ≤ q3.toInt) (hk1 : q3 < (4096 : Int64)) :
    OMeets l Z mn2 prog_28_method_5_code 4 none [] ({ frames := 1, cells := 1, slots := 4096, locals := 17 } : Room) #[(.ref b0), (.long q1)] h0 (fun v h L => ∃ o6 : Addr, ∃ kq_o6 : ClassId, v = none ∧ Fr Z.heap.size L ∧ Keep h0 h [b0, b2] ∧ h0.size ≤ o6 ∧ Exa Z h o6 "[J" ∧ Ary Z h o6 kq_o6 .long (own_n q3) (upd (fun _ => (.long (0 : Int64))) 0 (.long q1)) ∧ Fld Z h b0 "com/example/stroll/stroll/ExplicitMetric$Weights" "blocks" "[[J" (.ref b2) ∧ Fld Z h b0 "com/example/stroll/stroll/ExplicitMetric$Weights" "given" "I" (.int (1 : Int32)) ∧ Fld Z h b0 "com/example/stroll/stroll/ExplicitMetric$Weights" "pairs" "J" (.long q3) ∧ Fld Z h b0 "com/example/stroll/stroll/ExplicitMetric$Weights" "size" "I" (.int q4) ∧ Ary Z h b2 k_b2 (.array .long) 3 (upd (fun _ => .null) 0 (.ref o6))) := by
  refine OMeets.of pn_mm3_31 #[.val (.ref b0), .val (.long q1), .second, .unset] (fun m => by first | rfl | (simp [entryFrame, mkF, argsToLocals, Value.category, maxLocals]; done)) ?_
  intro p e s m below meth c s₁ B X0 e0
  have F0 := trivial
  refine s_aloadN B X0 (pc' := 1) d3_0 rfl rfl rfl ?_
  refine s_getF B X0 (pc' := 4) e0 (host := "") (Or.inl (tw24 hw)) Via.refl D_b0_given d3_1 rfl (fun T1 X1 e1 => ?_)
  refine s_bipush B X1 (pc' := 6) (v := (12 : Int32)) d3_4 rfl rfl ?_
  refine s_iushr B X1 (pc' := 7) (v := (0 : Int32)) d3_6 (by decide +kernel) rfl ?_
  refine s_istoreN B X1 (pc' := 8) (Ls' := #[.val (.ref b0), .val (.long q1), .second, .val (.int (0 : Int32))]) d3_7 rfl rfl ?_
  refine s_aloadN B X1 (pc' := 9) d3_8 rfl rfl rfl ?_
  refine s_getF B X1 (pc' := 12) e1 (host := "") (Or.inl (tw17 hw)) Via.refl D_b0_blocks d3_9 rfl (fun T2 X2 e2 => ?_)
  refine s_iloadN B X2 (pc' := 13) d3_12 rfl rfl ?_
  refine s_ldR B X2 (pc' := 14) (jn := 0) (v := .null) e2 A_b2 rfl (by decide) (by decide) (by omega) rfl d3_13 rfl ?_
  refine s_ifnonnullN B X2 (pc' := 17) d3_14 rfl ?_
  refine s_aloadN B X2 (pc' := 18) d3_17 rfl rfl rfl ?_
  refine s_getF B X2 (pc' := 21) e2 (host := "") (Or.inl (tw17 hw)) Via.refl D_b0_blocks d3_18 rfl (fun T3 X3 e3 => ?_)
  refine s_iloadN B X3 (pc' := 22) d3_21 rfl rfl ?_
  refine s_ldc2 B X3 (pc' := 25) (v := (4096 : Int64)) (tw14 hw) d3_22 rfl ?_
  refine s_aloadN B X3 (pc' := 26) d3_25 rfl rfl rfl ?_
  refine s_getF B X3 (pc' := 29) e3 (host := "") (Or.inl (tw12 hw)) Via.refl D_b0_pairs d3_26 rfl (fun T4 X4 e4 => ?_)
  refine s_iloadN B X4 (pc' := 30) d3_29 rfl rfl ?_
  refine s_i2l B X4 (pc' := 31) (v := (0 : Int64)) d3_30 rfl rfl ?_
  refine s_bipush B X4 (pc' := 33) (v := (12 : Int32)) d3_31 rfl rfl ?_
  refine s_lshl B X4 (pc' := 34) (v := (0 : Int64)) d3_33 (by decide +kernel) rfl ?_
  refine s_lsub B X4 (pc' := 35) (v := q3) d3_34 (Int64.sub_zero _) rfl ?_
  refine p_static B X4 (y := mn1) (pc' := 38) (argsL := [(.long (4096 : Int64)), (.long q3)]) (under := [(.int (0 : Int32)), (.ref b2)]) (W := 2) e4 (tw26 hw) (tw27 hw) (tw29 hw) (tw28 hw) (by decide) (rm4_0 l Z a0 hw q3  h0 F0 hk1) (lenOf pd_1 rfl) rfl rfl (by decide) (by decide) rfl rfl (by decide) (by decide) rfl d3_35 rfl (fun T5 X5 e5 => ?_)
  show Go p e below _ (T5.setTop (mkF m 38 #[.val (.ref b0), .val (.long q1), .second, .val (.int (0 : Int32))] [(.long q3), (.int (0 : Int32)), (.ref b2)]))
  refine s_l2i B X5 (pc' := 39) (v := q3.toInt32) d3_38 rfl rfl ?_
  have hlq3 := own_len sd0 hk1
  have h3q3 := hlq3.2.2
  refine s_newPE B X5 (pc' := 41) (aty := .long) (N := (own_n q3)) (cap := 4096) (ad := "[J") e5 (by decide) (tw30 hw) hlq3.1 rfl hlq3.2.1 (by decide) (by decide) (by decide) d3_39 rfl (fun T6 h6 o6 k6 g6 X6 e6 E6 A6 Y6 => ?_)
  have ne_b0_o6 : b0 ≠ o6 := Nat.ne_of_lt (g6 ▸ E_b0.lt)
  have ne_b2_o6 : b2 ≠ o6 := Nat.ne_of_lt (g6 ▸ A_b2.lt)
  have ge_o6 : Z.heap.size ≤ o6 := g6 ▸ old_le O0
  have le_o6 : h0.size ≤ o6 := g6 ▸ ((Keep.refl h0 [b0, b2])).1
  replace A6 : Ary Z h6 o6 k6 .long (own_n q3) (fun _ => (.long (0 : Int64))) := A6
  have O6 := (O0).ext E6
  have K6 := ((Keep.refl h0 [b0, b2])).ext E6
  show Go p e below _ (T6.setTop (mkF m 41 #[.val (.ref b0), .val (.long q1), .second, .val (.int (0 : Int32))] [(.ref o6), (.int (0 : Int32)), (.ref b2)]))
  have f8 := (A_b2.ext E6)
  refine s_stR B X6 (pc' := 42) (jn := 0) e6 f8 rfl (Ary.stoA f8 V_b2 (Ins.self Y6)) (by decide) (by decide) (by omega) d3_41 rfl (fun T7 h7 X7 e7 W7 A7 => ?_)
  have N7 := Fr.snoc X7 (Fr.nil _) ge_b2
  have O7 := (O6).wr W7 ge_b2
  have K7 := (K6).wr W7 (Or.inl (List.mem_of_getElem? (i := 1) rfl))
  show Go p e below _ (T7.setTop (mkF m 42 #[.val (.ref b0), .val (.long q1), .second, .val (.int (0 : Int32))] []))
  refine s_aloadN B X7 (pc' := 43) d3_42 rfl rfl rfl ?_
  have f9 := ((D_b0_blocks.ext E6).other W7 (Or.inl ne_b0_b2))
  refine s_getF B X7 (pc' := 46) e7 (host := "") (Or.inl (tw17 hw)) Via.refl f9 d3_43 rfl (fun T10 X10 e10 => ?_)
  refine s_iloadN B X10 (pc' := 47) d3_46 rfl rfl ?_
  refine s_ldR B X10 (pc' := 48) (jn := 0) (v := (.ref o6)) e10 A7 rfl (by decide) (by decide) (by omega) rfl d3_47 rfl ?_
  refine s_aloadN B X10 (pc' := 49) d3_48 rfl rfl rfl ?_
  have f11 := ((D_b0_given.ext E6).other W7 (Or.inl ne_b0_b2))
  refine s_getF B X10 (pc' := 52) e10 (host := "") (Or.inl (tw24 hw)) Via.refl f11 d3_49 rfl (fun T12 X12 e12 => ?_)
  refine s_sipush B X12 (pc' := 55) (v := (4095 : Int32)) d3_52 rfl rfl ?_
  refine s_iand B X12 (pc' := 56) (v := (0 : Int32)) d3_55 rfl rfl ?_
  refine s_lloadN B X12 (pc' := 57) d3_56 rfl rfl ?_
  have f14 := (Ary.other W7 A6 (Ne.symm ne_b2_o6))
  refine s_stJ B X12 (pc' := 58) (jn := 0) e12 f14  (by decide) (by decide) (by omega) d3_57 rfl (fun T13 h13 X13 e13 W13 A13 => ?_)
  have N13 := Fr.snoc X13 N7 ge_o6
  have O13 := (O7).wr W13 ge_o6
  have K13 := (K7).wr W13 (Or.inr le_o6)
  show Go p e below _ (T13.setTop (mkF m 58 #[.val (.ref b0), .val (.long q1), .second, .val (.int (0 : Int32))] []))
  refine s_aloadN B X13 (pc' := 59) d3_58 rfl rfl rfl ?_
  refine s_dup B X13 (pc' := 60) d3_59 rfl rfl ?_
  have f15 := (f11.other W13 (Or.inl ne_b0_o6))
  refine s_getF B X13 (pc' := 63) e13 (host := "") (Or.inl (tw24 hw)) Via.refl f15 d3_60 rfl (fun T16 X16 e16 => ?_)
  refine s_iconst B X16 (pc' := 64) (v := (1 : Int32)) d3_63 rfl rfl ?_
  refine s_iadd B X16 (pc' := 65) (v := (1 : Int32)) d3_64 rfl rfl ?_
  have f18 := (((E_b0.ext E6).wr W7).wr W13)
  refine s_putF B X16 (pc' := 68) (ty := .int) e16 (host := "") (Or.inl (tw24 hw)) Via.refl f15 f18 (Or.inl (tw25 hw)) (tw1 hw) (by decide) rfl rfl d3_65 rfl (fun T17 h17 X17 e17 W17 => ?_)
  have G17 := f15.same W17
  have N17 := Fr.snoc X17 N13 ge_b0
  have O17 := (O13).wr W17 ge_b0
  have K17 := (K13).wr W17 (Or.inl (List.mem_of_getElem? (i := 0) rfl))
  show Go p e below _ (T17.setTop (mkF m 68 #[.val (.ref b0), .val (.long q1), .second, .val (.int (0 : Int32))] []))
  have f19 := (((Y6.wr W7).wr W13).wr W17)
  have f20 := (Ary.other W17 A13 (Ne.symm ne_b0_o6))
  have f21 := ((f9.other W13 (Or.inl ne_b0_o6)).other W17 (Or.inr (slot_ne (Or.inr (tw18 hw)) (Or.inl (tw25 hw)) (by decide) (t := (.array (.array .long))) (t' := .int) (by decide) (by decide))))
  have f22 := ((((D_b0_pairs.ext E6).other W7 (Or.inl ne_b0_b2)).other W13 (Or.inl ne_b0_o6)).other W17 (Or.inr (slot_ne (Or.inr (tw13 hw)) (Or.inl (tw25 hw)) (by decide) (t := .long) (t' := .int) (by decide) (by decide))))
  have f23 := ((((D_b0_size.ext E6).other W7 (Or.inl ne_b0_b2)).other W13 (Or.inl ne_b0_o6)).other W17 (Or.inr (slot_ne (Or.inr (tw10 hw)) (Or.inl (tw25 hw)) (by decide) (t := .int) (t' := .int) (by decide) (by decide))))
  have f24 := (Ary.other W17 (Ary.other W13 A7 ne_b2_o6) (Ne.symm ne_b0_b2))
  exact r_void B X17 rfl d3_68 (by rw [e17]; exact ⟨o6, k6, rfl, N17, K17, le_o6, f19, f20, f21, G17, f22, f23, f24⟩) (by decide) (by decide)

theorem pn_mm5_32 : plainFor mn3 = true := plainFor_of_name (show plainName "com/example/stroll/stroll/ExplicitMetric$Weights" = true by first | (simp [plainName, overriddenIn]; done) | decide +kernel)
set_option maxRecDepth 65536 in
set_option maxHeartbeats 40000000 in
theorem mm5_32 (l : Launch) (Z : State) (a0 : Array Value) (hw : ∀ d ∈ tables_1, d.before a0 Z = true) (b0 : Addr) (b1 : Addr) (b2 : Addr) (q3 : Int64) (q4 : Int32) (k_b1 : ClassId) (k_b2 : ClassId) (q5 : Int64) (n0 : Nat) (h0 : Heap) (FZ : OwnF Z Z.heap ) (O0 : Old Z Z.heap.size h0) (ge_b0 : Z.heap.size ≤ b0) (E_b0 : Exa Z h0 b0 "com/example/stroll/stroll/ExplicitMetric$Weights") (D_b0_blocks : Fld Z h0 b0 "com/example/stroll/stroll/ExplicitMetric$Weights" "blocks" "[[J" (.ref b1)) (D_b0_given : Fld Z h0 b0 "com/example/stroll/stroll/ExplicitMetric$Weights" "given" "I" (.int (1 : Int32))) (D_b0_pairs : Fld Z h0 b0 "com/example/stroll/stroll/ExplicitMetric$Weights" "pairs" "J" (.long q3)) (D_b0_size : Fld Z h0 b0 "com/example/stroll/stroll/ExplicitMetric$Weights" "size" "I" (.int q4)) (ge_b1 : Z.heap.size ≤ b1) (A_b1 : Ary Z h0 b1 k_b1 (.array .long) 3 (upd (fun _ => .null) 0 (.ref b2))) (V_b1 : OvrA Z k_b1 .long "[J") (ge_b2 : Z.heap.size ≤ b2) (E_b2 : Exa Z h0 b2 "[J") (A_b2 : Ary Z h0 b2 k_b2 .long n0 (upd (fun _ => (.long (0 : Int64))) 0 (.long q5))) (ne_b0_b1 : b0 ≠ b1) (ne_b0_b2 : b0 ≠ b2) (ne_b1_b2 : b1 ≠ b2) (sd0 : 3 ≤ q3.toInt) (sd1 : 3 ≤ n0) (hk2 : q3 < (4096 : Int64)) :
    OMeets l Z mn3 prog_28_method_4_code 2 (some .long) [] ({ frames := 0, cells := 0, slots := 0, locals := 0 } : Room) #[(.ref b0), (.int (0 : Int32))] h0 (PureQ (some (.long q5)) h0) := by
  refine OMeets.of pn_mm5_32 #[.val (.ref b0), .val (.int (0 : Int32))] (fun m => by first | rfl | (simp [entryFrame, mkF, argsToLocals, Value.category, maxLocals]; done)) ?_
  intro p e s m below meth c s₁ B X0 e0
  have F0 := trivial
  refine s_aloadN B X0 (pc' := 1) d5_0 rfl rfl rfl ?_
  refine s_getF B X0 (pc' := 4) e0 (host := "") (Or.inl (tw17 hw)) Via.refl D_b0_blocks d5_1 rfl (fun T1 X1 e1 => ?_)
  refine s_iloadN B X1 (pc' := 5) d5_4 rfl rfl ?_
  refine s_bipush B X1 (pc' := 7) (v := (12 : Int32)) d5_5 rfl rfl ?_
  refine s_iushr B X1 (pc' := 8) (v := (0 : Int32)) d5_7 (by decide +kernel) rfl ?_
  refine s_ldR B X1 (pc' := 9) (jn := 0) (v := (.ref b2)) e1 A_b1 rfl (by decide) (by decide) (by omega) rfl d5_8 rfl ?_
  refine s_iloadN B X1 (pc' := 10) d5_9 rfl rfl ?_
  refine s_sipush B X1 (pc' := 13) (v := (4095 : Int32)) d5_10 rfl rfl ?_
  refine s_iand B X1 (pc' := 14) (v := (0 : Int32)) d5_13 rfl rfl ?_
  refine s_ldJ B X1 (pc' := 15) (jn := 0) (v := (.long q5)) e1 A_b2 (by decide) (by decide) (by omega) rfl d5_14 rfl ?_
  exact r_long B X1 rfl d5_15 ⟨rfl, rfl, e1⟩ (by decide) (by decide)

theorem pn_mm3_33 : plainFor mn2 = true := plainFor_of_name (show plainName "com/example/stroll/stroll/ExplicitMetric$Weights" = true by first | (simp [plainName, overriddenIn]; done) | decide +kernel)
set_option maxRecDepth 65536 in
set_option maxHeartbeats 40000000 in
theorem mm3_33 (l : Launch) (Z : State) (a0 : Array Value) (hw : ∀ d ∈ tables_1, d.before a0 Z = true) (b0 : Addr) (q1 : Int64) (b2 : Addr) (b3 : Addr) (q4 : Int64) (q5 : Int32) (k_b2 : ClassId) (k_b3 : ClassId) (q6 : Int64) (n0 : Nat) (h0 : Heap) (FZ : OwnF Z Z.heap ) (O0 : Old Z Z.heap.size h0) (ge_b0 : Z.heap.size ≤ b0) (E_b0 : Exa Z h0 b0 "com/example/stroll/stroll/ExplicitMetric$Weights") (D_b0_blocks : Fld Z h0 b0 "com/example/stroll/stroll/ExplicitMetric$Weights" "blocks" "[[J" (.ref b2)) (D_b0_given : Fld Z h0 b0 "com/example/stroll/stroll/ExplicitMetric$Weights" "given" "I" (.int (1 : Int32))) (D_b0_pairs : Fld Z h0 b0 "com/example/stroll/stroll/ExplicitMetric$Weights" "pairs" "J" (.long q4)) (D_b0_size : Fld Z h0 b0 "com/example/stroll/stroll/ExplicitMetric$Weights" "size" "I" (.int q5)) (ge_b2 : Z.heap.size ≤ b2) (A_b2 : Ary Z h0 b2 k_b2 (.array .long) 3 (upd (fun _ => .null) 0 (.ref b3))) (V_b2 : OvrA Z k_b2 .long "[J") (ge_b3 : Z.heap.size ≤ b3) (E_b3 : Exa Z h0 b3 "[J") (A_b3 : Ary Z h0 b3 k_b3 .long n0 (upd (fun _ => (.long (0 : Int64))) 0 (.long q6))) (ne_b0_b2 : b0 ≠ b2) (ne_b0_b3 : b0 ≠ b3) (ne_b2_b3 : b2 ≠ b3) (sd0 : 3 ≤ q4.toInt) (sd1 : 3 ≤ n0) (hk2 : q4 < (4096 : Int64)) :
    OMeets l Z mn2 prog_28_method_5_code 4 none [] ({ frames := 0, cells := 0, slots := 0, locals := 0 } : Room) #[(.ref b0), (.long q1)] h0 (fun v h L => v = none ∧ Fr Z.heap.size L ∧ Keep h0 h [b0, b3] ∧ Fld Z h b0 "com/example/stroll/stroll/ExplicitMetric$Weights" "blocks" "[[J" (.ref b2) ∧ Fld Z h b0 "com/example/stroll/stroll/ExplicitMetric$Weights" "given" "I" (.int (2 : Int32)) ∧ Fld Z h b0 "com/example/stroll/stroll/ExplicitMetric$Weights" "pairs" "J" (.long q4) ∧ Fld Z h b0 "com/example/stroll/stroll/ExplicitMetric$Weights" "size" "I" (.int q5) ∧ Ary Z h b3 k_b3 .long n0 (upd (upd (fun _ => (.long (0 : Int64))) 0 (.long q6)) 1 (.long q1))) := by
  refine OMeets.of pn_mm3_33 #[.val (.ref b0), .val (.long q1), .second, .unset] (fun m => by first | rfl | (simp [entryFrame, mkF, argsToLocals, Value.category, maxLocals]; done)) ?_
  intro p e s m below meth c s₁ B X0 e0
  have F0 := trivial
  refine s_aloadN B X0 (pc' := 1) d3_0 rfl rfl rfl ?_
  refine s_getF B X0 (pc' := 4) e0 (host := "") (Or.inl (tw24 hw)) Via.refl D_b0_given d3_1 rfl (fun T1 X1 e1 => ?_)
  refine s_bipush B X1 (pc' := 6) (v := (12 : Int32)) d3_4 rfl rfl ?_
  refine s_iushr B X1 (pc' := 7) (v := (0 : Int32)) d3_6 (by decide +kernel) rfl ?_
  refine s_istoreN B X1 (pc' := 8) (Ls' := #[.val (.ref b0), .val (.long q1), .second, .val (.int (0 : Int32))]) d3_7 rfl rfl ?_
  refine s_aloadN B X1 (pc' := 9) d3_8 rfl rfl rfl ?_
  refine s_getF B X1 (pc' := 12) e1 (host := "") (Or.inl (tw17 hw)) Via.refl D_b0_blocks d3_9 rfl (fun T2 X2 e2 => ?_)
  refine s_iloadN B X2 (pc' := 13) d3_12 rfl rfl ?_
  refine s_ldR B X2 (pc' := 14) (jn := 0) (v := (.ref b3)) e2 A_b2 rfl (by decide) (by decide) (by omega) rfl d3_13 rfl ?_
  refine s_ifnonnullY B X2 (pc' := 42) d3_14 (by decide) (by decide) ?_
  refine s_aloadN B X2 (pc' := 43) d3_42 rfl rfl rfl ?_
  refine s_getF B X2 (pc' := 46) e2 (host := "") (Or.inl (tw17 hw)) Via.refl D_b0_blocks d3_43 rfl (fun T3 X3 e3 => ?_)
  refine s_iloadN B X3 (pc' := 47) d3_46 rfl rfl ?_
  refine s_ldR B X3 (pc' := 48) (jn := 0) (v := (.ref b3)) e3 A_b2 rfl (by decide) (by decide) (by omega) rfl d3_47 rfl ?_
  refine s_aloadN B X3 (pc' := 49) d3_48 rfl rfl rfl ?_
  refine s_getF B X3 (pc' := 52) e3 (host := "") (Or.inl (tw24 hw)) Via.refl D_b0_given d3_49 rfl (fun T4 X4 e4 => ?_)
  refine s_sipush B X4 (pc' := 55) (v := (4095 : Int32)) d3_52 rfl rfl ?_
  refine s_iand B X4 (pc' := 56) (v := (1 : Int32)) d3_55 rfl rfl ?_
  refine s_lloadN B X4 (pc' := 57) d3_56 rfl rfl ?_
  refine s_stJ B X4 (pc' := 58) (jn := 1) e4 A_b3  (by decide) (by decide) (by omega) d3_57 rfl (fun T5 h5 X5 e5 W5 A5 => ?_)
  have N5 := Fr.snoc X5 (Fr.nil _) ge_b3
  have O5 := (O0).wr W5 ge_b3
  have K5 := ((Keep.refl h0 [b0, b3])).wr W5 (Or.inl (List.mem_of_getElem? (i := 1) rfl))
  show Go p e below _ (T5.setTop (mkF m 58 #[.val (.ref b0), .val (.long q1), .second, .val (.int (0 : Int32))] []))
  refine s_aloadN B X5 (pc' := 59) d3_58 rfl rfl rfl ?_
  refine s_dup B X5 (pc' := 60) d3_59 rfl rfl ?_
  have f6 := (D_b0_given.other W5 (Or.inl ne_b0_b3))
  refine s_getF B X5 (pc' := 63) e5 (host := "") (Or.inl (tw24 hw)) Via.refl f6 d3_60 rfl (fun T7 X7 e7 => ?_)
  refine s_iconst B X7 (pc' := 64) (v := (1 : Int32)) d3_63 rfl rfl ?_
  refine s_iadd B X7 (pc' := 65) (v := (2 : Int32)) d3_64 rfl rfl ?_
  have f9 := (E_b0.wr W5)
  refine s_putF B X7 (pc' := 68) (ty := .int) e7 (host := "") (Or.inl (tw24 hw)) Via.refl f6 f9 (Or.inl (tw25 hw)) (tw1 hw) (by decide) rfl rfl d3_65 rfl (fun T8 h8 X8 e8 W8 => ?_)
  have G8 := f6.same W8
  have N8 := Fr.snoc X8 N5 ge_b0
  have O8 := (O5).wr W8 ge_b0
  have K8 := (K5).wr W8 (Or.inl (List.mem_of_getElem? (i := 0) rfl))
  show Go p e below _ (T8.setTop (mkF m 68 #[.val (.ref b0), .val (.long q1), .second, .val (.int (0 : Int32))] []))
  have f10 := ((D_b0_blocks.other W5 (Or.inl ne_b0_b3)).other W8 (Or.inr (slot_ne (Or.inr (tw18 hw)) (Or.inl (tw25 hw)) (by decide) (t := (.array (.array .long))) (t' := .int) (by decide) (by decide))))
  have f11 := ((D_b0_pairs.other W5 (Or.inl ne_b0_b3)).other W8 (Or.inr (slot_ne (Or.inr (tw13 hw)) (Or.inl (tw25 hw)) (by decide) (t := .long) (t' := .int) (by decide) (by decide))))
  have f12 := ((D_b0_size.other W5 (Or.inl ne_b0_b3)).other W8 (Or.inr (slot_ne (Or.inr (tw10 hw)) (Or.inl (tw25 hw)) (by decide) (t := .int) (t' := .int) (by decide) (by decide))))
  have f13 := (Ary.other W8 A5 (Ne.symm ne_b0_b3))
  exact r_void B X8 rfl d3_68 (by rw [e8]; exact ⟨rfl, N8, K8, f10, G8, f11, f12, f13⟩) (by decide) (by decide)

theorem pn_mm3_34 : plainFor mn2 = true := plainFor_of_name (show plainName "com/example/stroll/stroll/ExplicitMetric$Weights" = true by first | (simp [plainName, overriddenIn]; done) | decide +kernel)
set_option maxRecDepth 65536 in
set_option maxHeartbeats 40000000 in
theorem mm3_34 (l : Launch) (Z : State) (a0 : Array Value) (hw : ∀ d ∈ tables_1, d.before a0 Z = true) (b0 : Addr) (q1 : Int64) (b2 : Addr) (b3 : Addr) (q4 : Int64) (q5 : Int32) (k_b2 : ClassId) (k_b3 : ClassId) (q6 : Int64) (q7 : Int64) (n0 : Nat) (h0 : Heap) (FZ : OwnF Z Z.heap ) (O0 : Old Z Z.heap.size h0) (ge_b0 : Z.heap.size ≤ b0) (E_b0 : Exa Z h0 b0 "com/example/stroll/stroll/ExplicitMetric$Weights") (D_b0_blocks : Fld Z h0 b0 "com/example/stroll/stroll/ExplicitMetric$Weights" "blocks" "[[J" (.ref b2)) (D_b0_given : Fld Z h0 b0 "com/example/stroll/stroll/ExplicitMetric$Weights" "given" "I" (.int (2 : Int32))) (D_b0_pairs : Fld Z h0 b0 "com/example/stroll/stroll/ExplicitMetric$Weights" "pairs" "J" (.long q4)) (D_b0_size : Fld Z h0 b0 "com/example/stroll/stroll/ExplicitMetric$Weights" "size" "I" (.int q5)) (ge_b2 : Z.heap.size ≤ b2) (A_b2 : Ary Z h0 b2 k_b2 (.array .long) 3 (upd (fun _ => .null) 0 (.ref b3))) (V_b2 : OvrA Z k_b2 .long "[J") (ge_b3 : Z.heap.size ≤ b3) (E_b3 : Exa Z h0 b3 "[J") (A_b3 : Ary Z h0 b3 k_b3 .long n0 (upd (upd (fun _ => (.long (0 : Int64))) 0 (.long q6)) 1 (.long q7))) (ne_b0_b2 : b0 ≠ b2) (ne_b0_b3 : b0 ≠ b3) (ne_b2_b3 : b2 ≠ b3) (sd0 : 3 ≤ q4.toInt) (sd1 : 3 ≤ n0) (hk2 : q4 < (4096 : Int64)) :
    OMeets l Z mn2 prog_28_method_5_code 4 none [] ({ frames := 0, cells := 0, slots := 0, locals := 0 } : Room) #[(.ref b0), (.long q1)] h0 (fun v h L => v = none ∧ Fr Z.heap.size L ∧ Keep h0 h [b0, b3] ∧ Fld Z h b0 "com/example/stroll/stroll/ExplicitMetric$Weights" "blocks" "[[J" (.ref b2) ∧ Fld Z h b0 "com/example/stroll/stroll/ExplicitMetric$Weights" "given" "I" (.int (3 : Int32)) ∧ Fld Z h b0 "com/example/stroll/stroll/ExplicitMetric$Weights" "pairs" "J" (.long q4) ∧ Fld Z h b0 "com/example/stroll/stroll/ExplicitMetric$Weights" "size" "I" (.int q5) ∧ Ary Z h b3 k_b3 .long n0 (upd (upd (upd (fun _ => (.long (0 : Int64))) 0 (.long q6)) 1 (.long q7)) 2 (.long q1))) := by
  refine OMeets.of pn_mm3_34 #[.val (.ref b0), .val (.long q1), .second, .unset] (fun m => by first | rfl | (simp [entryFrame, mkF, argsToLocals, Value.category, maxLocals]; done)) ?_
  intro p e s m below meth c s₁ B X0 e0
  have F0 := trivial
  refine s_aloadN B X0 (pc' := 1) d3_0 rfl rfl rfl ?_
  refine s_getF B X0 (pc' := 4) e0 (host := "") (Or.inl (tw24 hw)) Via.refl D_b0_given d3_1 rfl (fun T1 X1 e1 => ?_)
  refine s_bipush B X1 (pc' := 6) (v := (12 : Int32)) d3_4 rfl rfl ?_
  refine s_iushr B X1 (pc' := 7) (v := (0 : Int32)) d3_6 (by decide +kernel) rfl ?_
  refine s_istoreN B X1 (pc' := 8) (Ls' := #[.val (.ref b0), .val (.long q1), .second, .val (.int (0 : Int32))]) d3_7 rfl rfl ?_
  refine s_aloadN B X1 (pc' := 9) d3_8 rfl rfl rfl ?_
  refine s_getF B X1 (pc' := 12) e1 (host := "") (Or.inl (tw17 hw)) Via.refl D_b0_blocks d3_9 rfl (fun T2 X2 e2 => ?_)
  refine s_iloadN B X2 (pc' := 13) d3_12 rfl rfl ?_
  refine s_ldR B X2 (pc' := 14) (jn := 0) (v := (.ref b3)) e2 A_b2 rfl (by decide) (by decide) (by omega) rfl d3_13 rfl ?_
  refine s_ifnonnullY B X2 (pc' := 42) d3_14 (by decide) (by decide) ?_
  refine s_aloadN B X2 (pc' := 43) d3_42 rfl rfl rfl ?_
  refine s_getF B X2 (pc' := 46) e2 (host := "") (Or.inl (tw17 hw)) Via.refl D_b0_blocks d3_43 rfl (fun T3 X3 e3 => ?_)
  refine s_iloadN B X3 (pc' := 47) d3_46 rfl rfl ?_
  refine s_ldR B X3 (pc' := 48) (jn := 0) (v := (.ref b3)) e3 A_b2 rfl (by decide) (by decide) (by omega) rfl d3_47 rfl ?_
  refine s_aloadN B X3 (pc' := 49) d3_48 rfl rfl rfl ?_
  refine s_getF B X3 (pc' := 52) e3 (host := "") (Or.inl (tw24 hw)) Via.refl D_b0_given d3_49 rfl (fun T4 X4 e4 => ?_)
  refine s_sipush B X4 (pc' := 55) (v := (4095 : Int32)) d3_52 rfl rfl ?_
  refine s_iand B X4 (pc' := 56) (v := (2 : Int32)) d3_55 rfl rfl ?_
  refine s_lloadN B X4 (pc' := 57) d3_56 rfl rfl ?_
  refine s_stJ B X4 (pc' := 58) (jn := 2) e4 A_b3  (by decide) (by decide) (by omega) d3_57 rfl (fun T5 h5 X5 e5 W5 A5 => ?_)
  have N5 := Fr.snoc X5 (Fr.nil _) ge_b3
  have O5 := (O0).wr W5 ge_b3
  have K5 := ((Keep.refl h0 [b0, b3])).wr W5 (Or.inl (List.mem_of_getElem? (i := 1) rfl))
  show Go p e below _ (T5.setTop (mkF m 58 #[.val (.ref b0), .val (.long q1), .second, .val (.int (0 : Int32))] []))
  refine s_aloadN B X5 (pc' := 59) d3_58 rfl rfl rfl ?_
  refine s_dup B X5 (pc' := 60) d3_59 rfl rfl ?_
  have f6 := (D_b0_given.other W5 (Or.inl ne_b0_b3))
  refine s_getF B X5 (pc' := 63) e5 (host := "") (Or.inl (tw24 hw)) Via.refl f6 d3_60 rfl (fun T7 X7 e7 => ?_)
  refine s_iconst B X7 (pc' := 64) (v := (1 : Int32)) d3_63 rfl rfl ?_
  refine s_iadd B X7 (pc' := 65) (v := (3 : Int32)) d3_64 rfl rfl ?_
  have f9 := (E_b0.wr W5)
  refine s_putF B X7 (pc' := 68) (ty := .int) e7 (host := "") (Or.inl (tw24 hw)) Via.refl f6 f9 (Or.inl (tw25 hw)) (tw1 hw) (by decide) rfl rfl d3_65 rfl (fun T8 h8 X8 e8 W8 => ?_)
  have G8 := f6.same W8
  have N8 := Fr.snoc X8 N5 ge_b0
  have O8 := (O5).wr W8 ge_b0
  have K8 := (K5).wr W8 (Or.inl (List.mem_of_getElem? (i := 0) rfl))
  show Go p e below _ (T8.setTop (mkF m 68 #[.val (.ref b0), .val (.long q1), .second, .val (.int (0 : Int32))] []))
  have f10 := ((D_b0_blocks.other W5 (Or.inl ne_b0_b3)).other W8 (Or.inr (slot_ne (Or.inr (tw18 hw)) (Or.inl (tw25 hw)) (by decide) (t := (.array (.array .long))) (t' := .int) (by decide) (by decide))))
  have f11 := ((D_b0_pairs.other W5 (Or.inl ne_b0_b3)).other W8 (Or.inr (slot_ne (Or.inr (tw13 hw)) (Or.inl (tw25 hw)) (by decide) (t := .long) (t' := .int) (by decide) (by decide))))
  have f12 := ((D_b0_size.other W5 (Or.inl ne_b0_b3)).other W8 (Or.inr (slot_ne (Or.inr (tw10 hw)) (Or.inl (tw25 hw)) (by decide) (t := .int) (t' := .int) (by decide) (by decide))))
  have f13 := (Ary.other W8 A5 (Ne.symm ne_b0_b3))
  exact r_void B X8 rfl d3_68 (by rw [e8]; exact ⟨rfl, N8, K8, f10, G8, f11, f12, f13⟩) (by decide) (by decide)

theorem pn_mm5_35 : plainFor mn3 = true := plainFor_of_name (show plainName "com/example/stroll/stroll/ExplicitMetric$Weights" = true by first | (simp [plainName, overriddenIn]; done) | decide +kernel)
set_option maxRecDepth 65536 in
set_option maxHeartbeats 40000000 in
theorem mm5_35 (l : Launch) (Z : State) (a0 : Array Value) (hw : ∀ d ∈ tables_1, d.before a0 Z = true) (b0 : Addr) (b1 : Addr) (b2 : Addr) (q3 : Int64) (q4 : Int32) (k_b1 : ClassId) (k_b2 : ClassId) (q5 : Int64) (q6 : Int64) (q7 : Int64) (n0 : Nat) (h0 : Heap) (FZ : OwnF Z Z.heap ) (O0 : Old Z Z.heap.size h0) (ge_b0 : Z.heap.size ≤ b0) (E_b0 : Exa Z h0 b0 "com/example/stroll/stroll/ExplicitMetric$Weights") (D_b0_blocks : Fld Z h0 b0 "com/example/stroll/stroll/ExplicitMetric$Weights" "blocks" "[[J" (.ref b1)) (D_b0_given : Fld Z h0 b0 "com/example/stroll/stroll/ExplicitMetric$Weights" "given" "I" (.int (3 : Int32))) (D_b0_pairs : Fld Z h0 b0 "com/example/stroll/stroll/ExplicitMetric$Weights" "pairs" "J" (.long q3)) (D_b0_size : Fld Z h0 b0 "com/example/stroll/stroll/ExplicitMetric$Weights" "size" "I" (.int q4)) (ge_b1 : Z.heap.size ≤ b1) (A_b1 : Ary Z h0 b1 k_b1 (.array .long) 3 (upd (fun _ => .null) 0 (.ref b2))) (V_b1 : OvrA Z k_b1 .long "[J") (ge_b2 : Z.heap.size ≤ b2) (E_b2 : Exa Z h0 b2 "[J") (A_b2 : Ary Z h0 b2 k_b2 .long n0 (upd (upd (upd (fun _ => (.long (0 : Int64))) 0 (.long q5)) 1 (.long q6)) 2 (.long q7))) (ne_b0_b1 : b0 ≠ b1) (ne_b0_b2 : b0 ≠ b2) (ne_b1_b2 : b1 ≠ b2) (sd0 : 3 ≤ q3.toInt) (sd1 : 3 ≤ n0) (hk2 : q3 < (4096 : Int64)) :
    OMeets l Z mn3 prog_28_method_4_code 2 (some .long) [] ({ frames := 0, cells := 0, slots := 0, locals := 0 } : Room) #[(.ref b0), (.int (0 : Int32))] h0 (PureQ (some (.long q5)) h0) := by
  refine OMeets.of pn_mm5_35 #[.val (.ref b0), .val (.int (0 : Int32))] (fun m => by first | rfl | (simp [entryFrame, mkF, argsToLocals, Value.category, maxLocals]; done)) ?_
  intro p e s m below meth c s₁ B X0 e0
  have F0 := trivial
  refine s_aloadN B X0 (pc' := 1) d5_0 rfl rfl rfl ?_
  refine s_getF B X0 (pc' := 4) e0 (host := "") (Or.inl (tw17 hw)) Via.refl D_b0_blocks d5_1 rfl (fun T1 X1 e1 => ?_)
  refine s_iloadN B X1 (pc' := 5) d5_4 rfl rfl ?_
  refine s_bipush B X1 (pc' := 7) (v := (12 : Int32)) d5_5 rfl rfl ?_
  refine s_iushr B X1 (pc' := 8) (v := (0 : Int32)) d5_7 (by decide +kernel) rfl ?_
  refine s_ldR B X1 (pc' := 9) (jn := 0) (v := (.ref b2)) e1 A_b1 rfl (by decide) (by decide) (by omega) rfl d5_8 rfl ?_
  refine s_iloadN B X1 (pc' := 10) d5_9 rfl rfl ?_
  refine s_sipush B X1 (pc' := 13) (v := (4095 : Int32)) d5_10 rfl rfl ?_
  refine s_iand B X1 (pc' := 14) (v := (0 : Int32)) d5_13 rfl rfl ?_
  refine s_ldJ B X1 (pc' := 15) (jn := 0) (v := (.long q5)) e1 A_b2 (by decide) (by decide) (by omega) rfl d5_14 rfl ?_
  exact r_long B X1 rfl d5_15 ⟨rfl, rfl, e1⟩ (by decide) (by decide)

theorem pn_mm5_36 : plainFor mn3 = true := plainFor_of_name (show plainName "com/example/stroll/stroll/ExplicitMetric$Weights" = true by first | (simp [plainName, overriddenIn]; done) | decide +kernel)
set_option maxRecDepth 65536 in
set_option maxHeartbeats 40000000 in
theorem mm5_36 (l : Launch) (Z : State) (a0 : Array Value) (hw : ∀ d ∈ tables_1, d.before a0 Z = true) (b0 : Addr) (b1 : Addr) (b2 : Addr) (q3 : Int64) (q4 : Int32) (k_b1 : ClassId) (k_b2 : ClassId) (q5 : Int64) (q6 : Int64) (q7 : Int64) (n0 : Nat) (h0 : Heap) (FZ : OwnF Z Z.heap ) (O0 : Old Z Z.heap.size h0) (ge_b0 : Z.heap.size ≤ b0) (E_b0 : Exa Z h0 b0 "com/example/stroll/stroll/ExplicitMetric$Weights") (D_b0_blocks : Fld Z h0 b0 "com/example/stroll/stroll/ExplicitMetric$Weights" "blocks" "[[J" (.ref b1)) (D_b0_given : Fld Z h0 b0 "com/example/stroll/stroll/ExplicitMetric$Weights" "given" "I" (.int (3 : Int32))) (D_b0_pairs : Fld Z h0 b0 "com/example/stroll/stroll/ExplicitMetric$Weights" "pairs" "J" (.long q3)) (D_b0_size : Fld Z h0 b0 "com/example/stroll/stroll/ExplicitMetric$Weights" "size" "I" (.int q4)) (ge_b1 : Z.heap.size ≤ b1) (A_b1 : Ary Z h0 b1 k_b1 (.array .long) 3 (upd (fun _ => .null) 0 (.ref b2))) (V_b1 : OvrA Z k_b1 .long "[J") (ge_b2 : Z.heap.size ≤ b2) (E_b2 : Exa Z h0 b2 "[J") (A_b2 : Ary Z h0 b2 k_b2 .long n0 (upd (upd (upd (fun _ => (.long (0 : Int64))) 0 (.long q5)) 1 (.long q6)) 2 (.long q7))) (ne_b0_b1 : b0 ≠ b1) (ne_b0_b2 : b0 ≠ b2) (ne_b1_b2 : b1 ≠ b2) (sd0 : 3 ≤ q3.toInt) (sd1 : 3 ≤ n0) (hk2 : q3 < (4096 : Int64)) :
    OMeets l Z mn3 prog_28_method_4_code 2 (some .long) [] ({ frames := 0, cells := 0, slots := 0, locals := 0 } : Room) #[(.ref b0), (.int (1 : Int32))] h0 (PureQ (some (.long q6)) h0) := by
  refine OMeets.of pn_mm5_36 #[.val (.ref b0), .val (.int (1 : Int32))] (fun m => by first | rfl | (simp [entryFrame, mkF, argsToLocals, Value.category, maxLocals]; done)) ?_
  intro p e s m below meth c s₁ B X0 e0
  have F0 := trivial
  refine s_aloadN B X0 (pc' := 1) d5_0 rfl rfl rfl ?_
  refine s_getF B X0 (pc' := 4) e0 (host := "") (Or.inl (tw17 hw)) Via.refl D_b0_blocks d5_1 rfl (fun T1 X1 e1 => ?_)
  refine s_iloadN B X1 (pc' := 5) d5_4 rfl rfl ?_
  refine s_bipush B X1 (pc' := 7) (v := (12 : Int32)) d5_5 rfl rfl ?_
  refine s_iushr B X1 (pc' := 8) (v := (0 : Int32)) d5_7 (by decide +kernel) rfl ?_
  refine s_ldR B X1 (pc' := 9) (jn := 0) (v := (.ref b2)) e1 A_b1 rfl (by decide) (by decide) (by omega) rfl d5_8 rfl ?_
  refine s_iloadN B X1 (pc' := 10) d5_9 rfl rfl ?_
  refine s_sipush B X1 (pc' := 13) (v := (4095 : Int32)) d5_10 rfl rfl ?_
  refine s_iand B X1 (pc' := 14) (v := (1 : Int32)) d5_13 rfl rfl ?_
  refine s_ldJ B X1 (pc' := 15) (jn := 1) (v := (.long q6)) e1 A_b2 (by decide) (by decide) (by omega) rfl d5_14 rfl ?_
  exact r_long B X1 rfl d5_15 ⟨rfl, rfl, e1⟩ (by decide) (by decide)

theorem pn_mm5_37 : plainFor mn3 = true := plainFor_of_name (show plainName "com/example/stroll/stroll/ExplicitMetric$Weights" = true by first | (simp [plainName, overriddenIn]; done) | decide +kernel)
set_option maxRecDepth 65536 in
set_option maxHeartbeats 40000000 in
theorem mm5_37 (l : Launch) (Z : State) (a0 : Array Value) (hw : ∀ d ∈ tables_1, d.before a0 Z = true) (b0 : Addr) (b1 : Addr) (b2 : Addr) (q3 : Int64) (q4 : Int32) (k_b1 : ClassId) (k_b2 : ClassId) (q5 : Int64) (q6 : Int64) (q7 : Int64) (n0 : Nat) (h0 : Heap) (FZ : OwnF Z Z.heap ) (O0 : Old Z Z.heap.size h0) (ge_b0 : Z.heap.size ≤ b0) (E_b0 : Exa Z h0 b0 "com/example/stroll/stroll/ExplicitMetric$Weights") (D_b0_blocks : Fld Z h0 b0 "com/example/stroll/stroll/ExplicitMetric$Weights" "blocks" "[[J" (.ref b1)) (D_b0_given : Fld Z h0 b0 "com/example/stroll/stroll/ExplicitMetric$Weights" "given" "I" (.int (3 : Int32))) (D_b0_pairs : Fld Z h0 b0 "com/example/stroll/stroll/ExplicitMetric$Weights" "pairs" "J" (.long q3)) (D_b0_size : Fld Z h0 b0 "com/example/stroll/stroll/ExplicitMetric$Weights" "size" "I" (.int q4)) (ge_b1 : Z.heap.size ≤ b1) (A_b1 : Ary Z h0 b1 k_b1 (.array .long) 3 (upd (fun _ => .null) 0 (.ref b2))) (V_b1 : OvrA Z k_b1 .long "[J") (ge_b2 : Z.heap.size ≤ b2) (E_b2 : Exa Z h0 b2 "[J") (A_b2 : Ary Z h0 b2 k_b2 .long n0 (upd (upd (upd (fun _ => (.long (0 : Int64))) 0 (.long q5)) 1 (.long q6)) 2 (.long q7))) (ne_b0_b1 : b0 ≠ b1) (ne_b0_b2 : b0 ≠ b2) (ne_b1_b2 : b1 ≠ b2) (sd0 : 3 ≤ q3.toInt) (sd1 : 3 ≤ n0) (hk2 : q3 < (4096 : Int64)) :
    OMeets l Z mn3 prog_28_method_4_code 2 (some .long) [] ({ frames := 0, cells := 0, slots := 0, locals := 0 } : Room) #[(.ref b0), (.int (2 : Int32))] h0 (PureQ (some (.long q7)) h0) := by
  refine OMeets.of pn_mm5_37 #[.val (.ref b0), .val (.int (2 : Int32))] (fun m => by first | rfl | (simp [entryFrame, mkF, argsToLocals, Value.category, maxLocals]; done)) ?_
  intro p e s m below meth c s₁ B X0 e0
  have F0 := trivial
  refine s_aloadN B X0 (pc' := 1) d5_0 rfl rfl rfl ?_
  refine s_getF B X0 (pc' := 4) e0 (host := "") (Or.inl (tw17 hw)) Via.refl D_b0_blocks d5_1 rfl (fun T1 X1 e1 => ?_)
  refine s_iloadN B X1 (pc' := 5) d5_4 rfl rfl ?_
  refine s_bipush B X1 (pc' := 7) (v := (12 : Int32)) d5_5 rfl rfl ?_
  refine s_iushr B X1 (pc' := 8) (v := (0 : Int32)) d5_7 (by decide +kernel) rfl ?_
  refine s_ldR B X1 (pc' := 9) (jn := 0) (v := (.ref b2)) e1 A_b1 rfl (by decide) (by decide) (by omega) rfl d5_8 rfl ?_
  refine s_iloadN B X1 (pc' := 10) d5_9 rfl rfl ?_
  refine s_sipush B X1 (pc' := 13) (v := (4095 : Int32)) d5_10 rfl rfl ?_
  refine s_iand B X1 (pc' := 14) (v := (2 : Int32)) d5_13 rfl rfl ?_
  refine s_ldJ B X1 (pc' := 15) (jn := 2) (v := (.long q7)) e1 A_b2 (by decide) (by decide) (by omega) rfl d5_14 rfl ?_
  exact r_long B X1 rfl d5_15 ⟨rfl, rfl, e1⟩ (by decide) (by decide)

theorem pn_mm3_38 : plainFor mn2 = true := plainFor_of_name (show plainName "com/example/stroll/stroll/ExplicitMetric$Weights" = true by first | (simp [plainName, overriddenIn]; done) | decide +kernel)
set_option maxRecDepth 65536 in
set_option maxHeartbeats 40000000 in
theorem mm3_38 (l : Launch) (Z : State) (a0 : Array Value) (hw : ∀ d ∈ tables_1, d.before a0 Z = true) (b0 : Addr) (q1 : Int64) (b2 : Addr) (q3 : Int64) (q4 : Int32) (k_b2 : ClassId) (h0 : Heap) (FZ : OwnF Z Z.heap ) (O0 : Old Z Z.heap.size h0) (ge_b0 : Z.heap.size ≤ b0) (E_b0 : Exa Z h0 b0 "com/example/stroll/stroll/ExplicitMetric$Weights") (D_b0_blocks : Fld Z h0 b0 "com/example/stroll/stroll/ExplicitMetric$Weights" "blocks" "[[J" (.ref b2)) (D_b0_given : Fld Z h0 b0 "com/example/stroll/stroll/ExplicitMetric$Weights" "given" "I" (.int (0 : Int32))) (D_b0_pairs : Fld Z h0 b0 "com/example/stroll/stroll/ExplicitMetric$Weights" "pairs" "J" (.long q3)) (D_b0_size : Fld Z h0 b0 "com/example/stroll/stroll/ExplicitMetric$Weights" "size" "I" (.int q4)) (ge_b2 : Z.heap.size ≤ b2) (A_b2 : Ary Z h0 b2 k_b2 (.array .long) 3 (fun _ => .null)) (V_b2 : OvrA Z k_b2 .long "[J") (ne_b0_b2 : b0 ≠ b2) (sd0 : 3 ≤ q3.toInt) (hk1 : ¬ q3 < (4096 : Int64)) :
    OMeets l Z mn2 prog_28_method_5_code 4 none [] ({ frames := 1, cells := 1, slots := 4096, locals := 17 } : Room) #[(.ref b0), (.long q1)] h0 (fun v h L => ∃ o6 : Addr, ∃ kq_o6 : ClassId, v = none ∧ Fr Z.heap.size L ∧ Keep h0 h [b0, b2] ∧ h0.size ≤ o6 ∧ Exa Z h o6 "[J" ∧ Ary Z h o6 kq_o6 .long 4096 (upd (fun _ => (.long (0 : Int64))) 0 (.long q1)) ∧ Fld Z h b0 "com/example/stroll/stroll/ExplicitMetric$Weights" "blocks" "[[J" (.ref b2) ∧ Fld Z h b0 "com/example/stroll/stroll/ExplicitMetric$Weights" "given" "I" (.int (1 : Int32)) ∧ Fld Z h b0 "com/example/stroll/stroll/ExplicitMetric$Weights" "pairs" "J" (.long q3) ∧ Fld Z h b0 "com/example/stroll/stroll/ExplicitMetric$Weights" "size" "I" (.int q4) ∧ Ary Z h b2 k_b2 (.array .long) 3 (upd (fun _ => .null) 0 (.ref o6))) := by
  refine OMeets.of pn_mm3_38 #[.val (.ref b0), .val (.long q1), .second, .unset] (fun m => by first | rfl | (simp [entryFrame, mkF, argsToLocals, Value.category, maxLocals]; done)) ?_
  intro p e s m below meth c s₁ B X0 e0
  have F0 := trivial
  refine s_aloadN B X0 (pc' := 1) d3_0 rfl rfl rfl ?_
  refine s_getF B X0 (pc' := 4) e0 (host := "") (Or.inl (tw24 hw)) Via.refl D_b0_given d3_1 rfl (fun T1 X1 e1 => ?_)
  refine s_bipush B X1 (pc' := 6) (v := (12 : Int32)) d3_4 rfl rfl ?_
  refine s_iushr B X1 (pc' := 7) (v := (0 : Int32)) d3_6 (by decide +kernel) rfl ?_
  refine s_istoreN B X1 (pc' := 8) (Ls' := #[.val (.ref b0), .val (.long q1), .second, .val (.int (0 : Int32))]) d3_7 rfl rfl ?_
  refine s_aloadN B X1 (pc' := 9) d3_8 rfl rfl rfl ?_
  refine s_getF B X1 (pc' := 12) e1 (host := "") (Or.inl (tw17 hw)) Via.refl D_b0_blocks d3_9 rfl (fun T2 X2 e2 => ?_)
  refine s_iloadN B X2 (pc' := 13) d3_12 rfl rfl ?_
  refine s_ldR B X2 (pc' := 14) (jn := 0) (v := .null) e2 A_b2 rfl (by decide) (by decide) (by omega) rfl d3_13 rfl ?_
  refine s_ifnonnullN B X2 (pc' := 17) d3_14 rfl ?_
  refine s_aloadN B X2 (pc' := 18) d3_17 rfl rfl rfl ?_
  refine s_getF B X2 (pc' := 21) e2 (host := "") (Or.inl (tw17 hw)) Via.refl D_b0_blocks d3_18 rfl (fun T3 X3 e3 => ?_)
  refine s_iloadN B X3 (pc' := 22) d3_21 rfl rfl ?_
  refine s_ldc2 B X3 (pc' := 25) (v := (4096 : Int64)) (tw14 hw) d3_22 rfl ?_
  refine s_aloadN B X3 (pc' := 26) d3_25 rfl rfl rfl ?_
  refine s_getF B X3 (pc' := 29) e3 (host := "") (Or.inl (tw12 hw)) Via.refl D_b0_pairs d3_26 rfl (fun T4 X4 e4 => ?_)
  refine s_iloadN B X4 (pc' := 30) d3_29 rfl rfl ?_
  refine s_i2l B X4 (pc' := 31) (v := (0 : Int64)) d3_30 rfl rfl ?_
  refine s_bipush B X4 (pc' := 33) (v := (12 : Int32)) d3_31 rfl rfl ?_
  refine s_lshl B X4 (pc' := 34) (v := (0 : Int64)) d3_33 (by decide +kernel) rfl ?_
  refine s_lsub B X4 (pc' := 35) (v := q3) d3_34 (Int64.sub_zero _) rfl ?_
  refine p_static B X4 (y := mn1) (pc' := 38) (argsL := [(.long (4096 : Int64)), (.long q3)]) (under := [(.int (0 : Int32)), (.ref b2)]) (W := 2) e4 (tw26 hw) (tw27 hw) (tw29 hw) (tw28 hw) (by decide) (rm4_1 l Z a0 hw q3  h0 F0 hk1) (lenOf pd_1 rfl) rfl rfl (by decide) (by decide) rfl rfl (by decide) (by decide) rfl d3_35 rfl (fun T5 X5 e5 => ?_)
  show Go p e below _ (T5.setTop (mkF m 38 #[.val (.ref b0), .val (.long q1), .second, .val (.int (0 : Int32))] [(.long (4096 : Int64)), (.int (0 : Int32)), (.ref b2)]))
  refine s_l2i B X5 (pc' := 39) (v := (4096 : Int32)) d3_38 rfl rfl ?_
  refine s_newPE B X5 (pc' := 41) (aty := .long) (N := 4096) (cap := 4096) (ad := "[J") e5 (by decide) (tw30 hw) (by decide) (by decide) (by decide) (by decide) (by decide) (by decide) d3_39 rfl (fun T6 h6 o6 k6 g6 X6 e6 E6 A6 Y6 => ?_)
  have ne_b0_o6 : b0 ≠ o6 := Nat.ne_of_lt (g6 ▸ E_b0.lt)
  have ne_b2_o6 : b2 ≠ o6 := Nat.ne_of_lt (g6 ▸ A_b2.lt)
  have ge_o6 : Z.heap.size ≤ o6 := g6 ▸ old_le O0
  have le_o6 : h0.size ≤ o6 := g6 ▸ ((Keep.refl h0 [b0, b2])).1
  replace A6 : Ary Z h6 o6 k6 .long 4096 (fun _ => (.long (0 : Int64))) := A6
  have O6 := (O0).ext E6
  have K6 := ((Keep.refl h0 [b0, b2])).ext E6
  show Go p e below _ (T6.setTop (mkF m 41 #[.val (.ref b0), .val (.long q1), .second, .val (.int (0 : Int32))] [(.ref o6), (.int (0 : Int32)), (.ref b2)]))
  have f8 := (A_b2.ext E6)
  refine s_stR B X6 (pc' := 42) (jn := 0) e6 f8 rfl (Ary.stoA f8 V_b2 (Ins.self Y6)) (by decide) (by decide) (by omega) d3_41 rfl (fun T7 h7 X7 e7 W7 A7 => ?_)
  have N7 := Fr.snoc X7 (Fr.nil _) ge_b2
  have O7 := (O6).wr W7 ge_b2
  have K7 := (K6).wr W7 (Or.inl (List.mem_of_getElem? (i := 1) rfl))
  show Go p e below _ (T7.setTop (mkF m 42 #[.val (.ref b0), .val (.long q1), .second, .val (.int (0 : Int32))] []))
  refine s_aloadN B X7 (pc' := 43) d3_42 rfl rfl rfl ?_
  have f9 := ((D_b0_blocks.ext E6).other W7 (Or.inl ne_b0_b2))
  refine s_getF B X7 (pc' := 46) e7 (host := "") (Or.inl (tw17 hw)) Via.refl f9 d3_43 rfl (fun T10 X10 e10 => ?_)
  refine s_iloadN B X10 (pc' := 47) d3_46 rfl rfl ?_
  refine s_ldR B X10 (pc' := 48) (jn := 0) (v := (.ref o6)) e10 A7 rfl (by decide) (by decide) (by omega) rfl d3_47 rfl ?_
  refine s_aloadN B X10 (pc' := 49) d3_48 rfl rfl rfl ?_
  have f11 := ((D_b0_given.ext E6).other W7 (Or.inl ne_b0_b2))
  refine s_getF B X10 (pc' := 52) e10 (host := "") (Or.inl (tw24 hw)) Via.refl f11 d3_49 rfl (fun T12 X12 e12 => ?_)
  refine s_sipush B X12 (pc' := 55) (v := (4095 : Int32)) d3_52 rfl rfl ?_
  refine s_iand B X12 (pc' := 56) (v := (0 : Int32)) d3_55 rfl rfl ?_
  refine s_lloadN B X12 (pc' := 57) d3_56 rfl rfl ?_
  have f14 := (Ary.other W7 A6 (Ne.symm ne_b2_o6))
  refine s_stJ B X12 (pc' := 58) (jn := 0) e12 f14  (by decide) (by decide) (by omega) d3_57 rfl (fun T13 h13 X13 e13 W13 A13 => ?_)
  have N13 := Fr.snoc X13 N7 ge_o6
  have O13 := (O7).wr W13 ge_o6
  have K13 := (K7).wr W13 (Or.inr le_o6)
  show Go p e below _ (T13.setTop (mkF m 58 #[.val (.ref b0), .val (.long q1), .second, .val (.int (0 : Int32))] []))
  refine s_aloadN B X13 (pc' := 59) d3_58 rfl rfl rfl ?_
  refine s_dup B X13 (pc' := 60) d3_59 rfl rfl ?_
  have f15 := (f11.other W13 (Or.inl ne_b0_o6))
  refine s_getF B X13 (pc' := 63) e13 (host := "") (Or.inl (tw24 hw)) Via.refl f15 d3_60 rfl (fun T16 X16 e16 => ?_)
  refine s_iconst B X16 (pc' := 64) (v := (1 : Int32)) d3_63 rfl rfl ?_
  refine s_iadd B X16 (pc' := 65) (v := (1 : Int32)) d3_64 rfl rfl ?_
  have f18 := (((E_b0.ext E6).wr W7).wr W13)
  refine s_putF B X16 (pc' := 68) (ty := .int) e16 (host := "") (Or.inl (tw24 hw)) Via.refl f15 f18 (Or.inl (tw25 hw)) (tw1 hw) (by decide) rfl rfl d3_65 rfl (fun T17 h17 X17 e17 W17 => ?_)
  have G17 := f15.same W17
  have N17 := Fr.snoc X17 N13 ge_b0
  have O17 := (O13).wr W17 ge_b0
  have K17 := (K13).wr W17 (Or.inl (List.mem_of_getElem? (i := 0) rfl))
  show Go p e below _ (T17.setTop (mkF m 68 #[.val (.ref b0), .val (.long q1), .second, .val (.int (0 : Int32))] []))
  have f19 := (((Y6.wr W7).wr W13).wr W17)
  have f20 := (Ary.other W17 A13 (Ne.symm ne_b0_o6))
  have f21 := ((f9.other W13 (Or.inl ne_b0_o6)).other W17 (Or.inr (slot_ne (Or.inr (tw18 hw)) (Or.inl (tw25 hw)) (by decide) (t := (.array (.array .long))) (t' := .int) (by decide) (by decide))))
  have f22 := ((((D_b0_pairs.ext E6).other W7 (Or.inl ne_b0_b2)).other W13 (Or.inl ne_b0_o6)).other W17 (Or.inr (slot_ne (Or.inr (tw13 hw)) (Or.inl (tw25 hw)) (by decide) (t := .long) (t' := .int) (by decide) (by decide))))
  have f23 := ((((D_b0_size.ext E6).other W7 (Or.inl ne_b0_b2)).other W13 (Or.inl ne_b0_o6)).other W17 (Or.inr (slot_ne (Or.inr (tw10 hw)) (Or.inl (tw25 hw)) (by decide) (t := .int) (t' := .int) (by decide) (by decide))))
  have f24 := (Ary.other W17 (Ary.other W13 A7 ne_b2_o6) (Ne.symm ne_b0_b2))
  exact r_void B X17 rfl d3_68 (by rw [e17]; exact ⟨o6, k6, rfl, N17, K17, le_o6, f19, f20, f21, G17, f22, f23, f24⟩) (by decide) (by decide)

theorem pn_mm5_39 : plainFor mn3 = true := plainFor_of_name (show plainName "com/example/stroll/stroll/ExplicitMetric$Weights" = true by first | (simp [plainName, overriddenIn]; done) | decide +kernel)
set_option maxRecDepth 65536 in
set_option maxHeartbeats 40000000 in
theorem mm5_39 (l : Launch) (Z : State) (a0 : Array Value) (hw : ∀ d ∈ tables_1, d.before a0 Z = true) (b0 : Addr) (b1 : Addr) (b2 : Addr) (q3 : Int64) (q4 : Int32) (k_b1 : ClassId) (k_b2 : ClassId) (q5 : Int64) (h0 : Heap) (FZ : OwnF Z Z.heap ) (O0 : Old Z Z.heap.size h0) (ge_b0 : Z.heap.size ≤ b0) (E_b0 : Exa Z h0 b0 "com/example/stroll/stroll/ExplicitMetric$Weights") (D_b0_blocks : Fld Z h0 b0 "com/example/stroll/stroll/ExplicitMetric$Weights" "blocks" "[[J" (.ref b1)) (D_b0_given : Fld Z h0 b0 "com/example/stroll/stroll/ExplicitMetric$Weights" "given" "I" (.int (1 : Int32))) (D_b0_pairs : Fld Z h0 b0 "com/example/stroll/stroll/ExplicitMetric$Weights" "pairs" "J" (.long q3)) (D_b0_size : Fld Z h0 b0 "com/example/stroll/stroll/ExplicitMetric$Weights" "size" "I" (.int q4)) (ge_b1 : Z.heap.size ≤ b1) (A_b1 : Ary Z h0 b1 k_b1 (.array .long) 3 (upd (fun _ => .null) 0 (.ref b2))) (V_b1 : OvrA Z k_b1 .long "[J") (ge_b2 : Z.heap.size ≤ b2) (E_b2 : Exa Z h0 b2 "[J") (A_b2 : Ary Z h0 b2 k_b2 .long 4096 (upd (fun _ => (.long (0 : Int64))) 0 (.long q5))) (ne_b0_b1 : b0 ≠ b1) (ne_b0_b2 : b0 ≠ b2) (ne_b1_b2 : b1 ≠ b2) (sd0 : 3 ≤ q3.toInt) (hk1 : ¬ q3 < (4096 : Int64)) :
    OMeets l Z mn3 prog_28_method_4_code 2 (some .long) [] ({ frames := 0, cells := 0, slots := 0, locals := 0 } : Room) #[(.ref b0), (.int (0 : Int32))] h0 (PureQ (some (.long q5)) h0) := by
  refine OMeets.of pn_mm5_39 #[.val (.ref b0), .val (.int (0 : Int32))] (fun m => by first | rfl | (simp [entryFrame, mkF, argsToLocals, Value.category, maxLocals]; done)) ?_
  intro p e s m below meth c s₁ B X0 e0
  have F0 := trivial
  refine s_aloadN B X0 (pc' := 1) d5_0 rfl rfl rfl ?_
  refine s_getF B X0 (pc' := 4) e0 (host := "") (Or.inl (tw17 hw)) Via.refl D_b0_blocks d5_1 rfl (fun T1 X1 e1 => ?_)
  refine s_iloadN B X1 (pc' := 5) d5_4 rfl rfl ?_
  refine s_bipush B X1 (pc' := 7) (v := (12 : Int32)) d5_5 rfl rfl ?_
  refine s_iushr B X1 (pc' := 8) (v := (0 : Int32)) d5_7 (by decide +kernel) rfl ?_
  refine s_ldR B X1 (pc' := 9) (jn := 0) (v := (.ref b2)) e1 A_b1 rfl (by decide) (by decide) (by omega) rfl d5_8 rfl ?_
  refine s_iloadN B X1 (pc' := 10) d5_9 rfl rfl ?_
  refine s_sipush B X1 (pc' := 13) (v := (4095 : Int32)) d5_10 rfl rfl ?_
  refine s_iand B X1 (pc' := 14) (v := (0 : Int32)) d5_13 rfl rfl ?_
  refine s_ldJ B X1 (pc' := 15) (jn := 0) (v := (.long q5)) e1 A_b2 (by decide) (by decide) (by omega) rfl d5_14 rfl ?_
  exact r_long B X1 rfl d5_15 ⟨rfl, rfl, e1⟩ (by decide) (by decide)

theorem pn_mm3_40 : plainFor mn2 = true := plainFor_of_name (show plainName "com/example/stroll/stroll/ExplicitMetric$Weights" = true by first | (simp [plainName, overriddenIn]; done) | decide +kernel)
set_option maxRecDepth 65536 in
set_option maxHeartbeats 40000000 in
theorem mm3_40 (l : Launch) (Z : State) (a0 : Array Value) (hw : ∀ d ∈ tables_1, d.before a0 Z = true) (b0 : Addr) (q1 : Int64) (b2 : Addr) (b3 : Addr) (q4 : Int64) (q5 : Int32) (k_b2 : ClassId) (k_b3 : ClassId) (q6 : Int64) (h0 : Heap) (FZ : OwnF Z Z.heap ) (O0 : Old Z Z.heap.size h0) (ge_b0 : Z.heap.size ≤ b0) (E_b0 : Exa Z h0 b0 "com/example/stroll/stroll/ExplicitMetric$Weights") (D_b0_blocks : Fld Z h0 b0 "com/example/stroll/stroll/ExplicitMetric$Weights" "blocks" "[[J" (.ref b2)) (D_b0_given : Fld Z h0 b0 "com/example/stroll/stroll/ExplicitMetric$Weights" "given" "I" (.int (1 : Int32))) (D_b0_pairs : Fld Z h0 b0 "com/example/stroll/stroll/ExplicitMetric$Weights" "pairs" "J" (.long q4)) (D_b0_size : Fld Z h0 b0 "com/example/stroll/stroll/ExplicitMetric$Weights" "size" "I" (.int q5)) (ge_b2 : Z.heap.size ≤ b2) (A_b2 : Ary Z h0 b2 k_b2 (.array .long) 3 (upd (fun _ => .null) 0 (.ref b3))) (V_b2 : OvrA Z k_b2 .long "[J") (ge_b3 : Z.heap.size ≤ b3) (E_b3 : Exa Z h0 b3 "[J") (A_b3 : Ary Z h0 b3 k_b3 .long 4096 (upd (fun _ => (.long (0 : Int64))) 0 (.long q6))) (ne_b0_b2 : b0 ≠ b2) (ne_b0_b3 : b0 ≠ b3) (ne_b2_b3 : b2 ≠ b3) (sd0 : 3 ≤ q4.toInt) (hk1 : ¬ q4 < (4096 : Int64)) :
    OMeets l Z mn2 prog_28_method_5_code 4 none [] ({ frames := 0, cells := 0, slots := 0, locals := 0 } : Room) #[(.ref b0), (.long q1)] h0 (fun v h L => v = none ∧ Fr Z.heap.size L ∧ Keep h0 h [b0, b3] ∧ Fld Z h b0 "com/example/stroll/stroll/ExplicitMetric$Weights" "blocks" "[[J" (.ref b2) ∧ Fld Z h b0 "com/example/stroll/stroll/ExplicitMetric$Weights" "given" "I" (.int (2 : Int32)) ∧ Fld Z h b0 "com/example/stroll/stroll/ExplicitMetric$Weights" "pairs" "J" (.long q4) ∧ Fld Z h b0 "com/example/stroll/stroll/ExplicitMetric$Weights" "size" "I" (.int q5) ∧ Ary Z h b3 k_b3 .long 4096 (upd (upd (fun _ => (.long (0 : Int64))) 0 (.long q6)) 1 (.long q1))) := by
  refine OMeets.of pn_mm3_40 #[.val (.ref b0), .val (.long q1), .second, .unset] (fun m => by first | rfl | (simp [entryFrame, mkF, argsToLocals, Value.category, maxLocals]; done)) ?_
  intro p e s m below meth c s₁ B X0 e0
  have F0 := trivial
  refine s_aloadN B X0 (pc' := 1) d3_0 rfl rfl rfl ?_
  refine s_getF B X0 (pc' := 4) e0 (host := "") (Or.inl (tw24 hw)) Via.refl D_b0_given d3_1 rfl (fun T1 X1 e1 => ?_)
  refine s_bipush B X1 (pc' := 6) (v := (12 : Int32)) d3_4 rfl rfl ?_
  refine s_iushr B X1 (pc' := 7) (v := (0 : Int32)) d3_6 (by decide +kernel) rfl ?_
  refine s_istoreN B X1 (pc' := 8) (Ls' := #[.val (.ref b0), .val (.long q1), .second, .val (.int (0 : Int32))]) d3_7 rfl rfl ?_
  refine s_aloadN B X1 (pc' := 9) d3_8 rfl rfl rfl ?_
  refine s_getF B X1 (pc' := 12) e1 (host := "") (Or.inl (tw17 hw)) Via.refl D_b0_blocks d3_9 rfl (fun T2 X2 e2 => ?_)
  refine s_iloadN B X2 (pc' := 13) d3_12 rfl rfl ?_
  refine s_ldR B X2 (pc' := 14) (jn := 0) (v := (.ref b3)) e2 A_b2 rfl (by decide) (by decide) (by omega) rfl d3_13 rfl ?_
  refine s_ifnonnullY B X2 (pc' := 42) d3_14 (by decide) (by decide) ?_
  refine s_aloadN B X2 (pc' := 43) d3_42 rfl rfl rfl ?_
  refine s_getF B X2 (pc' := 46) e2 (host := "") (Or.inl (tw17 hw)) Via.refl D_b0_blocks d3_43 rfl (fun T3 X3 e3 => ?_)
  refine s_iloadN B X3 (pc' := 47) d3_46 rfl rfl ?_
  refine s_ldR B X3 (pc' := 48) (jn := 0) (v := (.ref b3)) e3 A_b2 rfl (by decide) (by decide) (by omega) rfl d3_47 rfl ?_
  refine s_aloadN B X3 (pc' := 49) d3_48 rfl rfl rfl ?_
  refine s_getF B X3 (pc' := 52) e3 (host := "") (Or.inl (tw24 hw)) Via.refl D_b0_given d3_49 rfl (fun T4 X4 e4 => ?_)
  refine s_sipush B X4 (pc' := 55) (v := (4095 : Int32)) d3_52 rfl rfl ?_
  refine s_iand B X4 (pc' := 56) (v := (1 : Int32)) d3_55 rfl rfl ?_
  refine s_lloadN B X4 (pc' := 57) d3_56 rfl rfl ?_
  refine s_stJ B X4 (pc' := 58) (jn := 1) e4 A_b3  (by decide) (by decide) (by omega) d3_57 rfl (fun T5 h5 X5 e5 W5 A5 => ?_)
  have N5 := Fr.snoc X5 (Fr.nil _) ge_b3
  have O5 := (O0).wr W5 ge_b3
  have K5 := ((Keep.refl h0 [b0, b3])).wr W5 (Or.inl (List.mem_of_getElem? (i := 1) rfl))
  show Go p e below _ (T5.setTop (mkF m 58 #[.val (.ref b0), .val (.long q1), .second, .val (.int (0 : Int32))] []))
  refine s_aloadN B X5 (pc' := 59) d3_58 rfl rfl rfl ?_
  refine s_dup B X5 (pc' := 60) d3_59 rfl rfl ?_
  have f6 := (D_b0_given.other W5 (Or.inl ne_b0_b3))
  refine s_getF B X5 (pc' := 63) e5 (host := "") (Or.inl (tw24 hw)) Via.refl f6 d3_60 rfl (fun T7 X7 e7 => ?_)
  refine s_iconst B X7 (pc' := 64) (v := (1 : Int32)) d3_63 rfl rfl ?_
  refine s_iadd B X7 (pc' := 65) (v := (2 : Int32)) d3_64 rfl rfl ?_
  have f9 := (E_b0.wr W5)
  refine s_putF B X7 (pc' := 68) (ty := .int) e7 (host := "") (Or.inl (tw24 hw)) Via.refl f6 f9 (Or.inl (tw25 hw)) (tw1 hw) (by decide) rfl rfl d3_65 rfl (fun T8 h8 X8 e8 W8 => ?_)
  have G8 := f6.same W8
  have N8 := Fr.snoc X8 N5 ge_b0
  have O8 := (O5).wr W8 ge_b0
  have K8 := (K5).wr W8 (Or.inl (List.mem_of_getElem? (i := 0) rfl))
  show Go p e below _ (T8.setTop (mkF m 68 #[.val (.ref b0), .val (.long q1), .second, .val (.int (0 : Int32))] []))
  have f10 := ((D_b0_blocks.other W5 (Or.inl ne_b0_b3)).other W8 (Or.inr (slot_ne (Or.inr (tw18 hw)) (Or.inl (tw25 hw)) (by decide) (t := (.array (.array .long))) (t' := .int) (by decide) (by decide))))
  have f11 := ((D_b0_pairs.other W5 (Or.inl ne_b0_b3)).other W8 (Or.inr (slot_ne (Or.inr (tw13 hw)) (Or.inl (tw25 hw)) (by decide) (t := .long) (t' := .int) (by decide) (by decide))))
  have f12 := ((D_b0_size.other W5 (Or.inl ne_b0_b3)).other W8 (Or.inr (slot_ne (Or.inr (tw10 hw)) (Or.inl (tw25 hw)) (by decide) (t := .int) (t' := .int) (by decide) (by decide))))
  have f13 := (Ary.other W8 A5 (Ne.symm ne_b0_b3))
  exact r_void B X8 rfl d3_68 (by rw [e8]; exact ⟨rfl, N8, K8, f10, G8, f11, f12, f13⟩) (by decide) (by decide)

theorem pn_mm3_41 : plainFor mn2 = true := plainFor_of_name (show plainName "com/example/stroll/stroll/ExplicitMetric$Weights" = true by first | (simp [plainName, overriddenIn]; done) | decide +kernel)
set_option maxRecDepth 65536 in
set_option maxHeartbeats 40000000 in
theorem mm3_41 (l : Launch) (Z : State) (a0 : Array Value) (hw : ∀ d ∈ tables_1, d.before a0 Z = true) (b0 : Addr) (q1 : Int64) (b2 : Addr) (b3 : Addr) (q4 : Int64) (q5 : Int32) (k_b2 : ClassId) (k_b3 : ClassId) (q6 : Int64) (q7 : Int64) (h0 : Heap) (FZ : OwnF Z Z.heap ) (O0 : Old Z Z.heap.size h0) (ge_b0 : Z.heap.size ≤ b0) (E_b0 : Exa Z h0 b0 "com/example/stroll/stroll/ExplicitMetric$Weights") (D_b0_blocks : Fld Z h0 b0 "com/example/stroll/stroll/ExplicitMetric$Weights" "blocks" "[[J" (.ref b2)) (D_b0_given : Fld Z h0 b0 "com/example/stroll/stroll/ExplicitMetric$Weights" "given" "I" (.int (2 : Int32))) (D_b0_pairs : Fld Z h0 b0 "com/example/stroll/stroll/ExplicitMetric$Weights" "pairs" "J" (.long q4)) (D_b0_size : Fld Z h0 b0 "com/example/stroll/stroll/ExplicitMetric$Weights" "size" "I" (.int q5)) (ge_b2 : Z.heap.size ≤ b2) (A_b2 : Ary Z h0 b2 k_b2 (.array .long) 3 (upd (fun _ => .null) 0 (.ref b3))) (V_b2 : OvrA Z k_b2 .long "[J") (ge_b3 : Z.heap.size ≤ b3) (E_b3 : Exa Z h0 b3 "[J") (A_b3 : Ary Z h0 b3 k_b3 .long 4096 (upd (upd (fun _ => (.long (0 : Int64))) 0 (.long q6)) 1 (.long q7))) (ne_b0_b2 : b0 ≠ b2) (ne_b0_b3 : b0 ≠ b3) (ne_b2_b3 : b2 ≠ b3) (sd0 : 3 ≤ q4.toInt) (hk1 : ¬ q4 < (4096 : Int64)) :
    OMeets l Z mn2 prog_28_method_5_code 4 none [] ({ frames := 0, cells := 0, slots := 0, locals := 0 } : Room) #[(.ref b0), (.long q1)] h0 (fun v h L => v = none ∧ Fr Z.heap.size L ∧ Keep h0 h [b0, b3] ∧ Fld Z h b0 "com/example/stroll/stroll/ExplicitMetric$Weights" "blocks" "[[J" (.ref b2) ∧ Fld Z h b0 "com/example/stroll/stroll/ExplicitMetric$Weights" "given" "I" (.int (3 : Int32)) ∧ Fld Z h b0 "com/example/stroll/stroll/ExplicitMetric$Weights" "pairs" "J" (.long q4) ∧ Fld Z h b0 "com/example/stroll/stroll/ExplicitMetric$Weights" "size" "I" (.int q5) ∧ Ary Z h b3 k_b3 .long 4096 (upd (upd (upd (fun _ => (.long (0 : Int64))) 0 (.long q6)) 1 (.long q7)) 2 (.long q1))) := by
  refine OMeets.of pn_mm3_41 #[.val (.ref b0), .val (.long q1), .second, .unset] (fun m => by first | rfl | (simp [entryFrame, mkF, argsToLocals, Value.category, maxLocals]; done)) ?_
  intro p e s m below meth c s₁ B X0 e0
  have F0 := trivial
  refine s_aloadN B X0 (pc' := 1) d3_0 rfl rfl rfl ?_
  refine s_getF B X0 (pc' := 4) e0 (host := "") (Or.inl (tw24 hw)) Via.refl D_b0_given d3_1 rfl (fun T1 X1 e1 => ?_)
  refine s_bipush B X1 (pc' := 6) (v := (12 : Int32)) d3_4 rfl rfl ?_
  refine s_iushr B X1 (pc' := 7) (v := (0 : Int32)) d3_6 (by decide +kernel) rfl ?_
  refine s_istoreN B X1 (pc' := 8) (Ls' := #[.val (.ref b0), .val (.long q1), .second, .val (.int (0 : Int32))]) d3_7 rfl rfl ?_
  refine s_aloadN B X1 (pc' := 9) d3_8 rfl rfl rfl ?_
  refine s_getF B X1 (pc' := 12) e1 (host := "") (Or.inl (tw17 hw)) Via.refl D_b0_blocks d3_9 rfl (fun T2 X2 e2 => ?_)
  refine s_iloadN B X2 (pc' := 13) d3_12 rfl rfl ?_
  refine s_ldR B X2 (pc' := 14) (jn := 0) (v := (.ref b3)) e2 A_b2 rfl (by decide) (by decide) (by omega) rfl d3_13 rfl ?_
  refine s_ifnonnullY B X2 (pc' := 42) d3_14 (by decide) (by decide) ?_
  refine s_aloadN B X2 (pc' := 43) d3_42 rfl rfl rfl ?_
  refine s_getF B X2 (pc' := 46) e2 (host := "") (Or.inl (tw17 hw)) Via.refl D_b0_blocks d3_43 rfl (fun T3 X3 e3 => ?_)
  refine s_iloadN B X3 (pc' := 47) d3_46 rfl rfl ?_
  refine s_ldR B X3 (pc' := 48) (jn := 0) (v := (.ref b3)) e3 A_b2 rfl (by decide) (by decide) (by omega) rfl d3_47 rfl ?_
  refine s_aloadN B X3 (pc' := 49) d3_48 rfl rfl rfl ?_
  refine s_getF B X3 (pc' := 52) e3 (host := "") (Or.inl (tw24 hw)) Via.refl D_b0_given d3_49 rfl (fun T4 X4 e4 => ?_)
  refine s_sipush B X4 (pc' := 55) (v := (4095 : Int32)) d3_52 rfl rfl ?_
  refine s_iand B X4 (pc' := 56) (v := (2 : Int32)) d3_55 rfl rfl ?_
  refine s_lloadN B X4 (pc' := 57) d3_56 rfl rfl ?_
  refine s_stJ B X4 (pc' := 58) (jn := 2) e4 A_b3  (by decide) (by decide) (by omega) d3_57 rfl (fun T5 h5 X5 e5 W5 A5 => ?_)
  have N5 := Fr.snoc X5 (Fr.nil _) ge_b3
  have O5 := (O0).wr W5 ge_b3
  have K5 := ((Keep.refl h0 [b0, b3])).wr W5 (Or.inl (List.mem_of_getElem? (i := 1) rfl))
  show Go p e below _ (T5.setTop (mkF m 58 #[.val (.ref b0), .val (.long q1), .second, .val (.int (0 : Int32))] []))
  refine s_aloadN B X5 (pc' := 59) d3_58 rfl rfl rfl ?_
  refine s_dup B X5 (pc' := 60) d3_59 rfl rfl ?_
  have f6 := (D_b0_given.other W5 (Or.inl ne_b0_b3))
  refine s_getF B X5 (pc' := 63) e5 (host := "") (Or.inl (tw24 hw)) Via.refl f6 d3_60 rfl (fun T7 X7 e7 => ?_)
  refine s_iconst B X7 (pc' := 64) (v := (1 : Int32)) d3_63 rfl rfl ?_
  refine s_iadd B X7 (pc' := 65) (v := (3 : Int32)) d3_64 rfl rfl ?_
  have f9 := (E_b0.wr W5)
  refine s_putF B X7 (pc' := 68) (ty := .int) e7 (host := "") (Or.inl (tw24 hw)) Via.refl f6 f9 (Or.inl (tw25 hw)) (tw1 hw) (by decide) rfl rfl d3_65 rfl (fun T8 h8 X8 e8 W8 => ?_)
  have G8 := f6.same W8
  have N8 := Fr.snoc X8 N5 ge_b0
  have O8 := (O5).wr W8 ge_b0
  have K8 := (K5).wr W8 (Or.inl (List.mem_of_getElem? (i := 0) rfl))
  show Go p e below _ (T8.setTop (mkF m 68 #[.val (.ref b0), .val (.long q1), .second, .val (.int (0 : Int32))] []))
  have f10 := ((D_b0_blocks.other W5 (Or.inl ne_b0_b3)).other W8 (Or.inr (slot_ne (Or.inr (tw18 hw)) (Or.inl (tw25 hw)) (by decide) (t := (.array (.array .long))) (t' := .int) (by decide) (by decide))))
  have f11 := ((D_b0_pairs.other W5 (Or.inl ne_b0_b3)).other W8 (Or.inr (slot_ne (Or.inr (tw13 hw)) (Or.inl (tw25 hw)) (by decide) (t := .long) (t' := .int) (by decide) (by decide))))
  have f12 := ((D_b0_size.other W5 (Or.inl ne_b0_b3)).other W8 (Or.inr (slot_ne (Or.inr (tw10 hw)) (Or.inl (tw25 hw)) (by decide) (t := .int) (t' := .int) (by decide) (by decide))))
  have f13 := (Ary.other W8 A5 (Ne.symm ne_b0_b3))
  exact r_void B X8 rfl d3_68 (by rw [e8]; exact ⟨rfl, N8, K8, f10, G8, f11, f12, f13⟩) (by decide) (by decide)

theorem pn_mm5_42 : plainFor mn3 = true := plainFor_of_name (show plainName "com/example/stroll/stroll/ExplicitMetric$Weights" = true by first | (simp [plainName, overriddenIn]; done) | decide +kernel)
set_option maxRecDepth 65536 in
set_option maxHeartbeats 40000000 in
theorem mm5_42 (l : Launch) (Z : State) (a0 : Array Value) (hw : ∀ d ∈ tables_1, d.before a0 Z = true) (b0 : Addr) (b1 : Addr) (b2 : Addr) (q3 : Int64) (q4 : Int32) (k_b1 : ClassId) (k_b2 : ClassId) (q5 : Int64) (q6 : Int64) (q7 : Int64) (h0 : Heap) (FZ : OwnF Z Z.heap ) (O0 : Old Z Z.heap.size h0) (ge_b0 : Z.heap.size ≤ b0) (E_b0 : Exa Z h0 b0 "com/example/stroll/stroll/ExplicitMetric$Weights") (D_b0_blocks : Fld Z h0 b0 "com/example/stroll/stroll/ExplicitMetric$Weights" "blocks" "[[J" (.ref b1)) (D_b0_given : Fld Z h0 b0 "com/example/stroll/stroll/ExplicitMetric$Weights" "given" "I" (.int (3 : Int32))) (D_b0_pairs : Fld Z h0 b0 "com/example/stroll/stroll/ExplicitMetric$Weights" "pairs" "J" (.long q3)) (D_b0_size : Fld Z h0 b0 "com/example/stroll/stroll/ExplicitMetric$Weights" "size" "I" (.int q4)) (ge_b1 : Z.heap.size ≤ b1) (A_b1 : Ary Z h0 b1 k_b1 (.array .long) 3 (upd (fun _ => .null) 0 (.ref b2))) (V_b1 : OvrA Z k_b1 .long "[J") (ge_b2 : Z.heap.size ≤ b2) (E_b2 : Exa Z h0 b2 "[J") (A_b2 : Ary Z h0 b2 k_b2 .long 4096 (upd (upd (upd (fun _ => (.long (0 : Int64))) 0 (.long q5)) 1 (.long q6)) 2 (.long q7))) (ne_b0_b1 : b0 ≠ b1) (ne_b0_b2 : b0 ≠ b2) (ne_b1_b2 : b1 ≠ b2) (sd0 : 3 ≤ q3.toInt) (hk1 : ¬ q3 < (4096 : Int64)) :
    OMeets l Z mn3 prog_28_method_4_code 2 (some .long) [] ({ frames := 0, cells := 0, slots := 0, locals := 0 } : Room) #[(.ref b0), (.int (0 : Int32))] h0 (PureQ (some (.long q5)) h0) := by
  refine OMeets.of pn_mm5_42 #[.val (.ref b0), .val (.int (0 : Int32))] (fun m => by first | rfl | (simp [entryFrame, mkF, argsToLocals, Value.category, maxLocals]; done)) ?_
  intro p e s m below meth c s₁ B X0 e0
  have F0 := trivial
  refine s_aloadN B X0 (pc' := 1) d5_0 rfl rfl rfl ?_
  refine s_getF B X0 (pc' := 4) e0 (host := "") (Or.inl (tw17 hw)) Via.refl D_b0_blocks d5_1 rfl (fun T1 X1 e1 => ?_)
  refine s_iloadN B X1 (pc' := 5) d5_4 rfl rfl ?_
  refine s_bipush B X1 (pc' := 7) (v := (12 : Int32)) d5_5 rfl rfl ?_
  refine s_iushr B X1 (pc' := 8) (v := (0 : Int32)) d5_7 (by decide +kernel) rfl ?_
  refine s_ldR B X1 (pc' := 9) (jn := 0) (v := (.ref b2)) e1 A_b1 rfl (by decide) (by decide) (by omega) rfl d5_8 rfl ?_
  refine s_iloadN B X1 (pc' := 10) d5_9 rfl rfl ?_
  refine s_sipush B X1 (pc' := 13) (v := (4095 : Int32)) d5_10 rfl rfl ?_
  refine s_iand B X1 (pc' := 14) (v := (0 : Int32)) d5_13 rfl rfl ?_
  refine s_ldJ B X1 (pc' := 15) (jn := 0) (v := (.long q5)) e1 A_b2 (by decide) (by decide) (by omega) rfl d5_14 rfl ?_
  exact r_long B X1 rfl d5_15 ⟨rfl, rfl, e1⟩ (by decide) (by decide)

theorem pn_mm5_43 : plainFor mn3 = true := plainFor_of_name (show plainName "com/example/stroll/stroll/ExplicitMetric$Weights" = true by first | (simp [plainName, overriddenIn]; done) | decide +kernel)
set_option maxRecDepth 65536 in
set_option maxHeartbeats 40000000 in
theorem mm5_43 (l : Launch) (Z : State) (a0 : Array Value) (hw : ∀ d ∈ tables_1, d.before a0 Z = true) (b0 : Addr) (b1 : Addr) (b2 : Addr) (q3 : Int64) (q4 : Int32) (k_b1 : ClassId) (k_b2 : ClassId) (q5 : Int64) (q6 : Int64) (q7 : Int64) (h0 : Heap) (FZ : OwnF Z Z.heap ) (O0 : Old Z Z.heap.size h0) (ge_b0 : Z.heap.size ≤ b0) (E_b0 : Exa Z h0 b0 "com/example/stroll/stroll/ExplicitMetric$Weights") (D_b0_blocks : Fld Z h0 b0 "com/example/stroll/stroll/ExplicitMetric$Weights" "blocks" "[[J" (.ref b1)) (D_b0_given : Fld Z h0 b0 "com/example/stroll/stroll/ExplicitMetric$Weights" "given" "I" (.int (3 : Int32))) (D_b0_pairs : Fld Z h0 b0 "com/example/stroll/stroll/ExplicitMetric$Weights" "pairs" "J" (.long q3)) (D_b0_size : Fld Z h0 b0 "com/example/stroll/stroll/ExplicitMetric$Weights" "size" "I" (.int q4)) (ge_b1 : Z.heap.size ≤ b1) (A_b1 : Ary Z h0 b1 k_b1 (.array .long) 3 (upd (fun _ => .null) 0 (.ref b2))) (V_b1 : OvrA Z k_b1 .long "[J") (ge_b2 : Z.heap.size ≤ b2) (E_b2 : Exa Z h0 b2 "[J") (A_b2 : Ary Z h0 b2 k_b2 .long 4096 (upd (upd (upd (fun _ => (.long (0 : Int64))) 0 (.long q5)) 1 (.long q6)) 2 (.long q7))) (ne_b0_b1 : b0 ≠ b1) (ne_b0_b2 : b0 ≠ b2) (ne_b1_b2 : b1 ≠ b2) (sd0 : 3 ≤ q3.toInt) (hk1 : ¬ q3 < (4096 : Int64)) :
    OMeets l Z mn3 prog_28_method_4_code 2 (some .long) [] ({ frames := 0, cells := 0, slots := 0, locals := 0 } : Room) #[(.ref b0), (.int (1 : Int32))] h0 (PureQ (some (.long q6)) h0) := by
  refine OMeets.of pn_mm5_43 #[.val (.ref b0), .val (.int (1 : Int32))] (fun m => by first | rfl | (simp [entryFrame, mkF, argsToLocals, Value.category, maxLocals]; done)) ?_
  intro p e s m below meth c s₁ B X0 e0
  have F0 := trivial
  refine s_aloadN B X0 (pc' := 1) d5_0 rfl rfl rfl ?_
  refine s_getF B X0 (pc' := 4) e0 (host := "") (Or.inl (tw17 hw)) Via.refl D_b0_blocks d5_1 rfl (fun T1 X1 e1 => ?_)
  refine s_iloadN B X1 (pc' := 5) d5_4 rfl rfl ?_
  refine s_bipush B X1 (pc' := 7) (v := (12 : Int32)) d5_5 rfl rfl ?_
  refine s_iushr B X1 (pc' := 8) (v := (0 : Int32)) d5_7 (by decide +kernel) rfl ?_
  refine s_ldR B X1 (pc' := 9) (jn := 0) (v := (.ref b2)) e1 A_b1 rfl (by decide) (by decide) (by omega) rfl d5_8 rfl ?_
  refine s_iloadN B X1 (pc' := 10) d5_9 rfl rfl ?_
  refine s_sipush B X1 (pc' := 13) (v := (4095 : Int32)) d5_10 rfl rfl ?_
  refine s_iand B X1 (pc' := 14) (v := (1 : Int32)) d5_13 rfl rfl ?_
  refine s_ldJ B X1 (pc' := 15) (jn := 1) (v := (.long q6)) e1 A_b2 (by decide) (by decide) (by omega) rfl d5_14 rfl ?_
  exact r_long B X1 rfl d5_15 ⟨rfl, rfl, e1⟩ (by decide) (by decide)

theorem pn_mm5_44 : plainFor mn3 = true := plainFor_of_name (show plainName "com/example/stroll/stroll/ExplicitMetric$Weights" = true by first | (simp [plainName, overriddenIn]; done) | decide +kernel)
set_option maxRecDepth 65536 in
set_option maxHeartbeats 40000000 in
theorem mm5_44 (l : Launch) (Z : State) (a0 : Array Value) (hw : ∀ d ∈ tables_1, d.before a0 Z = true) (b0 : Addr) (b1 : Addr) (b2 : Addr) (q3 : Int64) (q4 : Int32) (k_b1 : ClassId) (k_b2 : ClassId) (q5 : Int64) (q6 : Int64) (q7 : Int64) (h0 : Heap) (FZ : OwnF Z Z.heap ) (O0 : Old Z Z.heap.size h0) (ge_b0 : Z.heap.size ≤ b0) (E_b0 : Exa Z h0 b0 "com/example/stroll/stroll/ExplicitMetric$Weights") (D_b0_blocks : Fld Z h0 b0 "com/example/stroll/stroll/ExplicitMetric$Weights" "blocks" "[[J" (.ref b1)) (D_b0_given : Fld Z h0 b0 "com/example/stroll/stroll/ExplicitMetric$Weights" "given" "I" (.int (3 : Int32))) (D_b0_pairs : Fld Z h0 b0 "com/example/stroll/stroll/ExplicitMetric$Weights" "pairs" "J" (.long q3)) (D_b0_size : Fld Z h0 b0 "com/example/stroll/stroll/ExplicitMetric$Weights" "size" "I" (.int q4)) (ge_b1 : Z.heap.size ≤ b1) (A_b1 : Ary Z h0 b1 k_b1 (.array .long) 3 (upd (fun _ => .null) 0 (.ref b2))) (V_b1 : OvrA Z k_b1 .long "[J") (ge_b2 : Z.heap.size ≤ b2) (E_b2 : Exa Z h0 b2 "[J") (A_b2 : Ary Z h0 b2 k_b2 .long 4096 (upd (upd (upd (fun _ => (.long (0 : Int64))) 0 (.long q5)) 1 (.long q6)) 2 (.long q7))) (ne_b0_b1 : b0 ≠ b1) (ne_b0_b2 : b0 ≠ b2) (ne_b1_b2 : b1 ≠ b2) (sd0 : 3 ≤ q3.toInt) (hk1 : ¬ q3 < (4096 : Int64)) :
    OMeets l Z mn3 prog_28_method_4_code 2 (some .long) [] ({ frames := 0, cells := 0, slots := 0, locals := 0 } : Room) #[(.ref b0), (.int (2 : Int32))] h0 (PureQ (some (.long q7)) h0) := by
  refine OMeets.of pn_mm5_44 #[.val (.ref b0), .val (.int (2 : Int32))] (fun m => by first | rfl | (simp [entryFrame, mkF, argsToLocals, Value.category, maxLocals]; done)) ?_
  intro p e s m below meth c s₁ B X0 e0
  have F0 := trivial
  refine s_aloadN B X0 (pc' := 1) d5_0 rfl rfl rfl ?_
  refine s_getF B X0 (pc' := 4) e0 (host := "") (Or.inl (tw17 hw)) Via.refl D_b0_blocks d5_1 rfl (fun T1 X1 e1 => ?_)
  refine s_iloadN B X1 (pc' := 5) d5_4 rfl rfl ?_
  refine s_bipush B X1 (pc' := 7) (v := (12 : Int32)) d5_5 rfl rfl ?_
  refine s_iushr B X1 (pc' := 8) (v := (0 : Int32)) d5_7 (by decide +kernel) rfl ?_
  refine s_ldR B X1 (pc' := 9) (jn := 0) (v := (.ref b2)) e1 A_b1 rfl (by decide) (by decide) (by omega) rfl d5_8 rfl ?_
  refine s_iloadN B X1 (pc' := 10) d5_9 rfl rfl ?_
  refine s_sipush B X1 (pc' := 13) (v := (4095 : Int32)) d5_10 rfl rfl ?_
  refine s_iand B X1 (pc' := 14) (v := (2 : Int32)) d5_13 rfl rfl ?_
  refine s_ldJ B X1 (pc' := 15) (jn := 2) (v := (.long q7)) e1 A_b2 (by decide) (by decide) (by omega) rfl d5_14 rfl ?_
  exact r_long B X1 rfl d5_15 ⟨rfl, rfl, e1⟩ (by decide) (by decide)

theorem pn_rm_law : plainFor x = true := plainFor_of_name (show plainName "com/example/stroll/stroll/WeightsWeightPinLaw" = true by first | (simp [plainName, overriddenIn]; done) | decide +kernel)
set_option maxRecDepth 65536 in
set_option maxHeartbeats 40000000 in
theorem rm_law (l : Launch) (Z : State) (a0 : Array Value) (hw : ∀ d ∈ tables_1, d.before a0 Z = true) (i0 : Int32) (i1 : Int64) (i2 : Int64) (i3 : Int64) (F0 : OwnF Z Z.heap ) :
    OMeets l Z x code maxLocals ret tables_1 room_1 #[(.int i0), (.long i1), (.long i2), (.long i3)] Z.heap (fun v h L => v = some (.int 1) ∧ Fr Z.heap.size L) := by
  refine OMeets.of pn_rm_law #[.val (.int i0), .val (.long i1), .second, .val (.long i2), .second, .val (.long i3), .second, .unset, .unset, .unset] (fun m => by first | rfl | (simp [entryFrame, mkF, argsToLocals, Value.category, maxLocals]; done)) ?_
  intro p e s m below meth c s₁ B X0 e0
  obtain ⟨S, hS, S1, S2⟩ := own_S i0
  have hP3 := own_P3 S1 S2
  rcases own_nb S1 S2 with hnb | hnb | hnb
  · by_cases hP : pairsOf S < 4096
    · have hN3 := (own_len hP3 hP).2.2
      refine s_iconst B X0 (pc' := 1) (v := (3 : Int32)) at_0 rfl rfl ?_
      refine s_iloadN B X0 (pc' := 2) at_1 rfl rfl ?_
      refine s_bipush B X0 (pc' := 4) (v := (127 : Int32)) at_2 rfl rfl ?_
      refine s_iand B X0 (pc' := 5) (v := (i0 &&& (127 : Int32))) at_4 rfl rfl ?_
      refine s_iadd B X0 (pc' := 6) (v := S) at_5 (hS) rfl ?_
      refine s_istore B X0 (pc' := 8) (Ls' := #[.val (.int i0), .val (.long i1), .second, .val (.long i2), .second, .val (.long i3), .second, .val (.int S), .unset, .unset]) at_6 rfl rfl ?_
      refine s_new B X0 (pc' := 11) (n0 := 4) e0 (tw0 hw) (tw1 hw) (tw2 hw) (by decide) (by decide) at_8 rfl (fun T1 h1 o1 g1 X1 e1 E1 A1 D1 => ?_)
      have ge_o1 : Z.heap.size ≤ o1 := g1 ▸ old_le (Old.start Z)
      have O1 := ((Old.start Z)).ext E1
      have D1_size : Fld Z h1 o1 "com/example/stroll/stroll/ExplicitMetric$Weights" "size" "I" (.int (0 : Int32)) := D1 (Or.inr (tw10 hw)) (ty := .int) (by decide)
      have D1_pairs : Fld Z h1 o1 "com/example/stroll/stroll/ExplicitMetric$Weights" "pairs" "J" (.long (0 : Int64)) := D1 (Or.inr (tw13 hw)) (ty := .long) (by decide)
      have D1_blocks : Fld Z h1 o1 "com/example/stroll/stroll/ExplicitMetric$Weights" "blocks" "[[J" .null := D1 (Or.inr (tw18 hw)) (ty := (.array (.array .long))) (by decide)
      have D1_given : Fld Z h1 o1 "com/example/stroll/stroll/ExplicitMetric$Weights" "given" "I" (.int (0 : Int32)) := D1 (Or.inl (tw25 hw)) (ty := .int) (by decide)
      show Go p e below _ (T1.setTop (mkF m 11 #[.val (.int i0), .val (.long i1), .second, .val (.long i2), .second, .val (.long i3), .second, .val (.int S), .unset, .unset] [(.ref o1)]))
      refine s_dup B X1 (pc' := 12) at_11 rfl rfl ?_
      refine s_iload B X1 (pc' := 14) at_12 rfl rfl ?_
      refine c_init B X1 (y := mn0) (pc' := 17) (argsL := [(.int S)]) (under := [(.ref o1)]) (W := 1) e1 rfl (tw3 hw) (tw4 hw) (tw5 hw) (tw2 hw) (by decide) (mm1_0 l Z a0 hw o1 S  h1 F0 O1 ge_o1 A1 D1_blocks D1_given D1_pairs D1_size hnb) (lenOf pd_0 rfl) rfl rfl (by decide) (by decide) (by decide) (by decide) rfl at_14 rfl (fun v2 T2 L2 X2 hQ2 => ?_)
      obtain ⟨o2_0, kq_o2_0, rfl, Nq2, Kq2, lq_o2_0, u2_0, ovu2_0, u2_1, u2_2, u2_3, u2_4⟩ := hQ2
      have ne_o1_o2_0 : o1 ≠ o2_0 := Nat.ne_of_lt (Nat.lt_of_lt_of_le A1.lt lq_o2_0)
      have ge_o2_0 : Z.heap.size ≤ o2_0 := Nat.le_trans (old_le O1) lq_o2_0
      obtain ⟨h2, e2⟩ : ∃ z, T2.heap = z := ⟨_, rfl⟩
      rw [e2] at Kq2 u2_0 u2_1 u2_2 u2_3 u2_4
      have N2 := Fr.app (Fr.nil _) Nq2
      have O2 := (O1).keep Kq2 (allS ge_o1 all0)
      show Go p e below _ (T2.setTop (mkF m 17 #[.val (.int i0), .val (.long i1), .second, .val (.long i2), .second, .val (.long i3), .second, .val (.int S), .unset, .unset] [(.ref o1)]))
      refine s_astore B X2 (pc' := 19) (Ls' := #[.val (.int i0), .val (.long i1), .second, .val (.long i2), .second, .val (.long i3), .second, .val (.int S), .val (.ref o1), .unset]) at_17 rfl rfl rfl ?_
      refine s_aload B X2 (pc' := 21) at_19 rfl rfl rfl ?_
      refine s_lloadN B X2 (pc' := 22) at_21 rfl rfl ?_
      have f3 := (A1.keep Kq2)
      refine c_virtual B X2 (y := mn2) (pc' := 25) (argsL := [(.long i1)]) (under := []) (W := 0) e2 (tw19 hw) (tw20 hw) (tw22 hw) (tw21 hw) (tw23 hw) (tw2 hw) (by decide) (mm3_1 l Z a0 hw o1 i1 o2_0 (pairsOf S) S kq_o2_0  h2 F0 O2 ge_o1 f3 u2_1 u2_2 u2_3 u2_4 ge_o2_0 u2_0 ovu2_0 ne_o1_o2_0 hP3 hP) f3 (lenOf pd_2 rfl) rfl rfl (by decide) (by decide) (by decide) (by decide) rfl at_22 rfl (fun v4 T4 L4 X4 hQ4 => ?_)
      obtain ⟨o4_0, kq_o4_0, rfl, Nq4, Kq4, lq_o4_0, u4_0, u4_1, u4_2, u4_3, u4_4, u4_5, u4_6⟩ := hQ4
      have ne_o1_o4_0 : o1 ≠ o4_0 := Nat.ne_of_lt (Nat.lt_of_lt_of_le f3.lt lq_o4_0)
      have ne_o2_0_o4_0 : o2_0 ≠ o4_0 := Nat.ne_of_lt (Nat.lt_of_lt_of_le u2_0.lt lq_o4_0)
      have ge_o4_0 : Z.heap.size ≤ o4_0 := Nat.le_trans (old_le O2) lq_o4_0
      obtain ⟨h4, e4⟩ : ∃ z, T4.heap = z := ⟨_, rfl⟩
      rw [e4] at Kq4 u4_0 u4_1 u4_2 u4_3 u4_4 u4_5 u4_6
      have N4 := Fr.app N2 Nq4
      have O4 := (O2).keep Kq4 (allS ge_o1 (allS ge_o2_0 all0))
      show Go p e below _ (T4.setTop (mkF m 25 #[.val (.int i0), .val (.long i1), .second, .val (.long i2), .second, .val (.long i3), .second, .val (.int S), .val (.ref o1), .unset] []))
      refine s_aload B X4 (pc' := 27) at_25 rfl rfl rfl ?_
      refine s_iconst B X4 (pc' := 28) (v := (0 : Int32)) at_27 rfl rfl ?_
      have f5 := (f3.keep Kq4)
      refine p_virtual B X4 (y := mn3) (pc' := 31) (argsL := [(.int (0 : Int32))]) (under := []) (W := 0) e4 (tw32 hw) (tw33 hw) (tw35 hw) (tw34 hw) (tw36 hw) (tw2 hw) (by decide) (mm5_2 l Z a0 hw o1 o2_0 o4_0 (pairsOf S) S kq_o2_0 kq_o4_0 i1 (own_n (pairsOf S))  h4 F0 O4 ge_o1 f5 u4_2 u4_3 u4_4 u4_5 ge_o2_0 u4_6 ovu2_0 ge_o4_0 u4_0 u4_1 ne_o1_o2_0 ne_o1_o4_0 ne_o2_0_o4_0 hP3 hN3 hP) f5 (lenOf pd_3 rfl) rfl rfl (by decide) (by decide) rfl rfl (by decide) (by decide) rfl at_28 rfl (fun T6 X6 e6 => ?_)
      show Go p e below _ (T6.setTop (mkF m 31 #[.val (.int i0), .val (.long i1), .second, .val (.long i2), .second, .val (.long i3), .second, .val (.int S), .val (.ref o1), .unset] [(.long i1)]))
      refine s_lloadN B X6 (pc' := 32) at_31 rfl rfl ?_
      refine b_lcmp_ne B X6 (py := 40) (pn := 36) at_32 rfl at_33 (by decide) (by decide) rfl (fun q => absurd rfl q) (fun _ => ?_)
      refine s_iconst B X6 (pc' := 37) (v := (1 : Int32)) at_36 rfl rfl ?_
      refine s_goto B X6 (pc' := 41) at_37 (by decide) (by decide) ?_
      refine s_istore B X6 (pc' := 43) (Ls' := #[.val (.int i0), .val (.long i1), .second, .val (.long i2), .second, .val (.long i3), .second, .val (.int S), .val (.ref o1), .val (.int (1 : Int32))]) at_41 rfl rfl ?_
      refine s_aload B X6 (pc' := 45) at_43 rfl rfl rfl ?_
      refine s_lloadN B X6 (pc' := 46) at_45 rfl rfl ?_
      refine c_virtual B X6 (y := mn2) (pc' := 49) (argsL := [(.long i2)]) (under := []) (W := 0) e6 (tw19 hw) (tw20 hw) (tw22 hw) (tw21 hw) (tw23 hw) (tw2 hw) (by decide) (mm3_3 l Z a0 hw o1 i2 o2_0 o4_0 (pairsOf S) S kq_o2_0 kq_o4_0 i1 (own_n (pairsOf S))  h4 F0 O4 ge_o1 f5 u4_2 u4_3 u4_4 u4_5 ge_o2_0 u4_6 ovu2_0 ge_o4_0 u4_0 u4_1 ne_o1_o2_0 ne_o1_o4_0 ne_o2_0_o4_0 hP3 hN3 hP) f5 (lenOf pd_2 rfl) rfl rfl (by decide) (by decide) (by decide) (by decide) rfl at_46 rfl (fun v7 T7 L7 X7 hQ7 => ?_)
      obtain ⟨rfl, Nq7, Kq7, u7_0, u7_1, u7_2, u7_3, u7_4⟩ := hQ7
      obtain ⟨h7, e7⟩ : ∃ z, T7.heap = z := ⟨_, rfl⟩
      rw [e7] at Kq7 u7_0 u7_1 u7_2 u7_3 u7_4
      have N7 := Fr.app N4 Nq7
      have O7 := (O4).keep Kq7 (allS ge_o1 (allS ge_o4_0 all0))
      show Go p e below _ (T7.setTop (mkF m 49 #[.val (.int i0), .val (.long i1), .second, .val (.long i2), .second, .val (.long i3), .second, .val (.int S), .val (.ref o1), .val (.int (1 : Int32))] []))
      refine s_aload B X7 (pc' := 51) at_49 rfl rfl rfl ?_
      refine s_lload B X7 (pc' := 53) at_51 rfl rfl ?_
      have f8 := (f5.keep Kq7)
      have f9 := (u4_6.keep Kq7 (ninS (Ne.symm ne_o1_o2_0) (ninS ne_o2_0_o4_0 nin0)))
      have f10 := (u4_0.keep Kq7)
      refine c_virtual B X7 (y := mn2) (pc' := 56) (argsL := [(.long i3)]) (under := []) (W := 0) e7 (tw19 hw) (tw20 hw) (tw22 hw) (tw21 hw) (tw23 hw) (tw2 hw) (by decide) (mm3_4 l Z a0 hw o1 i3 o2_0 o4_0 (pairsOf S) S kq_o2_0 kq_o4_0 i1 i2 (own_n (pairsOf S))  h7 F0 O7 ge_o1 f8 u7_0 u7_1 u7_2 u7_3 ge_o2_0 f9 ovu2_0 ge_o4_0 f10 u7_4 ne_o1_o2_0 ne_o1_o4_0 ne_o2_0_o4_0 hP3 hN3 hP) f8 (lenOf pd_2 rfl) rfl rfl (by decide) (by decide) (by decide) (by decide) rfl at_53 rfl (fun v11 T11 L11 X11 hQ11 => ?_)
      obtain ⟨rfl, Nq11, Kq11, u11_0, u11_1, u11_2, u11_3, u11_4⟩ := hQ11
      obtain ⟨h11, e11⟩ : ∃ z, T11.heap = z := ⟨_, rfl⟩
      rw [e11] at Kq11 u11_0 u11_1 u11_2 u11_3 u11_4
      have N11 := Fr.app N7 Nq11
      have O11 := (O7).keep Kq11 (allS ge_o1 (allS ge_o4_0 all0))
      show Go p e below _ (T11.setTop (mkF m 56 #[.val (.int i0), .val (.long i1), .second, .val (.long i2), .second, .val (.long i3), .second, .val (.int S), .val (.ref o1), .val (.int (1 : Int32))] []))
      refine s_iload B X11 (pc' := 58) at_56 rfl rfl ?_
      refine s_ifN B X11 (pc' := 61) at_58 (by decide) rfl ?_
      refine s_aload B X11 (pc' := 63) at_61 rfl rfl rfl ?_
      refine s_iconst B X11 (pc' := 64) (v := (0 : Int32)) at_63 rfl rfl ?_
      have f12 := (f8.keep Kq11)
      have f13 := (f9.keep Kq11 (ninS (Ne.symm ne_o1_o2_0) (ninS ne_o2_0_o4_0 nin0)))
      have f14 := (f10.keep Kq11)
      refine p_virtual B X11 (y := mn3) (pc' := 67) (argsL := [(.int (0 : Int32))]) (under := []) (W := 0) e11 (tw32 hw) (tw33 hw) (tw35 hw) (tw34 hw) (tw36 hw) (tw2 hw) (by decide) (mm5_5 l Z a0 hw o1 o2_0 o4_0 (pairsOf S) S kq_o2_0 kq_o4_0 i1 i2 i3 (own_n (pairsOf S))  h11 F0 O11 ge_o1 f12 u11_0 u11_1 u11_2 u11_3 ge_o2_0 f13 ovu2_0 ge_o4_0 f14 u11_4 ne_o1_o2_0 ne_o1_o4_0 ne_o2_0_o4_0 hP3 hN3 hP) f12 (lenOf pd_3 rfl) rfl rfl (by decide) (by decide) rfl rfl (by decide) (by decide) rfl at_64 rfl (fun T15 X15 e15 => ?_)
      show Go p e below _ (T15.setTop (mkF m 67 #[.val (.int i0), .val (.long i1), .second, .val (.long i2), .second, .val (.long i3), .second, .val (.int S), .val (.ref o1), .val (.int (1 : Int32))] [(.long i1)]))
      refine s_lloadN B X15 (pc' := 68) at_67 rfl rfl ?_
      refine b_lcmp_ne B X15 (py := 99) (pn := 72) at_68 rfl at_69 (by decide) (by decide) rfl (fun q => absurd rfl q) (fun _ => ?_)
      refine s_aload B X15 (pc' := 74) at_72 rfl rfl rfl ?_
      refine s_iconst B X15 (pc' := 75) (v := (1 : Int32)) at_74 rfl rfl ?_
      refine p_virtual B X15 (y := mn3) (pc' := 78) (argsL := [(.int (1 : Int32))]) (under := []) (W := 0) e15 (tw32 hw) (tw33 hw) (tw35 hw) (tw34 hw) (tw36 hw) (tw2 hw) (by decide) (mm5_6 l Z a0 hw o1 o2_0 o4_0 (pairsOf S) S kq_o2_0 kq_o4_0 i1 i2 i3 (own_n (pairsOf S))  h11 F0 O11 ge_o1 f12 u11_0 u11_1 u11_2 u11_3 ge_o2_0 f13 ovu2_0 ge_o4_0 f14 u11_4 ne_o1_o2_0 ne_o1_o4_0 ne_o2_0_o4_0 hP3 hN3 hP) f12 (lenOf pd_3 rfl) rfl rfl (by decide) (by decide) rfl rfl (by decide) (by decide) rfl at_75 rfl (fun T16 X16 e16 => ?_)
      show Go p e below _ (T16.setTop (mkF m 78 #[.val (.int i0), .val (.long i1), .second, .val (.long i2), .second, .val (.long i3), .second, .val (.int S), .val (.ref o1), .val (.int (1 : Int32))] [(.long i2)]))
      refine s_lloadN B X16 (pc' := 79) at_78 rfl rfl ?_
      refine b_lcmp_ne B X16 (py := 99) (pn := 83) at_79 rfl at_80 (by decide) (by decide) rfl (fun q => absurd rfl q) (fun _ => ?_)
      refine s_aload B X16 (pc' := 85) at_83 rfl rfl rfl ?_
      refine s_iconst B X16 (pc' := 86) (v := (2 : Int32)) at_85 rfl rfl ?_
      refine p_virtual B X16 (y := mn3) (pc' := 89) (argsL := [(.int (2 : Int32))]) (under := []) (W := 0) e16 (tw32 hw) (tw33 hw) (tw35 hw) (tw34 hw) (tw36 hw) (tw2 hw) (by decide) (mm5_7 l Z a0 hw o1 o2_0 o4_0 (pairsOf S) S kq_o2_0 kq_o4_0 i1 i2 i3 (own_n (pairsOf S))  h11 F0 O11 ge_o1 f12 u11_0 u11_1 u11_2 u11_3 ge_o2_0 f13 ovu2_0 ge_o4_0 f14 u11_4 ne_o1_o2_0 ne_o1_o4_0 ne_o2_0_o4_0 hP3 hN3 hP) f12 (lenOf pd_3 rfl) rfl rfl (by decide) (by decide) rfl rfl (by decide) (by decide) rfl at_86 rfl (fun T17 X17 e17 => ?_)
      show Go p e below _ (T17.setTop (mkF m 89 #[.val (.int i0), .val (.long i1), .second, .val (.long i2), .second, .val (.long i3), .second, .val (.int S), .val (.ref o1), .val (.int (1 : Int32))] [(.long i3)]))
      refine s_lload B X17 (pc' := 91) at_89 rfl rfl ?_
      refine b_lcmp_ne B X17 (py := 99) (pn := 95) at_91 rfl at_92 (by decide) (by decide) rfl (fun q => absurd rfl q) (fun _ => ?_)
      refine s_iconst B X17 (pc' := 96) (v := (1 : Int32)) at_95 rfl rfl ?_
      refine s_goto B X17 (pc' := 100) at_96 (by decide) (by decide) ?_
      exact r_nar B X17 (t := .boolean) (by simp) rfl at_100 ⟨rfl, N11⟩ (by decide) (by decide)
    · refine s_iconst B X0 (pc' := 1) (v := (3 : Int32)) at_0 rfl rfl ?_
      refine s_iloadN B X0 (pc' := 2) at_1 rfl rfl ?_
      refine s_bipush B X0 (pc' := 4) (v := (127 : Int32)) at_2 rfl rfl ?_
      refine s_iand B X0 (pc' := 5) (v := (i0 &&& (127 : Int32))) at_4 rfl rfl ?_
      refine s_iadd B X0 (pc' := 6) (v := S) at_5 (hS) rfl ?_
      refine s_istore B X0 (pc' := 8) (Ls' := #[.val (.int i0), .val (.long i1), .second, .val (.long i2), .second, .val (.long i3), .second, .val (.int S), .unset, .unset]) at_6 rfl rfl ?_
      refine s_new B X0 (pc' := 11) (n0 := 4) e0 (tw0 hw) (tw1 hw) (tw2 hw) (by decide) (by decide) at_8 rfl (fun T18 h18 o18 g18 X18 e18 E18 A18 D18 => ?_)
      have ge_o18 : Z.heap.size ≤ o18 := g18 ▸ old_le (Old.start Z)
      have O18 := ((Old.start Z)).ext E18
      have D18_size : Fld Z h18 o18 "com/example/stroll/stroll/ExplicitMetric$Weights" "size" "I" (.int (0 : Int32)) := D18 (Or.inr (tw10 hw)) (ty := .int) (by decide)
      have D18_pairs : Fld Z h18 o18 "com/example/stroll/stroll/ExplicitMetric$Weights" "pairs" "J" (.long (0 : Int64)) := D18 (Or.inr (tw13 hw)) (ty := .long) (by decide)
      have D18_blocks : Fld Z h18 o18 "com/example/stroll/stroll/ExplicitMetric$Weights" "blocks" "[[J" .null := D18 (Or.inr (tw18 hw)) (ty := (.array (.array .long))) (by decide)
      have D18_given : Fld Z h18 o18 "com/example/stroll/stroll/ExplicitMetric$Weights" "given" "I" (.int (0 : Int32)) := D18 (Or.inl (tw25 hw)) (ty := .int) (by decide)
      show Go p e below _ (T18.setTop (mkF m 11 #[.val (.int i0), .val (.long i1), .second, .val (.long i2), .second, .val (.long i3), .second, .val (.int S), .unset, .unset] [(.ref o18)]))
      refine s_dup B X18 (pc' := 12) at_11 rfl rfl ?_
      refine s_iload B X18 (pc' := 14) at_12 rfl rfl ?_
      refine c_init B X18 (y := mn0) (pc' := 17) (argsL := [(.int S)]) (under := [(.ref o18)]) (W := 1) e18 rfl (tw3 hw) (tw4 hw) (tw5 hw) (tw2 hw) (by decide) (mm1_0 l Z a0 hw o18 S  h18 F0 O18 ge_o18 A18 D18_blocks D18_given D18_pairs D18_size hnb) (lenOf pd_0 rfl) rfl rfl (by decide) (by decide) (by decide) (by decide) rfl at_14 rfl (fun v19 T19 L19 X19 hQ19 => ?_)
      obtain ⟨o19_0, kq_o19_0, rfl, Nq19, Kq19, lq_o19_0, u19_0, ovu19_0, u19_1, u19_2, u19_3, u19_4⟩ := hQ19
      have ne_o18_o19_0 : o18 ≠ o19_0 := Nat.ne_of_lt (Nat.lt_of_lt_of_le A18.lt lq_o19_0)
      have ge_o19_0 : Z.heap.size ≤ o19_0 := Nat.le_trans (old_le O18) lq_o19_0
      obtain ⟨h19, e19⟩ : ∃ z, T19.heap = z := ⟨_, rfl⟩
      rw [e19] at Kq19 u19_0 u19_1 u19_2 u19_3 u19_4
      have N19 := Fr.app (Fr.nil _) Nq19
      have O19 := (O18).keep Kq19 (allS ge_o18 all0)
      show Go p e below _ (T19.setTop (mkF m 17 #[.val (.int i0), .val (.long i1), .second, .val (.long i2), .second, .val (.long i3), .second, .val (.int S), .unset, .unset] [(.ref o18)]))
      refine s_astore B X19 (pc' := 19) (Ls' := #[.val (.int i0), .val (.long i1), .second, .val (.long i2), .second, .val (.long i3), .second, .val (.int S), .val (.ref o18), .unset]) at_17 rfl rfl rfl ?_
      refine s_aload B X19 (pc' := 21) at_19 rfl rfl rfl ?_
      refine s_lloadN B X19 (pc' := 22) at_21 rfl rfl ?_
      have f20 := (A18.keep Kq19)
      refine c_virtual B X19 (y := mn2) (pc' := 25) (argsL := [(.long i1)]) (under := []) (W := 0) e19 (tw19 hw) (tw20 hw) (tw22 hw) (tw21 hw) (tw23 hw) (tw2 hw) (by decide) (mm3_8 l Z a0 hw o18 i1 o19_0 (pairsOf S) S kq_o19_0  h19 F0 O19 ge_o18 f20 u19_1 u19_2 u19_3 u19_4 ge_o19_0 u19_0 ovu19_0 ne_o18_o19_0 hP3 hP) f20 (lenOf pd_2 rfl) rfl rfl (by decide) (by decide) (by decide) (by decide) rfl at_22 rfl (fun v21 T21 L21 X21 hQ21 => ?_)
      obtain ⟨o21_0, kq_o21_0, rfl, Nq21, Kq21, lq_o21_0, u21_0, u21_1, u21_2, u21_3, u21_4, u21_5, u21_6⟩ := hQ21
      have ne_o18_o21_0 : o18 ≠ o21_0 := Nat.ne_of_lt (Nat.lt_of_lt_of_le f20.lt lq_o21_0)
      have ne_o19_0_o21_0 : o19_0 ≠ o21_0 := Nat.ne_of_lt (Nat.lt_of_lt_of_le u19_0.lt lq_o21_0)
      have ge_o21_0 : Z.heap.size ≤ o21_0 := Nat.le_trans (old_le O19) lq_o21_0
      obtain ⟨h21, e21⟩ : ∃ z, T21.heap = z := ⟨_, rfl⟩
      rw [e21] at Kq21 u21_0 u21_1 u21_2 u21_3 u21_4 u21_5 u21_6
      have N21 := Fr.app N19 Nq21
      have O21 := (O19).keep Kq21 (allS ge_o18 (allS ge_o19_0 all0))
      show Go p e below _ (T21.setTop (mkF m 25 #[.val (.int i0), .val (.long i1), .second, .val (.long i2), .second, .val (.long i3), .second, .val (.int S), .val (.ref o18), .unset] []))
      refine s_aload B X21 (pc' := 27) at_25 rfl rfl rfl ?_
      refine s_iconst B X21 (pc' := 28) (v := (0 : Int32)) at_27 rfl rfl ?_
      have f22 := (f20.keep Kq21)
      refine p_virtual B X21 (y := mn3) (pc' := 31) (argsL := [(.int (0 : Int32))]) (under := []) (W := 0) e21 (tw32 hw) (tw33 hw) (tw35 hw) (tw34 hw) (tw36 hw) (tw2 hw) (by decide) (mm5_9 l Z a0 hw o18 o19_0 o21_0 (pairsOf S) S kq_o19_0 kq_o21_0 i1  h21 F0 O21 ge_o18 f22 u21_2 u21_3 u21_4 u21_5 ge_o19_0 u21_6 ovu19_0 ge_o21_0 u21_0 u21_1 ne_o18_o19_0 ne_o18_o21_0 ne_o19_0_o21_0 hP3 hP) f22 (lenOf pd_3 rfl) rfl rfl (by decide) (by decide) rfl rfl (by decide) (by decide) rfl at_28 rfl (fun T23 X23 e23 => ?_)
      show Go p e below _ (T23.setTop (mkF m 31 #[.val (.int i0), .val (.long i1), .second, .val (.long i2), .second, .val (.long i3), .second, .val (.int S), .val (.ref o18), .unset] [(.long i1)]))
      refine s_lloadN B X23 (pc' := 32) at_31 rfl rfl ?_
      refine b_lcmp_ne B X23 (py := 40) (pn := 36) at_32 rfl at_33 (by decide) (by decide) rfl (fun q => absurd rfl q) (fun _ => ?_)
      refine s_iconst B X23 (pc' := 37) (v := (1 : Int32)) at_36 rfl rfl ?_
      refine s_goto B X23 (pc' := 41) at_37 (by decide) (by decide) ?_
      refine s_istore B X23 (pc' := 43) (Ls' := #[.val (.int i0), .val (.long i1), .second, .val (.long i2), .second, .val (.long i3), .second, .val (.int S), .val (.ref o18), .val (.int (1 : Int32))]) at_41 rfl rfl ?_
      refine s_aload B X23 (pc' := 45) at_43 rfl rfl rfl ?_
      refine s_lloadN B X23 (pc' := 46) at_45 rfl rfl ?_
      refine c_virtual B X23 (y := mn2) (pc' := 49) (argsL := [(.long i2)]) (under := []) (W := 0) e23 (tw19 hw) (tw20 hw) (tw22 hw) (tw21 hw) (tw23 hw) (tw2 hw) (by decide) (mm3_10 l Z a0 hw o18 i2 o19_0 o21_0 (pairsOf S) S kq_o19_0 kq_o21_0 i1  h21 F0 O21 ge_o18 f22 u21_2 u21_3 u21_4 u21_5 ge_o19_0 u21_6 ovu19_0 ge_o21_0 u21_0 u21_1 ne_o18_o19_0 ne_o18_o21_0 ne_o19_0_o21_0 hP3 hP) f22 (lenOf pd_2 rfl) rfl rfl (by decide) (by decide) (by decide) (by decide) rfl at_46 rfl (fun v24 T24 L24 X24 hQ24 => ?_)
      obtain ⟨rfl, Nq24, Kq24, u24_0, u24_1, u24_2, u24_3, u24_4⟩ := hQ24
      obtain ⟨h24, e24⟩ : ∃ z, T24.heap = z := ⟨_, rfl⟩
      rw [e24] at Kq24 u24_0 u24_1 u24_2 u24_3 u24_4
      have N24 := Fr.app N21 Nq24
      have O24 := (O21).keep Kq24 (allS ge_o18 (allS ge_o21_0 all0))
      show Go p e below _ (T24.setTop (mkF m 49 #[.val (.int i0), .val (.long i1), .second, .val (.long i2), .second, .val (.long i3), .second, .val (.int S), .val (.ref o18), .val (.int (1 : Int32))] []))
      refine s_aload B X24 (pc' := 51) at_49 rfl rfl rfl ?_
      refine s_lload B X24 (pc' := 53) at_51 rfl rfl ?_
      have f25 := (f22.keep Kq24)
      have f26 := (u21_6.keep Kq24 (ninS (Ne.symm ne_o18_o19_0) (ninS ne_o19_0_o21_0 nin0)))
      have f27 := (u21_0.keep Kq24)
      refine c_virtual B X24 (y := mn2) (pc' := 56) (argsL := [(.long i3)]) (under := []) (W := 0) e24 (tw19 hw) (tw20 hw) (tw22 hw) (tw21 hw) (tw23 hw) (tw2 hw) (by decide) (mm3_11 l Z a0 hw o18 i3 o19_0 o21_0 (pairsOf S) S kq_o19_0 kq_o21_0 i1 i2  h24 F0 O24 ge_o18 f25 u24_0 u24_1 u24_2 u24_3 ge_o19_0 f26 ovu19_0 ge_o21_0 f27 u24_4 ne_o18_o19_0 ne_o18_o21_0 ne_o19_0_o21_0 hP3 hP) f25 (lenOf pd_2 rfl) rfl rfl (by decide) (by decide) (by decide) (by decide) rfl at_53 rfl (fun v28 T28 L28 X28 hQ28 => ?_)
      obtain ⟨rfl, Nq28, Kq28, u28_0, u28_1, u28_2, u28_3, u28_4⟩ := hQ28
      obtain ⟨h28, e28⟩ : ∃ z, T28.heap = z := ⟨_, rfl⟩
      rw [e28] at Kq28 u28_0 u28_1 u28_2 u28_3 u28_4
      have N28 := Fr.app N24 Nq28
      have O28 := (O24).keep Kq28 (allS ge_o18 (allS ge_o21_0 all0))
      show Go p e below _ (T28.setTop (mkF m 56 #[.val (.int i0), .val (.long i1), .second, .val (.long i2), .second, .val (.long i3), .second, .val (.int S), .val (.ref o18), .val (.int (1 : Int32))] []))
      refine s_iload B X28 (pc' := 58) at_56 rfl rfl ?_
      refine s_ifN B X28 (pc' := 61) at_58 (by decide) rfl ?_
      refine s_aload B X28 (pc' := 63) at_61 rfl rfl rfl ?_
      refine s_iconst B X28 (pc' := 64) (v := (0 : Int32)) at_63 rfl rfl ?_
      have f29 := (f25.keep Kq28)
      have f30 := (f26.keep Kq28 (ninS (Ne.symm ne_o18_o19_0) (ninS ne_o19_0_o21_0 nin0)))
      have f31 := (f27.keep Kq28)
      refine p_virtual B X28 (y := mn3) (pc' := 67) (argsL := [(.int (0 : Int32))]) (under := []) (W := 0) e28 (tw32 hw) (tw33 hw) (tw35 hw) (tw34 hw) (tw36 hw) (tw2 hw) (by decide) (mm5_12 l Z a0 hw o18 o19_0 o21_0 (pairsOf S) S kq_o19_0 kq_o21_0 i1 i2 i3  h28 F0 O28 ge_o18 f29 u28_0 u28_1 u28_2 u28_3 ge_o19_0 f30 ovu19_0 ge_o21_0 f31 u28_4 ne_o18_o19_0 ne_o18_o21_0 ne_o19_0_o21_0 hP3 hP) f29 (lenOf pd_3 rfl) rfl rfl (by decide) (by decide) rfl rfl (by decide) (by decide) rfl at_64 rfl (fun T32 X32 e32 => ?_)
      show Go p e below _ (T32.setTop (mkF m 67 #[.val (.int i0), .val (.long i1), .second, .val (.long i2), .second, .val (.long i3), .second, .val (.int S), .val (.ref o18), .val (.int (1 : Int32))] [(.long i1)]))
      refine s_lloadN B X32 (pc' := 68) at_67 rfl rfl ?_
      refine b_lcmp_ne B X32 (py := 99) (pn := 72) at_68 rfl at_69 (by decide) (by decide) rfl (fun q => absurd rfl q) (fun _ => ?_)
      refine s_aload B X32 (pc' := 74) at_72 rfl rfl rfl ?_
      refine s_iconst B X32 (pc' := 75) (v := (1 : Int32)) at_74 rfl rfl ?_
      refine p_virtual B X32 (y := mn3) (pc' := 78) (argsL := [(.int (1 : Int32))]) (under := []) (W := 0) e32 (tw32 hw) (tw33 hw) (tw35 hw) (tw34 hw) (tw36 hw) (tw2 hw) (by decide) (mm5_13 l Z a0 hw o18 o19_0 o21_0 (pairsOf S) S kq_o19_0 kq_o21_0 i1 i2 i3  h28 F0 O28 ge_o18 f29 u28_0 u28_1 u28_2 u28_3 ge_o19_0 f30 ovu19_0 ge_o21_0 f31 u28_4 ne_o18_o19_0 ne_o18_o21_0 ne_o19_0_o21_0 hP3 hP) f29 (lenOf pd_3 rfl) rfl rfl (by decide) (by decide) rfl rfl (by decide) (by decide) rfl at_75 rfl (fun T33 X33 e33 => ?_)
      show Go p e below _ (T33.setTop (mkF m 78 #[.val (.int i0), .val (.long i1), .second, .val (.long i2), .second, .val (.long i3), .second, .val (.int S), .val (.ref o18), .val (.int (1 : Int32))] [(.long i2)]))
      refine s_lloadN B X33 (pc' := 79) at_78 rfl rfl ?_
      refine b_lcmp_ne B X33 (py := 99) (pn := 83) at_79 rfl at_80 (by decide) (by decide) rfl (fun q => absurd rfl q) (fun _ => ?_)
      refine s_aload B X33 (pc' := 85) at_83 rfl rfl rfl ?_
      refine s_iconst B X33 (pc' := 86) (v := (2 : Int32)) at_85 rfl rfl ?_
      refine p_virtual B X33 (y := mn3) (pc' := 89) (argsL := [(.int (2 : Int32))]) (under := []) (W := 0) e33 (tw32 hw) (tw33 hw) (tw35 hw) (tw34 hw) (tw36 hw) (tw2 hw) (by decide) (mm5_14 l Z a0 hw o18 o19_0 o21_0 (pairsOf S) S kq_o19_0 kq_o21_0 i1 i2 i3  h28 F0 O28 ge_o18 f29 u28_0 u28_1 u28_2 u28_3 ge_o19_0 f30 ovu19_0 ge_o21_0 f31 u28_4 ne_o18_o19_0 ne_o18_o21_0 ne_o19_0_o21_0 hP3 hP) f29 (lenOf pd_3 rfl) rfl rfl (by decide) (by decide) rfl rfl (by decide) (by decide) rfl at_86 rfl (fun T34 X34 e34 => ?_)
      show Go p e below _ (T34.setTop (mkF m 89 #[.val (.int i0), .val (.long i1), .second, .val (.long i2), .second, .val (.long i3), .second, .val (.int S), .val (.ref o18), .val (.int (1 : Int32))] [(.long i3)]))
      refine s_lload B X34 (pc' := 91) at_89 rfl rfl ?_
      refine b_lcmp_ne B X34 (py := 99) (pn := 95) at_91 rfl at_92 (by decide) (by decide) rfl (fun q => absurd rfl q) (fun _ => ?_)
      refine s_iconst B X34 (pc' := 96) (v := (1 : Int32)) at_95 rfl rfl ?_
      refine s_goto B X34 (pc' := 100) at_96 (by decide) (by decide) ?_
      exact r_nar B X34 (t := .boolean) (by simp) rfl at_100 ⟨rfl, N28⟩ (by decide) (by decide)
  · by_cases hP : pairsOf S < 4096
    · have hN3 := (own_len hP3 hP).2.2
      refine s_iconst B X0 (pc' := 1) (v := (3 : Int32)) at_0 rfl rfl ?_
      refine s_iloadN B X0 (pc' := 2) at_1 rfl rfl ?_
      refine s_bipush B X0 (pc' := 4) (v := (127 : Int32)) at_2 rfl rfl ?_
      refine s_iand B X0 (pc' := 5) (v := (i0 &&& (127 : Int32))) at_4 rfl rfl ?_
      refine s_iadd B X0 (pc' := 6) (v := S) at_5 (hS) rfl ?_
      refine s_istore B X0 (pc' := 8) (Ls' := #[.val (.int i0), .val (.long i1), .second, .val (.long i2), .second, .val (.long i3), .second, .val (.int S), .unset, .unset]) at_6 rfl rfl ?_
      refine s_new B X0 (pc' := 11) (n0 := 4) e0 (tw0 hw) (tw1 hw) (tw2 hw) (by decide) (by decide) at_8 rfl (fun T35 h35 o35 g35 X35 e35 E35 A35 D35 => ?_)
      have ge_o35 : Z.heap.size ≤ o35 := g35 ▸ old_le (Old.start Z)
      have O35 := ((Old.start Z)).ext E35
      have D35_size : Fld Z h35 o35 "com/example/stroll/stroll/ExplicitMetric$Weights" "size" "I" (.int (0 : Int32)) := D35 (Or.inr (tw10 hw)) (ty := .int) (by decide)
      have D35_pairs : Fld Z h35 o35 "com/example/stroll/stroll/ExplicitMetric$Weights" "pairs" "J" (.long (0 : Int64)) := D35 (Or.inr (tw13 hw)) (ty := .long) (by decide)
      have D35_blocks : Fld Z h35 o35 "com/example/stroll/stroll/ExplicitMetric$Weights" "blocks" "[[J" .null := D35 (Or.inr (tw18 hw)) (ty := (.array (.array .long))) (by decide)
      have D35_given : Fld Z h35 o35 "com/example/stroll/stroll/ExplicitMetric$Weights" "given" "I" (.int (0 : Int32)) := D35 (Or.inl (tw25 hw)) (ty := .int) (by decide)
      show Go p e below _ (T35.setTop (mkF m 11 #[.val (.int i0), .val (.long i1), .second, .val (.long i2), .second, .val (.long i3), .second, .val (.int S), .unset, .unset] [(.ref o35)]))
      refine s_dup B X35 (pc' := 12) at_11 rfl rfl ?_
      refine s_iload B X35 (pc' := 14) at_12 rfl rfl ?_
      refine c_init B X35 (y := mn0) (pc' := 17) (argsL := [(.int S)]) (under := [(.ref o35)]) (W := 1) e35 rfl (tw3 hw) (tw4 hw) (tw5 hw) (tw2 hw) (by decide) (mm1_15 l Z a0 hw o35 S  h35 F0 O35 ge_o35 A35 D35_blocks D35_given D35_pairs D35_size hnb) (lenOf pd_0 rfl) rfl rfl (by decide) (by decide) (by decide) (by decide) rfl at_14 rfl (fun v36 T36 L36 X36 hQ36 => ?_)
      obtain ⟨o36_0, kq_o36_0, rfl, Nq36, Kq36, lq_o36_0, u36_0, ovu36_0, u36_1, u36_2, u36_3, u36_4⟩ := hQ36
      have ne_o35_o36_0 : o35 ≠ o36_0 := Nat.ne_of_lt (Nat.lt_of_lt_of_le A35.lt lq_o36_0)
      have ge_o36_0 : Z.heap.size ≤ o36_0 := Nat.le_trans (old_le O35) lq_o36_0
      obtain ⟨h36, e36⟩ : ∃ z, T36.heap = z := ⟨_, rfl⟩
      rw [e36] at Kq36 u36_0 u36_1 u36_2 u36_3 u36_4
      have N36 := Fr.app (Fr.nil _) Nq36
      have O36 := (O35).keep Kq36 (allS ge_o35 all0)
      show Go p e below _ (T36.setTop (mkF m 17 #[.val (.int i0), .val (.long i1), .second, .val (.long i2), .second, .val (.long i3), .second, .val (.int S), .unset, .unset] [(.ref o35)]))
      refine s_astore B X36 (pc' := 19) (Ls' := #[.val (.int i0), .val (.long i1), .second, .val (.long i2), .second, .val (.long i3), .second, .val (.int S), .val (.ref o35), .unset]) at_17 rfl rfl rfl ?_
      refine s_aload B X36 (pc' := 21) at_19 rfl rfl rfl ?_
      refine s_lloadN B X36 (pc' := 22) at_21 rfl rfl ?_
      have f37 := (A35.keep Kq36)
      refine c_virtual B X36 (y := mn2) (pc' := 25) (argsL := [(.long i1)]) (under := []) (W := 0) e36 (tw19 hw) (tw20 hw) (tw22 hw) (tw21 hw) (tw23 hw) (tw2 hw) (by decide) (mm3_16 l Z a0 hw o35 i1 o36_0 (pairsOf S) S kq_o36_0  h36 F0 O36 ge_o35 f37 u36_1 u36_2 u36_3 u36_4 ge_o36_0 u36_0 ovu36_0 ne_o35_o36_0 hP3 hP) f37 (lenOf pd_2 rfl) rfl rfl (by decide) (by decide) (by decide) (by decide) rfl at_22 rfl (fun v38 T38 L38 X38 hQ38 => ?_)
      obtain ⟨o38_0, kq_o38_0, rfl, Nq38, Kq38, lq_o38_0, u38_0, u38_1, u38_2, u38_3, u38_4, u38_5, u38_6⟩ := hQ38
      have ne_o35_o38_0 : o35 ≠ o38_0 := Nat.ne_of_lt (Nat.lt_of_lt_of_le f37.lt lq_o38_0)
      have ne_o36_0_o38_0 : o36_0 ≠ o38_0 := Nat.ne_of_lt (Nat.lt_of_lt_of_le u36_0.lt lq_o38_0)
      have ge_o38_0 : Z.heap.size ≤ o38_0 := Nat.le_trans (old_le O36) lq_o38_0
      obtain ⟨h38, e38⟩ : ∃ z, T38.heap = z := ⟨_, rfl⟩
      rw [e38] at Kq38 u38_0 u38_1 u38_2 u38_3 u38_4 u38_5 u38_6
      have N38 := Fr.app N36 Nq38
      have O38 := (O36).keep Kq38 (allS ge_o35 (allS ge_o36_0 all0))
      show Go p e below _ (T38.setTop (mkF m 25 #[.val (.int i0), .val (.long i1), .second, .val (.long i2), .second, .val (.long i3), .second, .val (.int S), .val (.ref o35), .unset] []))
      refine s_aload B X38 (pc' := 27) at_25 rfl rfl rfl ?_
      refine s_iconst B X38 (pc' := 28) (v := (0 : Int32)) at_27 rfl rfl ?_
      have f39 := (f37.keep Kq38)
      refine p_virtual B X38 (y := mn3) (pc' := 31) (argsL := [(.int (0 : Int32))]) (under := []) (W := 0) e38 (tw32 hw) (tw33 hw) (tw35 hw) (tw34 hw) (tw36 hw) (tw2 hw) (by decide) (mm5_17 l Z a0 hw o35 o36_0 o38_0 (pairsOf S) S kq_o36_0 kq_o38_0 i1 (own_n (pairsOf S))  h38 F0 O38 ge_o35 f39 u38_2 u38_3 u38_4 u38_5 ge_o36_0 u38_6 ovu36_0 ge_o38_0 u38_0 u38_1 ne_o35_o36_0 ne_o35_o38_0 ne_o36_0_o38_0 hP3 hN3 hP) f39 (lenOf pd_3 rfl) rfl rfl (by decide) (by decide) rfl rfl (by decide) (by decide) rfl at_28 rfl (fun T40 X40 e40 => ?_)
      show Go p e below _ (T40.setTop (mkF m 31 #[.val (.int i0), .val (.long i1), .second, .val (.long i2), .second, .val (.long i3), .second, .val (.int S), .val (.ref o35), .unset] [(.long i1)]))
      refine s_lloadN B X40 (pc' := 32) at_31 rfl rfl ?_
      refine b_lcmp_ne B X40 (py := 40) (pn := 36) at_32 rfl at_33 (by decide) (by decide) rfl (fun q => absurd rfl q) (fun _ => ?_)
      refine s_iconst B X40 (pc' := 37) (v := (1 : Int32)) at_36 rfl rfl ?_
      refine s_goto B X40 (pc' := 41) at_37 (by decide) (by decide) ?_
      refine s_istore B X40 (pc' := 43) (Ls' := #[.val (.int i0), .val (.long i1), .second, .val (.long i2), .second, .val (.long i3), .second, .val (.int S), .val (.ref o35), .val (.int (1 : Int32))]) at_41 rfl rfl ?_
      refine s_aload B X40 (pc' := 45) at_43 rfl rfl rfl ?_
      refine s_lloadN B X40 (pc' := 46) at_45 rfl rfl ?_
      refine c_virtual B X40 (y := mn2) (pc' := 49) (argsL := [(.long i2)]) (under := []) (W := 0) e40 (tw19 hw) (tw20 hw) (tw22 hw) (tw21 hw) (tw23 hw) (tw2 hw) (by decide) (mm3_18 l Z a0 hw o35 i2 o36_0 o38_0 (pairsOf S) S kq_o36_0 kq_o38_0 i1 (own_n (pairsOf S))  h38 F0 O38 ge_o35 f39 u38_2 u38_3 u38_4 u38_5 ge_o36_0 u38_6 ovu36_0 ge_o38_0 u38_0 u38_1 ne_o35_o36_0 ne_o35_o38_0 ne_o36_0_o38_0 hP3 hN3 hP) f39 (lenOf pd_2 rfl) rfl rfl (by decide) (by decide) (by decide) (by decide) rfl at_46 rfl (fun v41 T41 L41 X41 hQ41 => ?_)
      obtain ⟨rfl, Nq41, Kq41, u41_0, u41_1, u41_2, u41_3, u41_4⟩ := hQ41
      obtain ⟨h41, e41⟩ : ∃ z, T41.heap = z := ⟨_, rfl⟩
      rw [e41] at Kq41 u41_0 u41_1 u41_2 u41_3 u41_4
      have N41 := Fr.app N38 Nq41
      have O41 := (O38).keep Kq41 (allS ge_o35 (allS ge_o38_0 all0))
      show Go p e below _ (T41.setTop (mkF m 49 #[.val (.int i0), .val (.long i1), .second, .val (.long i2), .second, .val (.long i3), .second, .val (.int S), .val (.ref o35), .val (.int (1 : Int32))] []))
      refine s_aload B X41 (pc' := 51) at_49 rfl rfl rfl ?_
      refine s_lload B X41 (pc' := 53) at_51 rfl rfl ?_
      have f42 := (f39.keep Kq41)
      have f43 := (u38_6.keep Kq41 (ninS (Ne.symm ne_o35_o36_0) (ninS ne_o36_0_o38_0 nin0)))
      have f44 := (u38_0.keep Kq41)
      refine c_virtual B X41 (y := mn2) (pc' := 56) (argsL := [(.long i3)]) (under := []) (W := 0) e41 (tw19 hw) (tw20 hw) (tw22 hw) (tw21 hw) (tw23 hw) (tw2 hw) (by decide) (mm3_19 l Z a0 hw o35 i3 o36_0 o38_0 (pairsOf S) S kq_o36_0 kq_o38_0 i1 i2 (own_n (pairsOf S))  h41 F0 O41 ge_o35 f42 u41_0 u41_1 u41_2 u41_3 ge_o36_0 f43 ovu36_0 ge_o38_0 f44 u41_4 ne_o35_o36_0 ne_o35_o38_0 ne_o36_0_o38_0 hP3 hN3 hP) f42 (lenOf pd_2 rfl) rfl rfl (by decide) (by decide) (by decide) (by decide) rfl at_53 rfl (fun v45 T45 L45 X45 hQ45 => ?_)
      obtain ⟨rfl, Nq45, Kq45, u45_0, u45_1, u45_2, u45_3, u45_4⟩ := hQ45
      obtain ⟨h45, e45⟩ : ∃ z, T45.heap = z := ⟨_, rfl⟩
      rw [e45] at Kq45 u45_0 u45_1 u45_2 u45_3 u45_4
      have N45 := Fr.app N41 Nq45
      have O45 := (O41).keep Kq45 (allS ge_o35 (allS ge_o38_0 all0))
      show Go p e below _ (T45.setTop (mkF m 56 #[.val (.int i0), .val (.long i1), .second, .val (.long i2), .second, .val (.long i3), .second, .val (.int S), .val (.ref o35), .val (.int (1 : Int32))] []))
      refine s_iload B X45 (pc' := 58) at_56 rfl rfl ?_
      refine s_ifN B X45 (pc' := 61) at_58 (by decide) rfl ?_
      refine s_aload B X45 (pc' := 63) at_61 rfl rfl rfl ?_
      refine s_iconst B X45 (pc' := 64) (v := (0 : Int32)) at_63 rfl rfl ?_
      have f46 := (f42.keep Kq45)
      have f47 := (f43.keep Kq45 (ninS (Ne.symm ne_o35_o36_0) (ninS ne_o36_0_o38_0 nin0)))
      have f48 := (f44.keep Kq45)
      refine p_virtual B X45 (y := mn3) (pc' := 67) (argsL := [(.int (0 : Int32))]) (under := []) (W := 0) e45 (tw32 hw) (tw33 hw) (tw35 hw) (tw34 hw) (tw36 hw) (tw2 hw) (by decide) (mm5_20 l Z a0 hw o35 o36_0 o38_0 (pairsOf S) S kq_o36_0 kq_o38_0 i1 i2 i3 (own_n (pairsOf S))  h45 F0 O45 ge_o35 f46 u45_0 u45_1 u45_2 u45_3 ge_o36_0 f47 ovu36_0 ge_o38_0 f48 u45_4 ne_o35_o36_0 ne_o35_o38_0 ne_o36_0_o38_0 hP3 hN3 hP) f46 (lenOf pd_3 rfl) rfl rfl (by decide) (by decide) rfl rfl (by decide) (by decide) rfl at_64 rfl (fun T49 X49 e49 => ?_)
      show Go p e below _ (T49.setTop (mkF m 67 #[.val (.int i0), .val (.long i1), .second, .val (.long i2), .second, .val (.long i3), .second, .val (.int S), .val (.ref o35), .val (.int (1 : Int32))] [(.long i1)]))
      refine s_lloadN B X49 (pc' := 68) at_67 rfl rfl ?_
      refine b_lcmp_ne B X49 (py := 99) (pn := 72) at_68 rfl at_69 (by decide) (by decide) rfl (fun q => absurd rfl q) (fun _ => ?_)
      refine s_aload B X49 (pc' := 74) at_72 rfl rfl rfl ?_
      refine s_iconst B X49 (pc' := 75) (v := (1 : Int32)) at_74 rfl rfl ?_
      refine p_virtual B X49 (y := mn3) (pc' := 78) (argsL := [(.int (1 : Int32))]) (under := []) (W := 0) e49 (tw32 hw) (tw33 hw) (tw35 hw) (tw34 hw) (tw36 hw) (tw2 hw) (by decide) (mm5_21 l Z a0 hw o35 o36_0 o38_0 (pairsOf S) S kq_o36_0 kq_o38_0 i1 i2 i3 (own_n (pairsOf S))  h45 F0 O45 ge_o35 f46 u45_0 u45_1 u45_2 u45_3 ge_o36_0 f47 ovu36_0 ge_o38_0 f48 u45_4 ne_o35_o36_0 ne_o35_o38_0 ne_o36_0_o38_0 hP3 hN3 hP) f46 (lenOf pd_3 rfl) rfl rfl (by decide) (by decide) rfl rfl (by decide) (by decide) rfl at_75 rfl (fun T50 X50 e50 => ?_)
      show Go p e below _ (T50.setTop (mkF m 78 #[.val (.int i0), .val (.long i1), .second, .val (.long i2), .second, .val (.long i3), .second, .val (.int S), .val (.ref o35), .val (.int (1 : Int32))] [(.long i2)]))
      refine s_lloadN B X50 (pc' := 79) at_78 rfl rfl ?_
      refine b_lcmp_ne B X50 (py := 99) (pn := 83) at_79 rfl at_80 (by decide) (by decide) rfl (fun q => absurd rfl q) (fun _ => ?_)
      refine s_aload B X50 (pc' := 85) at_83 rfl rfl rfl ?_
      refine s_iconst B X50 (pc' := 86) (v := (2 : Int32)) at_85 rfl rfl ?_
      refine p_virtual B X50 (y := mn3) (pc' := 89) (argsL := [(.int (2 : Int32))]) (under := []) (W := 0) e50 (tw32 hw) (tw33 hw) (tw35 hw) (tw34 hw) (tw36 hw) (tw2 hw) (by decide) (mm5_22 l Z a0 hw o35 o36_0 o38_0 (pairsOf S) S kq_o36_0 kq_o38_0 i1 i2 i3 (own_n (pairsOf S))  h45 F0 O45 ge_o35 f46 u45_0 u45_1 u45_2 u45_3 ge_o36_0 f47 ovu36_0 ge_o38_0 f48 u45_4 ne_o35_o36_0 ne_o35_o38_0 ne_o36_0_o38_0 hP3 hN3 hP) f46 (lenOf pd_3 rfl) rfl rfl (by decide) (by decide) rfl rfl (by decide) (by decide) rfl at_86 rfl (fun T51 X51 e51 => ?_)
      show Go p e below _ (T51.setTop (mkF m 89 #[.val (.int i0), .val (.long i1), .second, .val (.long i2), .second, .val (.long i3), .second, .val (.int S), .val (.ref o35), .val (.int (1 : Int32))] [(.long i3)]))
      refine s_lload B X51 (pc' := 91) at_89 rfl rfl ?_
      refine b_lcmp_ne B X51 (py := 99) (pn := 95) at_91 rfl at_92 (by decide) (by decide) rfl (fun q => absurd rfl q) (fun _ => ?_)
      refine s_iconst B X51 (pc' := 96) (v := (1 : Int32)) at_95 rfl rfl ?_
      refine s_goto B X51 (pc' := 100) at_96 (by decide) (by decide) ?_
      exact r_nar B X51 (t := .boolean) (by simp) rfl at_100 ⟨rfl, N45⟩ (by decide) (by decide)
    · refine s_iconst B X0 (pc' := 1) (v := (3 : Int32)) at_0 rfl rfl ?_
      refine s_iloadN B X0 (pc' := 2) at_1 rfl rfl ?_
      refine s_bipush B X0 (pc' := 4) (v := (127 : Int32)) at_2 rfl rfl ?_
      refine s_iand B X0 (pc' := 5) (v := (i0 &&& (127 : Int32))) at_4 rfl rfl ?_
      refine s_iadd B X0 (pc' := 6) (v := S) at_5 (hS) rfl ?_
      refine s_istore B X0 (pc' := 8) (Ls' := #[.val (.int i0), .val (.long i1), .second, .val (.long i2), .second, .val (.long i3), .second, .val (.int S), .unset, .unset]) at_6 rfl rfl ?_
      refine s_new B X0 (pc' := 11) (n0 := 4) e0 (tw0 hw) (tw1 hw) (tw2 hw) (by decide) (by decide) at_8 rfl (fun T52 h52 o52 g52 X52 e52 E52 A52 D52 => ?_)
      have ge_o52 : Z.heap.size ≤ o52 := g52 ▸ old_le (Old.start Z)
      have O52 := ((Old.start Z)).ext E52
      have D52_size : Fld Z h52 o52 "com/example/stroll/stroll/ExplicitMetric$Weights" "size" "I" (.int (0 : Int32)) := D52 (Or.inr (tw10 hw)) (ty := .int) (by decide)
      have D52_pairs : Fld Z h52 o52 "com/example/stroll/stroll/ExplicitMetric$Weights" "pairs" "J" (.long (0 : Int64)) := D52 (Or.inr (tw13 hw)) (ty := .long) (by decide)
      have D52_blocks : Fld Z h52 o52 "com/example/stroll/stroll/ExplicitMetric$Weights" "blocks" "[[J" .null := D52 (Or.inr (tw18 hw)) (ty := (.array (.array .long))) (by decide)
      have D52_given : Fld Z h52 o52 "com/example/stroll/stroll/ExplicitMetric$Weights" "given" "I" (.int (0 : Int32)) := D52 (Or.inl (tw25 hw)) (ty := .int) (by decide)
      show Go p e below _ (T52.setTop (mkF m 11 #[.val (.int i0), .val (.long i1), .second, .val (.long i2), .second, .val (.long i3), .second, .val (.int S), .unset, .unset] [(.ref o52)]))
      refine s_dup B X52 (pc' := 12) at_11 rfl rfl ?_
      refine s_iload B X52 (pc' := 14) at_12 rfl rfl ?_
      refine c_init B X52 (y := mn0) (pc' := 17) (argsL := [(.int S)]) (under := [(.ref o52)]) (W := 1) e52 rfl (tw3 hw) (tw4 hw) (tw5 hw) (tw2 hw) (by decide) (mm1_15 l Z a0 hw o52 S  h52 F0 O52 ge_o52 A52 D52_blocks D52_given D52_pairs D52_size hnb) (lenOf pd_0 rfl) rfl rfl (by decide) (by decide) (by decide) (by decide) rfl at_14 rfl (fun v53 T53 L53 X53 hQ53 => ?_)
      obtain ⟨o53_0, kq_o53_0, rfl, Nq53, Kq53, lq_o53_0, u53_0, ovu53_0, u53_1, u53_2, u53_3, u53_4⟩ := hQ53
      have ne_o52_o53_0 : o52 ≠ o53_0 := Nat.ne_of_lt (Nat.lt_of_lt_of_le A52.lt lq_o53_0)
      have ge_o53_0 : Z.heap.size ≤ o53_0 := Nat.le_trans (old_le O52) lq_o53_0
      obtain ⟨h53, e53⟩ : ∃ z, T53.heap = z := ⟨_, rfl⟩
      rw [e53] at Kq53 u53_0 u53_1 u53_2 u53_3 u53_4
      have N53 := Fr.app (Fr.nil _) Nq53
      have O53 := (O52).keep Kq53 (allS ge_o52 all0)
      show Go p e below _ (T53.setTop (mkF m 17 #[.val (.int i0), .val (.long i1), .second, .val (.long i2), .second, .val (.long i3), .second, .val (.int S), .unset, .unset] [(.ref o52)]))
      refine s_astore B X53 (pc' := 19) (Ls' := #[.val (.int i0), .val (.long i1), .second, .val (.long i2), .second, .val (.long i3), .second, .val (.int S), .val (.ref o52), .unset]) at_17 rfl rfl rfl ?_
      refine s_aload B X53 (pc' := 21) at_19 rfl rfl rfl ?_
      refine s_lloadN B X53 (pc' := 22) at_21 rfl rfl ?_
      have f54 := (A52.keep Kq53)
      refine c_virtual B X53 (y := mn2) (pc' := 25) (argsL := [(.long i1)]) (under := []) (W := 0) e53 (tw19 hw) (tw20 hw) (tw22 hw) (tw21 hw) (tw23 hw) (tw2 hw) (by decide) (mm3_23 l Z a0 hw o52 i1 o53_0 (pairsOf S) S kq_o53_0  h53 F0 O53 ge_o52 f54 u53_1 u53_2 u53_3 u53_4 ge_o53_0 u53_0 ovu53_0 ne_o52_o53_0 hP3 hP) f54 (lenOf pd_2 rfl) rfl rfl (by decide) (by decide) (by decide) (by decide) rfl at_22 rfl (fun v55 T55 L55 X55 hQ55 => ?_)
      obtain ⟨o55_0, kq_o55_0, rfl, Nq55, Kq55, lq_o55_0, u55_0, u55_1, u55_2, u55_3, u55_4, u55_5, u55_6⟩ := hQ55
      have ne_o52_o55_0 : o52 ≠ o55_0 := Nat.ne_of_lt (Nat.lt_of_lt_of_le f54.lt lq_o55_0)
      have ne_o53_0_o55_0 : o53_0 ≠ o55_0 := Nat.ne_of_lt (Nat.lt_of_lt_of_le u53_0.lt lq_o55_0)
      have ge_o55_0 : Z.heap.size ≤ o55_0 := Nat.le_trans (old_le O53) lq_o55_0
      obtain ⟨h55, e55⟩ : ∃ z, T55.heap = z := ⟨_, rfl⟩
      rw [e55] at Kq55 u55_0 u55_1 u55_2 u55_3 u55_4 u55_5 u55_6
      have N55 := Fr.app N53 Nq55
      have O55 := (O53).keep Kq55 (allS ge_o52 (allS ge_o53_0 all0))
      show Go p e below _ (T55.setTop (mkF m 25 #[.val (.int i0), .val (.long i1), .second, .val (.long i2), .second, .val (.long i3), .second, .val (.int S), .val (.ref o52), .unset] []))
      refine s_aload B X55 (pc' := 27) at_25 rfl rfl rfl ?_
      refine s_iconst B X55 (pc' := 28) (v := (0 : Int32)) at_27 rfl rfl ?_
      have f56 := (f54.keep Kq55)
      refine p_virtual B X55 (y := mn3) (pc' := 31) (argsL := [(.int (0 : Int32))]) (under := []) (W := 0) e55 (tw32 hw) (tw33 hw) (tw35 hw) (tw34 hw) (tw36 hw) (tw2 hw) (by decide) (mm5_24 l Z a0 hw o52 o53_0 o55_0 (pairsOf S) S kq_o53_0 kq_o55_0 i1  h55 F0 O55 ge_o52 f56 u55_2 u55_3 u55_4 u55_5 ge_o53_0 u55_6 ovu53_0 ge_o55_0 u55_0 u55_1 ne_o52_o53_0 ne_o52_o55_0 ne_o53_0_o55_0 hP3 hP) f56 (lenOf pd_3 rfl) rfl rfl (by decide) (by decide) rfl rfl (by decide) (by decide) rfl at_28 rfl (fun T57 X57 e57 => ?_)
      show Go p e below _ (T57.setTop (mkF m 31 #[.val (.int i0), .val (.long i1), .second, .val (.long i2), .second, .val (.long i3), .second, .val (.int S), .val (.ref o52), .unset] [(.long i1)]))
      refine s_lloadN B X57 (pc' := 32) at_31 rfl rfl ?_
      refine b_lcmp_ne B X57 (py := 40) (pn := 36) at_32 rfl at_33 (by decide) (by decide) rfl (fun q => absurd rfl q) (fun _ => ?_)
      refine s_iconst B X57 (pc' := 37) (v := (1 : Int32)) at_36 rfl rfl ?_
      refine s_goto B X57 (pc' := 41) at_37 (by decide) (by decide) ?_
      refine s_istore B X57 (pc' := 43) (Ls' := #[.val (.int i0), .val (.long i1), .second, .val (.long i2), .second, .val (.long i3), .second, .val (.int S), .val (.ref o52), .val (.int (1 : Int32))]) at_41 rfl rfl ?_
      refine s_aload B X57 (pc' := 45) at_43 rfl rfl rfl ?_
      refine s_lloadN B X57 (pc' := 46) at_45 rfl rfl ?_
      refine c_virtual B X57 (y := mn2) (pc' := 49) (argsL := [(.long i2)]) (under := []) (W := 0) e57 (tw19 hw) (tw20 hw) (tw22 hw) (tw21 hw) (tw23 hw) (tw2 hw) (by decide) (mm3_25 l Z a0 hw o52 i2 o53_0 o55_0 (pairsOf S) S kq_o53_0 kq_o55_0 i1  h55 F0 O55 ge_o52 f56 u55_2 u55_3 u55_4 u55_5 ge_o53_0 u55_6 ovu53_0 ge_o55_0 u55_0 u55_1 ne_o52_o53_0 ne_o52_o55_0 ne_o53_0_o55_0 hP3 hP) f56 (lenOf pd_2 rfl) rfl rfl (by decide) (by decide) (by decide) (by decide) rfl at_46 rfl (fun v58 T58 L58 X58 hQ58 => ?_)
      obtain ⟨rfl, Nq58, Kq58, u58_0, u58_1, u58_2, u58_3, u58_4⟩ := hQ58
      obtain ⟨h58, e58⟩ : ∃ z, T58.heap = z := ⟨_, rfl⟩
      rw [e58] at Kq58 u58_0 u58_1 u58_2 u58_3 u58_4
      have N58 := Fr.app N55 Nq58
      have O58 := (O55).keep Kq58 (allS ge_o52 (allS ge_o55_0 all0))
      show Go p e below _ (T58.setTop (mkF m 49 #[.val (.int i0), .val (.long i1), .second, .val (.long i2), .second, .val (.long i3), .second, .val (.int S), .val (.ref o52), .val (.int (1 : Int32))] []))
      refine s_aload B X58 (pc' := 51) at_49 rfl rfl rfl ?_
      refine s_lload B X58 (pc' := 53) at_51 rfl rfl ?_
      have f59 := (f56.keep Kq58)
      have f60 := (u55_6.keep Kq58 (ninS (Ne.symm ne_o52_o53_0) (ninS ne_o53_0_o55_0 nin0)))
      have f61 := (u55_0.keep Kq58)
      refine c_virtual B X58 (y := mn2) (pc' := 56) (argsL := [(.long i3)]) (under := []) (W := 0) e58 (tw19 hw) (tw20 hw) (tw22 hw) (tw21 hw) (tw23 hw) (tw2 hw) (by decide) (mm3_26 l Z a0 hw o52 i3 o53_0 o55_0 (pairsOf S) S kq_o53_0 kq_o55_0 i1 i2  h58 F0 O58 ge_o52 f59 u58_0 u58_1 u58_2 u58_3 ge_o53_0 f60 ovu53_0 ge_o55_0 f61 u58_4 ne_o52_o53_0 ne_o52_o55_0 ne_o53_0_o55_0 hP3 hP) f59 (lenOf pd_2 rfl) rfl rfl (by decide) (by decide) (by decide) (by decide) rfl at_53 rfl (fun v62 T62 L62 X62 hQ62 => ?_)
      obtain ⟨rfl, Nq62, Kq62, u62_0, u62_1, u62_2, u62_3, u62_4⟩ := hQ62
      obtain ⟨h62, e62⟩ : ∃ z, T62.heap = z := ⟨_, rfl⟩
      rw [e62] at Kq62 u62_0 u62_1 u62_2 u62_3 u62_4
      have N62 := Fr.app N58 Nq62
      have O62 := (O58).keep Kq62 (allS ge_o52 (allS ge_o55_0 all0))
      show Go p e below _ (T62.setTop (mkF m 56 #[.val (.int i0), .val (.long i1), .second, .val (.long i2), .second, .val (.long i3), .second, .val (.int S), .val (.ref o52), .val (.int (1 : Int32))] []))
      refine s_iload B X62 (pc' := 58) at_56 rfl rfl ?_
      refine s_ifN B X62 (pc' := 61) at_58 (by decide) rfl ?_
      refine s_aload B X62 (pc' := 63) at_61 rfl rfl rfl ?_
      refine s_iconst B X62 (pc' := 64) (v := (0 : Int32)) at_63 rfl rfl ?_
      have f63 := (f59.keep Kq62)
      have f64 := (f60.keep Kq62 (ninS (Ne.symm ne_o52_o53_0) (ninS ne_o53_0_o55_0 nin0)))
      have f65 := (f61.keep Kq62)
      refine p_virtual B X62 (y := mn3) (pc' := 67) (argsL := [(.int (0 : Int32))]) (under := []) (W := 0) e62 (tw32 hw) (tw33 hw) (tw35 hw) (tw34 hw) (tw36 hw) (tw2 hw) (by decide) (mm5_27 l Z a0 hw o52 o53_0 o55_0 (pairsOf S) S kq_o53_0 kq_o55_0 i1 i2 i3  h62 F0 O62 ge_o52 f63 u62_0 u62_1 u62_2 u62_3 ge_o53_0 f64 ovu53_0 ge_o55_0 f65 u62_4 ne_o52_o53_0 ne_o52_o55_0 ne_o53_0_o55_0 hP3 hP) f63 (lenOf pd_3 rfl) rfl rfl (by decide) (by decide) rfl rfl (by decide) (by decide) rfl at_64 rfl (fun T66 X66 e66 => ?_)
      show Go p e below _ (T66.setTop (mkF m 67 #[.val (.int i0), .val (.long i1), .second, .val (.long i2), .second, .val (.long i3), .second, .val (.int S), .val (.ref o52), .val (.int (1 : Int32))] [(.long i1)]))
      refine s_lloadN B X66 (pc' := 68) at_67 rfl rfl ?_
      refine b_lcmp_ne B X66 (py := 99) (pn := 72) at_68 rfl at_69 (by decide) (by decide) rfl (fun q => absurd rfl q) (fun _ => ?_)
      refine s_aload B X66 (pc' := 74) at_72 rfl rfl rfl ?_
      refine s_iconst B X66 (pc' := 75) (v := (1 : Int32)) at_74 rfl rfl ?_
      refine p_virtual B X66 (y := mn3) (pc' := 78) (argsL := [(.int (1 : Int32))]) (under := []) (W := 0) e66 (tw32 hw) (tw33 hw) (tw35 hw) (tw34 hw) (tw36 hw) (tw2 hw) (by decide) (mm5_28 l Z a0 hw o52 o53_0 o55_0 (pairsOf S) S kq_o53_0 kq_o55_0 i1 i2 i3  h62 F0 O62 ge_o52 f63 u62_0 u62_1 u62_2 u62_3 ge_o53_0 f64 ovu53_0 ge_o55_0 f65 u62_4 ne_o52_o53_0 ne_o52_o55_0 ne_o53_0_o55_0 hP3 hP) f63 (lenOf pd_3 rfl) rfl rfl (by decide) (by decide) rfl rfl (by decide) (by decide) rfl at_75 rfl (fun T67 X67 e67 => ?_)
      show Go p e below _ (T67.setTop (mkF m 78 #[.val (.int i0), .val (.long i1), .second, .val (.long i2), .second, .val (.long i3), .second, .val (.int S), .val (.ref o52), .val (.int (1 : Int32))] [(.long i2)]))
      refine s_lloadN B X67 (pc' := 79) at_78 rfl rfl ?_
      refine b_lcmp_ne B X67 (py := 99) (pn := 83) at_79 rfl at_80 (by decide) (by decide) rfl (fun q => absurd rfl q) (fun _ => ?_)
      refine s_aload B X67 (pc' := 85) at_83 rfl rfl rfl ?_
      refine s_iconst B X67 (pc' := 86) (v := (2 : Int32)) at_85 rfl rfl ?_
      refine p_virtual B X67 (y := mn3) (pc' := 89) (argsL := [(.int (2 : Int32))]) (under := []) (W := 0) e67 (tw32 hw) (tw33 hw) (tw35 hw) (tw34 hw) (tw36 hw) (tw2 hw) (by decide) (mm5_29 l Z a0 hw o52 o53_0 o55_0 (pairsOf S) S kq_o53_0 kq_o55_0 i1 i2 i3  h62 F0 O62 ge_o52 f63 u62_0 u62_1 u62_2 u62_3 ge_o53_0 f64 ovu53_0 ge_o55_0 f65 u62_4 ne_o52_o53_0 ne_o52_o55_0 ne_o53_0_o55_0 hP3 hP) f63 (lenOf pd_3 rfl) rfl rfl (by decide) (by decide) rfl rfl (by decide) (by decide) rfl at_86 rfl (fun T68 X68 e68 => ?_)
      show Go p e below _ (T68.setTop (mkF m 89 #[.val (.int i0), .val (.long i1), .second, .val (.long i2), .second, .val (.long i3), .second, .val (.int S), .val (.ref o52), .val (.int (1 : Int32))] [(.long i3)]))
      refine s_lload B X68 (pc' := 91) at_89 rfl rfl ?_
      refine b_lcmp_ne B X68 (py := 99) (pn := 95) at_91 rfl at_92 (by decide) (by decide) rfl (fun q => absurd rfl q) (fun _ => ?_)
      refine s_iconst B X68 (pc' := 96) (v := (1 : Int32)) at_95 rfl rfl ?_
      refine s_goto B X68 (pc' := 100) at_96 (by decide) (by decide) ?_
      exact r_nar B X68 (t := .boolean) (by simp) rfl at_100 ⟨rfl, N62⟩ (by decide) (by decide)
  · by_cases hP : pairsOf S < 4096
    · have hN3 := (own_len hP3 hP).2.2
      refine s_iconst B X0 (pc' := 1) (v := (3 : Int32)) at_0 rfl rfl ?_
      refine s_iloadN B X0 (pc' := 2) at_1 rfl rfl ?_
      refine s_bipush B X0 (pc' := 4) (v := (127 : Int32)) at_2 rfl rfl ?_
      refine s_iand B X0 (pc' := 5) (v := (i0 &&& (127 : Int32))) at_4 rfl rfl ?_
      refine s_iadd B X0 (pc' := 6) (v := S) at_5 (hS) rfl ?_
      refine s_istore B X0 (pc' := 8) (Ls' := #[.val (.int i0), .val (.long i1), .second, .val (.long i2), .second, .val (.long i3), .second, .val (.int S), .unset, .unset]) at_6 rfl rfl ?_
      refine s_new B X0 (pc' := 11) (n0 := 4) e0 (tw0 hw) (tw1 hw) (tw2 hw) (by decide) (by decide) at_8 rfl (fun T69 h69 o69 g69 X69 e69 E69 A69 D69 => ?_)
      have ge_o69 : Z.heap.size ≤ o69 := g69 ▸ old_le (Old.start Z)
      have O69 := ((Old.start Z)).ext E69
      have D69_size : Fld Z h69 o69 "com/example/stroll/stroll/ExplicitMetric$Weights" "size" "I" (.int (0 : Int32)) := D69 (Or.inr (tw10 hw)) (ty := .int) (by decide)
      have D69_pairs : Fld Z h69 o69 "com/example/stroll/stroll/ExplicitMetric$Weights" "pairs" "J" (.long (0 : Int64)) := D69 (Or.inr (tw13 hw)) (ty := .long) (by decide)
      have D69_blocks : Fld Z h69 o69 "com/example/stroll/stroll/ExplicitMetric$Weights" "blocks" "[[J" .null := D69 (Or.inr (tw18 hw)) (ty := (.array (.array .long))) (by decide)
      have D69_given : Fld Z h69 o69 "com/example/stroll/stroll/ExplicitMetric$Weights" "given" "I" (.int (0 : Int32)) := D69 (Or.inl (tw25 hw)) (ty := .int) (by decide)
      show Go p e below _ (T69.setTop (mkF m 11 #[.val (.int i0), .val (.long i1), .second, .val (.long i2), .second, .val (.long i3), .second, .val (.int S), .unset, .unset] [(.ref o69)]))
      refine s_dup B X69 (pc' := 12) at_11 rfl rfl ?_
      refine s_iload B X69 (pc' := 14) at_12 rfl rfl ?_
      refine c_init B X69 (y := mn0) (pc' := 17) (argsL := [(.int S)]) (under := [(.ref o69)]) (W := 1) e69 rfl (tw3 hw) (tw4 hw) (tw5 hw) (tw2 hw) (by decide) (mm1_30 l Z a0 hw o69 S  h69 F0 O69 ge_o69 A69 D69_blocks D69_given D69_pairs D69_size hnb) (lenOf pd_0 rfl) rfl rfl (by decide) (by decide) (by decide) (by decide) rfl at_14 rfl (fun v70 T70 L70 X70 hQ70 => ?_)
      obtain ⟨o70_0, kq_o70_0, rfl, Nq70, Kq70, lq_o70_0, u70_0, ovu70_0, u70_1, u70_2, u70_3, u70_4⟩ := hQ70
      have ne_o69_o70_0 : o69 ≠ o70_0 := Nat.ne_of_lt (Nat.lt_of_lt_of_le A69.lt lq_o70_0)
      have ge_o70_0 : Z.heap.size ≤ o70_0 := Nat.le_trans (old_le O69) lq_o70_0
      obtain ⟨h70, e70⟩ : ∃ z, T70.heap = z := ⟨_, rfl⟩
      rw [e70] at Kq70 u70_0 u70_1 u70_2 u70_3 u70_4
      have N70 := Fr.app (Fr.nil _) Nq70
      have O70 := (O69).keep Kq70 (allS ge_o69 all0)
      show Go p e below _ (T70.setTop (mkF m 17 #[.val (.int i0), .val (.long i1), .second, .val (.long i2), .second, .val (.long i3), .second, .val (.int S), .unset, .unset] [(.ref o69)]))
      refine s_astore B X70 (pc' := 19) (Ls' := #[.val (.int i0), .val (.long i1), .second, .val (.long i2), .second, .val (.long i3), .second, .val (.int S), .val (.ref o69), .unset]) at_17 rfl rfl rfl ?_
      refine s_aload B X70 (pc' := 21) at_19 rfl rfl rfl ?_
      refine s_lloadN B X70 (pc' := 22) at_21 rfl rfl ?_
      have f71 := (A69.keep Kq70)
      refine c_virtual B X70 (y := mn2) (pc' := 25) (argsL := [(.long i1)]) (under := []) (W := 0) e70 (tw19 hw) (tw20 hw) (tw22 hw) (tw21 hw) (tw23 hw) (tw2 hw) (by decide) (mm3_31 l Z a0 hw o69 i1 o70_0 (pairsOf S) S kq_o70_0  h70 F0 O70 ge_o69 f71 u70_1 u70_2 u70_3 u70_4 ge_o70_0 u70_0 ovu70_0 ne_o69_o70_0 hP3 hP) f71 (lenOf pd_2 rfl) rfl rfl (by decide) (by decide) (by decide) (by decide) rfl at_22 rfl (fun v72 T72 L72 X72 hQ72 => ?_)
      obtain ⟨o72_0, kq_o72_0, rfl, Nq72, Kq72, lq_o72_0, u72_0, u72_1, u72_2, u72_3, u72_4, u72_5, u72_6⟩ := hQ72
      have ne_o69_o72_0 : o69 ≠ o72_0 := Nat.ne_of_lt (Nat.lt_of_lt_of_le f71.lt lq_o72_0)
      have ne_o70_0_o72_0 : o70_0 ≠ o72_0 := Nat.ne_of_lt (Nat.lt_of_lt_of_le u70_0.lt lq_o72_0)
      have ge_o72_0 : Z.heap.size ≤ o72_0 := Nat.le_trans (old_le O70) lq_o72_0
      obtain ⟨h72, e72⟩ : ∃ z, T72.heap = z := ⟨_, rfl⟩
      rw [e72] at Kq72 u72_0 u72_1 u72_2 u72_3 u72_4 u72_5 u72_6
      have N72 := Fr.app N70 Nq72
      have O72 := (O70).keep Kq72 (allS ge_o69 (allS ge_o70_0 all0))
      show Go p e below _ (T72.setTop (mkF m 25 #[.val (.int i0), .val (.long i1), .second, .val (.long i2), .second, .val (.long i3), .second, .val (.int S), .val (.ref o69), .unset] []))
      refine s_aload B X72 (pc' := 27) at_25 rfl rfl rfl ?_
      refine s_iconst B X72 (pc' := 28) (v := (0 : Int32)) at_27 rfl rfl ?_
      have f73 := (f71.keep Kq72)
      refine p_virtual B X72 (y := mn3) (pc' := 31) (argsL := [(.int (0 : Int32))]) (under := []) (W := 0) e72 (tw32 hw) (tw33 hw) (tw35 hw) (tw34 hw) (tw36 hw) (tw2 hw) (by decide) (mm5_32 l Z a0 hw o69 o70_0 o72_0 (pairsOf S) S kq_o70_0 kq_o72_0 i1 (own_n (pairsOf S))  h72 F0 O72 ge_o69 f73 u72_2 u72_3 u72_4 u72_5 ge_o70_0 u72_6 ovu70_0 ge_o72_0 u72_0 u72_1 ne_o69_o70_0 ne_o69_o72_0 ne_o70_0_o72_0 hP3 hN3 hP) f73 (lenOf pd_3 rfl) rfl rfl (by decide) (by decide) rfl rfl (by decide) (by decide) rfl at_28 rfl (fun T74 X74 e74 => ?_)
      show Go p e below _ (T74.setTop (mkF m 31 #[.val (.int i0), .val (.long i1), .second, .val (.long i2), .second, .val (.long i3), .second, .val (.int S), .val (.ref o69), .unset] [(.long i1)]))
      refine s_lloadN B X74 (pc' := 32) at_31 rfl rfl ?_
      refine b_lcmp_ne B X74 (py := 40) (pn := 36) at_32 rfl at_33 (by decide) (by decide) rfl (fun q => absurd rfl q) (fun _ => ?_)
      refine s_iconst B X74 (pc' := 37) (v := (1 : Int32)) at_36 rfl rfl ?_
      refine s_goto B X74 (pc' := 41) at_37 (by decide) (by decide) ?_
      refine s_istore B X74 (pc' := 43) (Ls' := #[.val (.int i0), .val (.long i1), .second, .val (.long i2), .second, .val (.long i3), .second, .val (.int S), .val (.ref o69), .val (.int (1 : Int32))]) at_41 rfl rfl ?_
      refine s_aload B X74 (pc' := 45) at_43 rfl rfl rfl ?_
      refine s_lloadN B X74 (pc' := 46) at_45 rfl rfl ?_
      refine c_virtual B X74 (y := mn2) (pc' := 49) (argsL := [(.long i2)]) (under := []) (W := 0) e74 (tw19 hw) (tw20 hw) (tw22 hw) (tw21 hw) (tw23 hw) (tw2 hw) (by decide) (mm3_33 l Z a0 hw o69 i2 o70_0 o72_0 (pairsOf S) S kq_o70_0 kq_o72_0 i1 (own_n (pairsOf S))  h72 F0 O72 ge_o69 f73 u72_2 u72_3 u72_4 u72_5 ge_o70_0 u72_6 ovu70_0 ge_o72_0 u72_0 u72_1 ne_o69_o70_0 ne_o69_o72_0 ne_o70_0_o72_0 hP3 hN3 hP) f73 (lenOf pd_2 rfl) rfl rfl (by decide) (by decide) (by decide) (by decide) rfl at_46 rfl (fun v75 T75 L75 X75 hQ75 => ?_)
      obtain ⟨rfl, Nq75, Kq75, u75_0, u75_1, u75_2, u75_3, u75_4⟩ := hQ75
      obtain ⟨h75, e75⟩ : ∃ z, T75.heap = z := ⟨_, rfl⟩
      rw [e75] at Kq75 u75_0 u75_1 u75_2 u75_3 u75_4
      have N75 := Fr.app N72 Nq75
      have O75 := (O72).keep Kq75 (allS ge_o69 (allS ge_o72_0 all0))
      show Go p e below _ (T75.setTop (mkF m 49 #[.val (.int i0), .val (.long i1), .second, .val (.long i2), .second, .val (.long i3), .second, .val (.int S), .val (.ref o69), .val (.int (1 : Int32))] []))
      refine s_aload B X75 (pc' := 51) at_49 rfl rfl rfl ?_
      refine s_lload B X75 (pc' := 53) at_51 rfl rfl ?_
      have f76 := (f73.keep Kq75)
      have f77 := (u72_6.keep Kq75 (ninS (Ne.symm ne_o69_o70_0) (ninS ne_o70_0_o72_0 nin0)))
      have f78 := (u72_0.keep Kq75)
      refine c_virtual B X75 (y := mn2) (pc' := 56) (argsL := [(.long i3)]) (under := []) (W := 0) e75 (tw19 hw) (tw20 hw) (tw22 hw) (tw21 hw) (tw23 hw) (tw2 hw) (by decide) (mm3_34 l Z a0 hw o69 i3 o70_0 o72_0 (pairsOf S) S kq_o70_0 kq_o72_0 i1 i2 (own_n (pairsOf S))  h75 F0 O75 ge_o69 f76 u75_0 u75_1 u75_2 u75_3 ge_o70_0 f77 ovu70_0 ge_o72_0 f78 u75_4 ne_o69_o70_0 ne_o69_o72_0 ne_o70_0_o72_0 hP3 hN3 hP) f76 (lenOf pd_2 rfl) rfl rfl (by decide) (by decide) (by decide) (by decide) rfl at_53 rfl (fun v79 T79 L79 X79 hQ79 => ?_)
      obtain ⟨rfl, Nq79, Kq79, u79_0, u79_1, u79_2, u79_3, u79_4⟩ := hQ79
      obtain ⟨h79, e79⟩ : ∃ z, T79.heap = z := ⟨_, rfl⟩
      rw [e79] at Kq79 u79_0 u79_1 u79_2 u79_3 u79_4
      have N79 := Fr.app N75 Nq79
      have O79 := (O75).keep Kq79 (allS ge_o69 (allS ge_o72_0 all0))
      show Go p e below _ (T79.setTop (mkF m 56 #[.val (.int i0), .val (.long i1), .second, .val (.long i2), .second, .val (.long i3), .second, .val (.int S), .val (.ref o69), .val (.int (1 : Int32))] []))
      refine s_iload B X79 (pc' := 58) at_56 rfl rfl ?_
      refine s_ifN B X79 (pc' := 61) at_58 (by decide) rfl ?_
      refine s_aload B X79 (pc' := 63) at_61 rfl rfl rfl ?_
      refine s_iconst B X79 (pc' := 64) (v := (0 : Int32)) at_63 rfl rfl ?_
      have f80 := (f76.keep Kq79)
      have f81 := (f77.keep Kq79 (ninS (Ne.symm ne_o69_o70_0) (ninS ne_o70_0_o72_0 nin0)))
      have f82 := (f78.keep Kq79)
      refine p_virtual B X79 (y := mn3) (pc' := 67) (argsL := [(.int (0 : Int32))]) (under := []) (W := 0) e79 (tw32 hw) (tw33 hw) (tw35 hw) (tw34 hw) (tw36 hw) (tw2 hw) (by decide) (mm5_35 l Z a0 hw o69 o70_0 o72_0 (pairsOf S) S kq_o70_0 kq_o72_0 i1 i2 i3 (own_n (pairsOf S))  h79 F0 O79 ge_o69 f80 u79_0 u79_1 u79_2 u79_3 ge_o70_0 f81 ovu70_0 ge_o72_0 f82 u79_4 ne_o69_o70_0 ne_o69_o72_0 ne_o70_0_o72_0 hP3 hN3 hP) f80 (lenOf pd_3 rfl) rfl rfl (by decide) (by decide) rfl rfl (by decide) (by decide) rfl at_64 rfl (fun T83 X83 e83 => ?_)
      show Go p e below _ (T83.setTop (mkF m 67 #[.val (.int i0), .val (.long i1), .second, .val (.long i2), .second, .val (.long i3), .second, .val (.int S), .val (.ref o69), .val (.int (1 : Int32))] [(.long i1)]))
      refine s_lloadN B X83 (pc' := 68) at_67 rfl rfl ?_
      refine b_lcmp_ne B X83 (py := 99) (pn := 72) at_68 rfl at_69 (by decide) (by decide) rfl (fun q => absurd rfl q) (fun _ => ?_)
      refine s_aload B X83 (pc' := 74) at_72 rfl rfl rfl ?_
      refine s_iconst B X83 (pc' := 75) (v := (1 : Int32)) at_74 rfl rfl ?_
      refine p_virtual B X83 (y := mn3) (pc' := 78) (argsL := [(.int (1 : Int32))]) (under := []) (W := 0) e83 (tw32 hw) (tw33 hw) (tw35 hw) (tw34 hw) (tw36 hw) (tw2 hw) (by decide) (mm5_36 l Z a0 hw o69 o70_0 o72_0 (pairsOf S) S kq_o70_0 kq_o72_0 i1 i2 i3 (own_n (pairsOf S))  h79 F0 O79 ge_o69 f80 u79_0 u79_1 u79_2 u79_3 ge_o70_0 f81 ovu70_0 ge_o72_0 f82 u79_4 ne_o69_o70_0 ne_o69_o72_0 ne_o70_0_o72_0 hP3 hN3 hP) f80 (lenOf pd_3 rfl) rfl rfl (by decide) (by decide) rfl rfl (by decide) (by decide) rfl at_75 rfl (fun T84 X84 e84 => ?_)
      show Go p e below _ (T84.setTop (mkF m 78 #[.val (.int i0), .val (.long i1), .second, .val (.long i2), .second, .val (.long i3), .second, .val (.int S), .val (.ref o69), .val (.int (1 : Int32))] [(.long i2)]))
      refine s_lloadN B X84 (pc' := 79) at_78 rfl rfl ?_
      refine b_lcmp_ne B X84 (py := 99) (pn := 83) at_79 rfl at_80 (by decide) (by decide) rfl (fun q => absurd rfl q) (fun _ => ?_)
      refine s_aload B X84 (pc' := 85) at_83 rfl rfl rfl ?_
      refine s_iconst B X84 (pc' := 86) (v := (2 : Int32)) at_85 rfl rfl ?_
      refine p_virtual B X84 (y := mn3) (pc' := 89) (argsL := [(.int (2 : Int32))]) (under := []) (W := 0) e84 (tw32 hw) (tw33 hw) (tw35 hw) (tw34 hw) (tw36 hw) (tw2 hw) (by decide) (mm5_37 l Z a0 hw o69 o70_0 o72_0 (pairsOf S) S kq_o70_0 kq_o72_0 i1 i2 i3 (own_n (pairsOf S))  h79 F0 O79 ge_o69 f80 u79_0 u79_1 u79_2 u79_3 ge_o70_0 f81 ovu70_0 ge_o72_0 f82 u79_4 ne_o69_o70_0 ne_o69_o72_0 ne_o70_0_o72_0 hP3 hN3 hP) f80 (lenOf pd_3 rfl) rfl rfl (by decide) (by decide) rfl rfl (by decide) (by decide) rfl at_86 rfl (fun T85 X85 e85 => ?_)
      show Go p e below _ (T85.setTop (mkF m 89 #[.val (.int i0), .val (.long i1), .second, .val (.long i2), .second, .val (.long i3), .second, .val (.int S), .val (.ref o69), .val (.int (1 : Int32))] [(.long i3)]))
      refine s_lload B X85 (pc' := 91) at_89 rfl rfl ?_
      refine b_lcmp_ne B X85 (py := 99) (pn := 95) at_91 rfl at_92 (by decide) (by decide) rfl (fun q => absurd rfl q) (fun _ => ?_)
      refine s_iconst B X85 (pc' := 96) (v := (1 : Int32)) at_95 rfl rfl ?_
      refine s_goto B X85 (pc' := 100) at_96 (by decide) (by decide) ?_
      exact r_nar B X85 (t := .boolean) (by simp) rfl at_100 ⟨rfl, N79⟩ (by decide) (by decide)
    · refine s_iconst B X0 (pc' := 1) (v := (3 : Int32)) at_0 rfl rfl ?_
      refine s_iloadN B X0 (pc' := 2) at_1 rfl rfl ?_
      refine s_bipush B X0 (pc' := 4) (v := (127 : Int32)) at_2 rfl rfl ?_
      refine s_iand B X0 (pc' := 5) (v := (i0 &&& (127 : Int32))) at_4 rfl rfl ?_
      refine s_iadd B X0 (pc' := 6) (v := S) at_5 (hS) rfl ?_
      refine s_istore B X0 (pc' := 8) (Ls' := #[.val (.int i0), .val (.long i1), .second, .val (.long i2), .second, .val (.long i3), .second, .val (.int S), .unset, .unset]) at_6 rfl rfl ?_
      refine s_new B X0 (pc' := 11) (n0 := 4) e0 (tw0 hw) (tw1 hw) (tw2 hw) (by decide) (by decide) at_8 rfl (fun T86 h86 o86 g86 X86 e86 E86 A86 D86 => ?_)
      have ge_o86 : Z.heap.size ≤ o86 := g86 ▸ old_le (Old.start Z)
      have O86 := ((Old.start Z)).ext E86
      have D86_size : Fld Z h86 o86 "com/example/stroll/stroll/ExplicitMetric$Weights" "size" "I" (.int (0 : Int32)) := D86 (Or.inr (tw10 hw)) (ty := .int) (by decide)
      have D86_pairs : Fld Z h86 o86 "com/example/stroll/stroll/ExplicitMetric$Weights" "pairs" "J" (.long (0 : Int64)) := D86 (Or.inr (tw13 hw)) (ty := .long) (by decide)
      have D86_blocks : Fld Z h86 o86 "com/example/stroll/stroll/ExplicitMetric$Weights" "blocks" "[[J" .null := D86 (Or.inr (tw18 hw)) (ty := (.array (.array .long))) (by decide)
      have D86_given : Fld Z h86 o86 "com/example/stroll/stroll/ExplicitMetric$Weights" "given" "I" (.int (0 : Int32)) := D86 (Or.inl (tw25 hw)) (ty := .int) (by decide)
      show Go p e below _ (T86.setTop (mkF m 11 #[.val (.int i0), .val (.long i1), .second, .val (.long i2), .second, .val (.long i3), .second, .val (.int S), .unset, .unset] [(.ref o86)]))
      refine s_dup B X86 (pc' := 12) at_11 rfl rfl ?_
      refine s_iload B X86 (pc' := 14) at_12 rfl rfl ?_
      refine c_init B X86 (y := mn0) (pc' := 17) (argsL := [(.int S)]) (under := [(.ref o86)]) (W := 1) e86 rfl (tw3 hw) (tw4 hw) (tw5 hw) (tw2 hw) (by decide) (mm1_30 l Z a0 hw o86 S  h86 F0 O86 ge_o86 A86 D86_blocks D86_given D86_pairs D86_size hnb) (lenOf pd_0 rfl) rfl rfl (by decide) (by decide) (by decide) (by decide) rfl at_14 rfl (fun v87 T87 L87 X87 hQ87 => ?_)
      obtain ⟨o87_0, kq_o87_0, rfl, Nq87, Kq87, lq_o87_0, u87_0, ovu87_0, u87_1, u87_2, u87_3, u87_4⟩ := hQ87
      have ne_o86_o87_0 : o86 ≠ o87_0 := Nat.ne_of_lt (Nat.lt_of_lt_of_le A86.lt lq_o87_0)
      have ge_o87_0 : Z.heap.size ≤ o87_0 := Nat.le_trans (old_le O86) lq_o87_0
      obtain ⟨h87, e87⟩ : ∃ z, T87.heap = z := ⟨_, rfl⟩
      rw [e87] at Kq87 u87_0 u87_1 u87_2 u87_3 u87_4
      have N87 := Fr.app (Fr.nil _) Nq87
      have O87 := (O86).keep Kq87 (allS ge_o86 all0)
      show Go p e below _ (T87.setTop (mkF m 17 #[.val (.int i0), .val (.long i1), .second, .val (.long i2), .second, .val (.long i3), .second, .val (.int S), .unset, .unset] [(.ref o86)]))
      refine s_astore B X87 (pc' := 19) (Ls' := #[.val (.int i0), .val (.long i1), .second, .val (.long i2), .second, .val (.long i3), .second, .val (.int S), .val (.ref o86), .unset]) at_17 rfl rfl rfl ?_
      refine s_aload B X87 (pc' := 21) at_19 rfl rfl rfl ?_
      refine s_lloadN B X87 (pc' := 22) at_21 rfl rfl ?_
      have f88 := (A86.keep Kq87)
      refine c_virtual B X87 (y := mn2) (pc' := 25) (argsL := [(.long i1)]) (under := []) (W := 0) e87 (tw19 hw) (tw20 hw) (tw22 hw) (tw21 hw) (tw23 hw) (tw2 hw) (by decide) (mm3_38 l Z a0 hw o86 i1 o87_0 (pairsOf S) S kq_o87_0  h87 F0 O87 ge_o86 f88 u87_1 u87_2 u87_3 u87_4 ge_o87_0 u87_0 ovu87_0 ne_o86_o87_0 hP3 hP) f88 (lenOf pd_2 rfl) rfl rfl (by decide) (by decide) (by decide) (by decide) rfl at_22 rfl (fun v89 T89 L89 X89 hQ89 => ?_)
      obtain ⟨o89_0, kq_o89_0, rfl, Nq89, Kq89, lq_o89_0, u89_0, u89_1, u89_2, u89_3, u89_4, u89_5, u89_6⟩ := hQ89
      have ne_o86_o89_0 : o86 ≠ o89_0 := Nat.ne_of_lt (Nat.lt_of_lt_of_le f88.lt lq_o89_0)
      have ne_o87_0_o89_0 : o87_0 ≠ o89_0 := Nat.ne_of_lt (Nat.lt_of_lt_of_le u87_0.lt lq_o89_0)
      have ge_o89_0 : Z.heap.size ≤ o89_0 := Nat.le_trans (old_le O87) lq_o89_0
      obtain ⟨h89, e89⟩ : ∃ z, T89.heap = z := ⟨_, rfl⟩
      rw [e89] at Kq89 u89_0 u89_1 u89_2 u89_3 u89_4 u89_5 u89_6
      have N89 := Fr.app N87 Nq89
      have O89 := (O87).keep Kq89 (allS ge_o86 (allS ge_o87_0 all0))
      show Go p e below _ (T89.setTop (mkF m 25 #[.val (.int i0), .val (.long i1), .second, .val (.long i2), .second, .val (.long i3), .second, .val (.int S), .val (.ref o86), .unset] []))
      refine s_aload B X89 (pc' := 27) at_25 rfl rfl rfl ?_
      refine s_iconst B X89 (pc' := 28) (v := (0 : Int32)) at_27 rfl rfl ?_
      have f90 := (f88.keep Kq89)
      refine p_virtual B X89 (y := mn3) (pc' := 31) (argsL := [(.int (0 : Int32))]) (under := []) (W := 0) e89 (tw32 hw) (tw33 hw) (tw35 hw) (tw34 hw) (tw36 hw) (tw2 hw) (by decide) (mm5_39 l Z a0 hw o86 o87_0 o89_0 (pairsOf S) S kq_o87_0 kq_o89_0 i1  h89 F0 O89 ge_o86 f90 u89_2 u89_3 u89_4 u89_5 ge_o87_0 u89_6 ovu87_0 ge_o89_0 u89_0 u89_1 ne_o86_o87_0 ne_o86_o89_0 ne_o87_0_o89_0 hP3 hP) f90 (lenOf pd_3 rfl) rfl rfl (by decide) (by decide) rfl rfl (by decide) (by decide) rfl at_28 rfl (fun T91 X91 e91 => ?_)
      show Go p e below _ (T91.setTop (mkF m 31 #[.val (.int i0), .val (.long i1), .second, .val (.long i2), .second, .val (.long i3), .second, .val (.int S), .val (.ref o86), .unset] [(.long i1)]))
      refine s_lloadN B X91 (pc' := 32) at_31 rfl rfl ?_
      refine b_lcmp_ne B X91 (py := 40) (pn := 36) at_32 rfl at_33 (by decide) (by decide) rfl (fun q => absurd rfl q) (fun _ => ?_)
      refine s_iconst B X91 (pc' := 37) (v := (1 : Int32)) at_36 rfl rfl ?_
      refine s_goto B X91 (pc' := 41) at_37 (by decide) (by decide) ?_
      refine s_istore B X91 (pc' := 43) (Ls' := #[.val (.int i0), .val (.long i1), .second, .val (.long i2), .second, .val (.long i3), .second, .val (.int S), .val (.ref o86), .val (.int (1 : Int32))]) at_41 rfl rfl ?_
      refine s_aload B X91 (pc' := 45) at_43 rfl rfl rfl ?_
      refine s_lloadN B X91 (pc' := 46) at_45 rfl rfl ?_
      refine c_virtual B X91 (y := mn2) (pc' := 49) (argsL := [(.long i2)]) (under := []) (W := 0) e91 (tw19 hw) (tw20 hw) (tw22 hw) (tw21 hw) (tw23 hw) (tw2 hw) (by decide) (mm3_40 l Z a0 hw o86 i2 o87_0 o89_0 (pairsOf S) S kq_o87_0 kq_o89_0 i1  h89 F0 O89 ge_o86 f90 u89_2 u89_3 u89_4 u89_5 ge_o87_0 u89_6 ovu87_0 ge_o89_0 u89_0 u89_1 ne_o86_o87_0 ne_o86_o89_0 ne_o87_0_o89_0 hP3 hP) f90 (lenOf pd_2 rfl) rfl rfl (by decide) (by decide) (by decide) (by decide) rfl at_46 rfl (fun v92 T92 L92 X92 hQ92 => ?_)
      obtain ⟨rfl, Nq92, Kq92, u92_0, u92_1, u92_2, u92_3, u92_4⟩ := hQ92
      obtain ⟨h92, e92⟩ : ∃ z, T92.heap = z := ⟨_, rfl⟩
      rw [e92] at Kq92 u92_0 u92_1 u92_2 u92_3 u92_4
      have N92 := Fr.app N89 Nq92
      have O92 := (O89).keep Kq92 (allS ge_o86 (allS ge_o89_0 all0))
      show Go p e below _ (T92.setTop (mkF m 49 #[.val (.int i0), .val (.long i1), .second, .val (.long i2), .second, .val (.long i3), .second, .val (.int S), .val (.ref o86), .val (.int (1 : Int32))] []))
      refine s_aload B X92 (pc' := 51) at_49 rfl rfl rfl ?_
      refine s_lload B X92 (pc' := 53) at_51 rfl rfl ?_
      have f93 := (f90.keep Kq92)
      have f94 := (u89_6.keep Kq92 (ninS (Ne.symm ne_o86_o87_0) (ninS ne_o87_0_o89_0 nin0)))
      have f95 := (u89_0.keep Kq92)
      refine c_virtual B X92 (y := mn2) (pc' := 56) (argsL := [(.long i3)]) (under := []) (W := 0) e92 (tw19 hw) (tw20 hw) (tw22 hw) (tw21 hw) (tw23 hw) (tw2 hw) (by decide) (mm3_41 l Z a0 hw o86 i3 o87_0 o89_0 (pairsOf S) S kq_o87_0 kq_o89_0 i1 i2  h92 F0 O92 ge_o86 f93 u92_0 u92_1 u92_2 u92_3 ge_o87_0 f94 ovu87_0 ge_o89_0 f95 u92_4 ne_o86_o87_0 ne_o86_o89_0 ne_o87_0_o89_0 hP3 hP) f93 (lenOf pd_2 rfl) rfl rfl (by decide) (by decide) (by decide) (by decide) rfl at_53 rfl (fun v96 T96 L96 X96 hQ96 => ?_)
      obtain ⟨rfl, Nq96, Kq96, u96_0, u96_1, u96_2, u96_3, u96_4⟩ := hQ96
      obtain ⟨h96, e96⟩ : ∃ z, T96.heap = z := ⟨_, rfl⟩
      rw [e96] at Kq96 u96_0 u96_1 u96_2 u96_3 u96_4
      have N96 := Fr.app N92 Nq96
      have O96 := (O92).keep Kq96 (allS ge_o86 (allS ge_o89_0 all0))
      show Go p e below _ (T96.setTop (mkF m 56 #[.val (.int i0), .val (.long i1), .second, .val (.long i2), .second, .val (.long i3), .second, .val (.int S), .val (.ref o86), .val (.int (1 : Int32))] []))
      refine s_iload B X96 (pc' := 58) at_56 rfl rfl ?_
      refine s_ifN B X96 (pc' := 61) at_58 (by decide) rfl ?_
      refine s_aload B X96 (pc' := 63) at_61 rfl rfl rfl ?_
      refine s_iconst B X96 (pc' := 64) (v := (0 : Int32)) at_63 rfl rfl ?_
      have f97 := (f93.keep Kq96)
      have f98 := (f94.keep Kq96 (ninS (Ne.symm ne_o86_o87_0) (ninS ne_o87_0_o89_0 nin0)))
      have f99 := (f95.keep Kq96)
      refine p_virtual B X96 (y := mn3) (pc' := 67) (argsL := [(.int (0 : Int32))]) (under := []) (W := 0) e96 (tw32 hw) (tw33 hw) (tw35 hw) (tw34 hw) (tw36 hw) (tw2 hw) (by decide) (mm5_42 l Z a0 hw o86 o87_0 o89_0 (pairsOf S) S kq_o87_0 kq_o89_0 i1 i2 i3  h96 F0 O96 ge_o86 f97 u96_0 u96_1 u96_2 u96_3 ge_o87_0 f98 ovu87_0 ge_o89_0 f99 u96_4 ne_o86_o87_0 ne_o86_o89_0 ne_o87_0_o89_0 hP3 hP) f97 (lenOf pd_3 rfl) rfl rfl (by decide) (by decide) rfl rfl (by decide) (by decide) rfl at_64 rfl (fun T100 X100 e100 => ?_)
      show Go p e below _ (T100.setTop (mkF m 67 #[.val (.int i0), .val (.long i1), .second, .val (.long i2), .second, .val (.long i3), .second, .val (.int S), .val (.ref o86), .val (.int (1 : Int32))] [(.long i1)]))
      refine s_lloadN B X100 (pc' := 68) at_67 rfl rfl ?_
      refine b_lcmp_ne B X100 (py := 99) (pn := 72) at_68 rfl at_69 (by decide) (by decide) rfl (fun q => absurd rfl q) (fun _ => ?_)
      refine s_aload B X100 (pc' := 74) at_72 rfl rfl rfl ?_
      refine s_iconst B X100 (pc' := 75) (v := (1 : Int32)) at_74 rfl rfl ?_
      refine p_virtual B X100 (y := mn3) (pc' := 78) (argsL := [(.int (1 : Int32))]) (under := []) (W := 0) e100 (tw32 hw) (tw33 hw) (tw35 hw) (tw34 hw) (tw36 hw) (tw2 hw) (by decide) (mm5_43 l Z a0 hw o86 o87_0 o89_0 (pairsOf S) S kq_o87_0 kq_o89_0 i1 i2 i3  h96 F0 O96 ge_o86 f97 u96_0 u96_1 u96_2 u96_3 ge_o87_0 f98 ovu87_0 ge_o89_0 f99 u96_4 ne_o86_o87_0 ne_o86_o89_0 ne_o87_0_o89_0 hP3 hP) f97 (lenOf pd_3 rfl) rfl rfl (by decide) (by decide) rfl rfl (by decide) (by decide) rfl at_75 rfl (fun T101 X101 e101 => ?_)
      show Go p e below _ (T101.setTop (mkF m 78 #[.val (.int i0), .val (.long i1), .second, .val (.long i2), .second, .val (.long i3), .second, .val (.int S), .val (.ref o86), .val (.int (1 : Int32))] [(.long i2)]))
      refine s_lloadN B X101 (pc' := 79) at_78 rfl rfl ?_
      refine b_lcmp_ne B X101 (py := 99) (pn := 83) at_79 rfl at_80 (by decide) (by decide) rfl (fun q => absurd rfl q) (fun _ => ?_)
      refine s_aload B X101 (pc' := 85) at_83 rfl rfl rfl ?_
      refine s_iconst B X101 (pc' := 86) (v := (2 : Int32)) at_85 rfl rfl ?_
      refine p_virtual B X101 (y := mn3) (pc' := 89) (argsL := [(.int (2 : Int32))]) (under := []) (W := 0) e101 (tw32 hw) (tw33 hw) (tw35 hw) (tw34 hw) (tw36 hw) (tw2 hw) (by decide) (mm5_44 l Z a0 hw o86 o87_0 o89_0 (pairsOf S) S kq_o87_0 kq_o89_0 i1 i2 i3  h96 F0 O96 ge_o86 f97 u96_0 u96_1 u96_2 u96_3 ge_o87_0 f98 ovu87_0 ge_o89_0 f99 u96_4 ne_o86_o87_0 ne_o86_o89_0 ne_o87_0_o89_0 hP3 hP) f97 (lenOf pd_3 rfl) rfl rfl (by decide) (by decide) rfl rfl (by decide) (by decide) rfl at_86 rfl (fun T102 X102 e102 => ?_)
      show Go p e below _ (T102.setTop (mkF m 89 #[.val (.int i0), .val (.long i1), .second, .val (.long i2), .second, .val (.long i3), .second, .val (.int S), .val (.ref o86), .val (.int (1 : Int32))] [(.long i3)]))
      refine s_lload B X102 (pc' := 91) at_89 rfl rfl ?_
      refine b_lcmp_ne B X102 (py := 99) (pn := 95) at_91 rfl at_92 (by decide) (by decide) rfl (fun q => absurd rfl q) (fun _ => ?_)
      refine s_iconst B X102 (pc' := 96) (v := (1 : Int32)) at_95 rfl rfl ?_
      refine s_goto B X102 (pc' := 100) at_96 (by decide) (by decide) ?_
      exact r_nar B X102 (t := .boolean) (by simp) rfl at_100 ⟨rfl, N96⟩ (by decide) (by decide)
set_option maxRecDepth 65536 in
set_option maxHeartbeats 40000000 in
theorem comes_1 {Post : Tables → Env → Array Value → State → Outcome → State → Prop} (hpost : ∀ tb e args s v u, (limb_1_1.after args s (.returned v) u = true ∧ limb_1_2.after args s (.returned v) u = true ∧ True) → FrameEnd s (.returned v) u (Jvm.fieldLocs frame_1_writes args s ++ Jvm.arrayLocs frame_1_arrays args s ++ Jvm.staticLocs frame_1_statics s) 16 8320 → Post tb e args s (.returned v) u) :
    ArmFor flags0 classFile x code maxLocals ret World_1 tables_1 room_1 Calls_1 rest_1 Pre_1 Post := by
  intro l hfl _ _ p e ha hc hk s m args below hf hA hF happ hP
  obtain ⟨hcalls, hrest, hpre⟩ := hP
  obtain ⟨-, -, -, hnamed, -, -, -, hat⟩ := (Spec.applies_iff hf).mp happ
  obtain ⟨hg, hn⟩ := and_e (Cond.before_iff.mp (show (Jvm.Cond.and given_1 narrow_1).before args s = true from hpre))
  obtain ⟨h1, hg⟩ := and_e hg
  obtain ⟨w0, w1, w2, w3, rfl⟩ : ∃ w0 w1 w2 w3 : Value, args = #[w0, w1, w2, w3] := by
    have hs : args.size = 4 := by simpa [Cond.value, given_1] using h1
    obtain ⟨L⟩ := args
    match L, hs with
    | [w0, w1, w2, w3], _ => exact ⟨w0, w1, w2, w3, rfl⟩
  have hw := fun d (hd : d ∈ tables_1) => atoms_spec (ws := Jvm.Cond.code x code maxLocals ret :: tables_1) hat d (List.mem_cons_of_mem _ hd)
  have hfit : Fit s := fun {y c} hc i hi => by
    obtain ⟨ha, rfl⟩ := Array.getElem?_eq_some_iff.mp hc
    have q := List.all_eq_true.mp ((Array.all_eq_true_iff_forall_mem.mp hF) _ (Array.getElem_mem ha)) i (List.mem_range.mpr hi)
    simpa [Array.getElem?_eq_getElem hi] using q
  obtain ⟨hg0, hg⟩ := and_e hg
  obtain ⟨hg1, hg⟩ := and_e hg
  obtain ⟨hg2, hg⟩ := and_e hg
  have hg3 := hg
  obtain ⟨i0, ei0⟩ := is_v hg0
  obtain rfl : w0 = (.int i0) := Option.some.inj ei0
  obtain ⟨i1, ei1⟩ := isL_v hg1
  obtain rfl : w1 = (.long i1) := Option.some.inj ei1
  obtain ⟨i2, ei2⟩ := isL_v hg2
  obtain rfl : w2 = (.long i2) := Option.some.inj ei2
  obtain ⟨i3, ei3⟩ := isL_v hg3
  obtain rfl : w3 = (.long i3) := Option.some.inj ei3
  obtain ⟨n, o, h1, h2, h3, _, L, rfl, ⟨rfl, N⟩, hq⟩ := rm_law l s _ hw i0 i1 i2 i3 trivial p e ha hc hk s m _ below hf ((Spec.applies_iff_loose hf).mp happ).1 ⟨rfl, State.Warmed39.refl s, rfl⟩ trivial
  refine ⟨n, _, h1, h2, h3, hpost _ _ _ _ _ _ ⟨Cond.after_iff.mpr rfl, Cond.after_iff.mpr (eq_i res_at (Term.int_eval (1)) rfl), trivial⟩ ⟨hq.1, hq.2.1, (hq.2.2.sift fun y hy => Or.inr (N y hy)).mono (by decide) (by decide)⟩⟩
theorem main_1_1 : Claimed_1_1 := comes_1 fun _ _ _ _ _ _ h hF => ⟨h.1, hF⟩
theorem main_1_2 : Claimed_1_2 := comes_1 fun _ _ _ _ _ _ h hF => ⟨h.2.1, hF⟩
end Jvm.Pilot.@@N@@
namespace Jvm.Pilot.@@N@@
open Jvm Jvm.ClassFile Sem Op Lib Jvm.Free Jvm.Stand Jvm.Pilot.@@N@@.Jvm.D
/-! MADE BY PROGRAM (witnessworld.py) out of the Statement's table words and the real class files: 11 classes; the members and pool entries that the words name. The judged class is class 1, her method 1. -/
namespace start1
open Jvm.ClassFile
def u (s : String) : CpInfo := .utf8 (stringToUtf16 s)
/-- a pool by its gaps: so many unusable entries, then the entry; so many at the end -/
def gap : Nat → List CpInfo → List CpInfo
  | 0, r => r
  | n + 1, r => .unusable :: gap n r
def poolList (es : List (Nat × CpInfo)) (last : Nat) : List CpInfo := es.foldr (fun e r => gap e.1 (e.2 :: r)) (gap last [])
def pool (es : List (Nat × CpInfo)) (last : Nat) : Array CpInfo := ⟨poolList es last⟩
def fileOf (pool : Array CpInfo) (this : Nat) (attrs : Array Attribute := #[]) (ms : Array MethodInfo := #[]) (fl : Nat := 33) (sup : Nat := 0) (ifs : Array Nat := #[]) (fds : Array FieldInfo := #[]) : ClassFile where
  minorVersion := 0
  majorVersion := 65
  constantPool := pool
  accessFlags := fl
  thisClass := this
  superClass := sup
  interfaces := ifs
  fields := fds
  methods := ms
  attributes := attrs
def plain (name : String) (sup : Option ClassId) : Class where
  name := name
  kind := .ordinary
  loader := none
  accessFlags := 33
  super := sup
  interfaces := #[]
  cf := none
  fields := #[]
  methods := #[]
  instanceTypes := #[]
  staticTypes := #[]
  resolved := #[]
  callSites := []
  init := .initialized
  statics := none
  mirror := none

def pool0 : Array CpInfo := pool [(5, u "<init>"), (0, u "()V"), (1, .class_ 10), (1, u "java/lang/Object")] 113

def k0c0 : Code := { maxStack := 0, maxLocals := 1, code := object_method_1_code, exceptionTable := #[], attributes := #[] }
def k0m0 : Method := { name := "<init>", desc := "()V", sig := { parameters := [], returnType := none }, accessFlags := 1, code := some k0c0 }
/-- java/lang/Object -/
def k0 : Class := { plain "java/lang/Object" none with
  accessFlags := 33
  interfaces := #[]
  cf := some (fileOf pool0 8 #[] #[{ accessFlags := 1, nameIndex := 5, descriptorIndex := 6, attributes := #[] }] 33 0 #[] #[])
  fields := #[]
  methods := #[k0m0]
  instanceTypes := #[]
  staticTypes := #[]
  resolved := Array.replicate 124 none
  statics := none }

def pool1 : Array CpInfo := pool [(2, .class_ 4), (1, u "java/lang/Object"), (0, u "<init>"), (0, u "()V"), (0, .class_ 8), (0, u "com/example/stroll/stroll/ExplicitMetric$Weights"), (0, .methodref 7 10), (0, .nameAndType 5 11), (0, u "(I)V"), (0, .methodref 7 13), (0, .nameAndType 14 15), (0, u "add"), (0, u "(J)V"), (0, .methodref 7 17), (0, .nameAndType 18 19), (0, u "weight"), (0, u "(I)J"), (0, .class_ 21), (0, u "com/example/stroll/stroll/WeightsWeightPinLaw"), (2, u "law"), (0, u "(IJJJ)Z")] 7

def k1m0 : Method := { name := "<init>", desc := "()V", sig := { parameters := [], returnType := none }, accessFlags := 1, code := none }
def k1c1 : Code := { maxStack := 4, maxLocals := 10, code := code, exceptionTable := #[], attributes := #[] }
def k1m1 : Method := { name := "law", desc := "(IJJJ)Z", sig := { parameters := [.int, .long, .long, .long], returnType := some .boolean }, accessFlags := 9, code := some k1c1 }
/-- com/example/stroll/stroll/WeightsWeightPinLaw -/
def k1 : Class := { plain "com/example/stroll/stroll/WeightsWeightPinLaw" (some 0) with
  accessFlags := 49
  interfaces := #[]
  cf := some (fileOf pool1 20 #[] #[{ accessFlags := 1, nameIndex := 5, descriptorIndex := 6, attributes := #[] }, { accessFlags := 9, nameIndex := 24, descriptorIndex := 25, attributes := #[] }] 49 2 #[] #[])
  fields := #[]
  methods := #[k1m0, k1m1]
  instanceTypes := #[]
  staticTypes := #[]
  resolved := Array.replicate 33 none
  statics := none }

def pool2 : Array CpInfo := pool [(1, .class_ 2), (0, u "com/example/stroll/stroll/ExplicitMetric$Weights"), (0, .methodref 4 5), (0, .class_ 6), (0, .nameAndType 7 8), (0, u "java/lang/Object"), (0, u "<init>"), (0, u "()V"), (0, .fieldref 1 10), (0, .nameAndType 11 12), (0, u "size"), (0, u "I"), (0, .long 2), (1, .fieldref 1 16), (0, .nameAndType 17 18), (0, u "pairs"), (0, u "J"), (0, .long 4096), (1, .class_ 22), (0, u "[J"), (0, .fieldref 1 24), (0, .nameAndType 25 26), (0, u "blocks"), (0, u "[[J"), (0, .fieldref 1 28), (0, .nameAndType 29 12), (0, u "given"), (0, .methodref 31 32), (0, .class_ 33), (0, .nameAndType 34 35), (0, u "java/lang/Math"), (0, u "min"), (0, u "(JJ)J"), (0, u "BLOCK_BITS"), (2, u "BLOCK"), (1, u "(I)V"), (3, u "weight"), (0, u "(I)J"), (0, u "add"), (0, u "(J)V"), (4, .class_ 54), (0, u "com/example/stroll/stroll/ExplicitMetric")] 2

def k2c0 : Code := { maxStack := 5, maxLocals := 2, code := prog_28_method_1_code, exceptionTable := #[], attributes := #[] }
def k2m0 : Method := { name := "<init>", desc := "(I)V", sig := { parameters := [.int], returnType := none }, accessFlags := 0, code := some k2c0 }
def k2c1 : Code := { maxStack := 3, maxLocals := 2, code := prog_28_method_4_code, exceptionTable := #[], attributes := #[] }
def k2m1 : Method := { name := "weight", desc := "(I)J", sig := { parameters := [.int], returnType := some .long }, accessFlags := 0, code := some k2c1 }
def k2c2 : Code := { maxStack := 9, maxLocals := 4, code := prog_28_method_5_code, exceptionTable := #[], attributes := #[] }
def k2m2 : Method := { name := "add", desc := "(J)V", sig := { parameters := [.long], returnType := none }, accessFlags := 0, code := some k2c2 }
/-- com/example/stroll/stroll/ExplicitMetric$Weights -/
def k2 : Class := { plain "com/example/stroll/stroll/ExplicitMetric$Weights" (some 0) with
  accessFlags := 48
  interfaces := #[]
  cf := some (fileOf pool2 1 #[.nestHost 53] #[{ accessFlags := 0, nameIndex := 7, descriptorIndex := 41, attributes := #[] }, { accessFlags := 0, nameIndex := 45, descriptorIndex := 46, attributes := #[] }, { accessFlags := 0, nameIndex := 47, descriptorIndex := 48, attributes := #[] }] 48 4 #[] #[{ accessFlags := 26, nameIndex := 36, descriptorIndex := 12, attributes := #[] }, { accessFlags := 26, nameIndex := 39, descriptorIndex := 12, attributes := #[] }, { accessFlags := 18, nameIndex := 11, descriptorIndex := 12, attributes := #[] }, { accessFlags := 18, nameIndex := 17, descriptorIndex := 18, attributes := #[] }, { accessFlags := 18, nameIndex := 25, descriptorIndex := 26, attributes := #[] }, { accessFlags := 2, nameIndex := 29, descriptorIndex := 12, attributes := #[] }])
  fields := #[{ name := "BLOCK_BITS", type := .int, accessFlags := 26, slot := 0, constantValue := 0 }, { name := "BLOCK", type := .int, accessFlags := 26, slot := 1, constantValue := 0 }, { name := "size", type := .int, accessFlags := 18, slot := 0, constantValue := 0 }, { name := "pairs", type := .long, accessFlags := 18, slot := 1, constantValue := 0 }, { name := "blocks", type := (.array (.array .long)), accessFlags := 18, slot := 2, constantValue := 0 }, { name := "given", type := .int, accessFlags := 2, slot := 3, constantValue := 0 }]
  methods := #[k2m0, k2m1, k2m2]
  instanceTypes := #[.int, .long, (.array (.array .long)), .int]
  staticTypes := #[.int, .int]
  resolved := Array.replicate 57 none
  statics := none }

def pool3 : Array CpInfo := pool [(1, .class_ 2), (0, u "java/lang/Math"), (1, .class_ 6), (1, u "java/lang/Object"), (0, u "<init>"), (0, u "()V"), (89, .class_ 100), (1, u "java/lang/Math$RandomNumberGeneratorHolder"), (20, u "(JJ)J"), (50, u "negativeZeroFloatBits"), (0, u "J"), (2, u "negativeZeroDoubleBits"), (24, u "min"), (43, u "$assertionsDisabled"), (0, u "Z"), (91, u "twoToTheDoubleScaleDown"), (0, u "D"), (4, u "twoToTheDoubleScaleUp"), (9, u "E"), (3, u "PI"), (2, u "TAU"), (2, u "DEGREES_TO_RADIANS"), (0, u "RADIANS_TO_DEGREES")] 94

def k3m0 : Method := { name := "<init>", desc := "()V", sig := { parameters := [], returnType := none }, accessFlags := 2, code := none }
def k3c1 : Code := { maxStack := 4, maxLocals := 4, code := jdk_29_method_70_code, exceptionTable := #[], attributes := #[] }
def k3m1 : Method := { name := "min", desc := "(JJ)J", sig := { parameters := [.long, .long], returnType := some .long }, accessFlags := 9, code := some k3c1 }
/-- java/lang/Math -/
def k3 : Class := { plain "java/lang/Math" (some 0) with
  accessFlags := 49
  interfaces := #[]
  cf := some (fileOf pool3 1 #[.nestMembers #[98]] #[{ accessFlags := 2, nameIndex := 7, descriptorIndex := 8, attributes := #[] }, { accessFlags := 9, nameIndex := 201, descriptorIndex := 121, attributes := #[] }] 49 4 #[] #[{ accessFlags := 25, nameIndex := 354, descriptorIndex := 339, attributes := #[] }, { accessFlags := 25, nameIndex := 358, descriptorIndex := 339, attributes := #[] }, { accessFlags := 25, nameIndex := 361, descriptorIndex := 339, attributes := #[] }, { accessFlags := 26, nameIndex := 364, descriptorIndex := 339, attributes := #[] }, { accessFlags := 26, nameIndex := 365, descriptorIndex := 339, attributes := #[] }, { accessFlags := 26, nameIndex := 172, descriptorIndex := 173, attributes := #[] }, { accessFlags := 26, nameIndex := 176, descriptorIndex := 173, attributes := #[] }, { accessFlags := 8, nameIndex := 344, descriptorIndex := 339, attributes := #[] }, { accessFlags := 8, nameIndex := 338, descriptorIndex := 339, attributes := #[] }, { accessFlags := 4120, nameIndex := 245, descriptorIndex := 246, attributes := #[] }])
  fields := #[{ name := "E", type := .double, accessFlags := 25, slot := 0, constantValue := 0 }, { name := "PI", type := .double, accessFlags := 25, slot := 1, constantValue := 0 }, { name := "TAU", type := .double, accessFlags := 25, slot := 2, constantValue := 0 }, { name := "DEGREES_TO_RADIANS", type := .double, accessFlags := 26, slot := 3, constantValue := 0 }, { name := "RADIANS_TO_DEGREES", type := .double, accessFlags := 26, slot := 4, constantValue := 0 }, { name := "negativeZeroFloatBits", type := .long, accessFlags := 26, slot := 5, constantValue := 0 }, { name := "negativeZeroDoubleBits", type := .long, accessFlags := 26, slot := 6, constantValue := 0 }, { name := "twoToTheDoubleScaleUp", type := .double, accessFlags := 8, slot := 7, constantValue := 0 }, { name := "twoToTheDoubleScaleDown", type := .double, accessFlags := 8, slot := 8, constantValue := 0 }, { name := "$assertionsDisabled", type := .boolean, accessFlags := 4120, slot := 9, constantValue := 0 }]
  methods := #[k3m0, k3m1]
  instanceTypes := #[]
  staticTypes := #[.double, .double, .double, .double, .double, .long, .long, .double, .double, .boolean]
  resolved := Array.replicate 460 none
  statics := none }

def pool4 : Array CpInfo := pool [(1, u "java/lang/Cloneable"), (0, .class_ 1), (0, u "java/lang/Object"), (0, .class_ 3)] 3

/-- java/lang/Cloneable -/
def k4 : Class := { plain "java/lang/Cloneable" (some 0) with
  accessFlags := 1537
  interfaces := #[]
  cf := some (fileOf pool4 2 #[] #[] 1537 4 #[] #[])
  fields := #[]
  methods := #[]
  instanceTypes := #[]
  staticTypes := #[]
  resolved := Array.replicate 8 none
  statics := none }

def pool5 : Array CpInfo := pool [(1, u "java/io/Serializable"), (0, .class_ 1), (0, u "java/lang/Object"), (0, .class_ 3)] 3

/-- java/io/Serializable -/
def k5 : Class := { plain "java/io/Serializable" (some 0) with
  accessFlags := 1537
  interfaces := #[]
  cf := some (fileOf pool5 2 #[] #[] 1537 4 #[] #[])
  fields := #[]
  methods := #[]
  instanceTypes := #[]
  staticTypes := #[]
  resolved := Array.replicate 8 none
  statics := none }

/-- the primitive byte -/
def k6 : Class := { plain "byte" none with kind := .primitive 'B', accessFlags := 0x411 }
/-- [B -/
def k7 : Class := { plain "[B" (some 0) with kind := .array 6 .byte, interfaces := #[4, 5], accessFlags := 1041 }

/-- the primitive long -/
def k8 : Class := { plain "long" none with kind := .primitive 'J', accessFlags := 0x411 }
/-- [J -/
def k9 : Class := { plain "[J" (some 0) with kind := .array 8 .long, interfaces := #[4, 5], accessFlags := 1041 }

/-- [L[J; -/
def k10 : Class := { plain "[[J" (some 0) with kind := .array 9 (.array .long), interfaces := #[4, 5], accessFlags := 1041 }

def heap : Heap := #[{ cls := 10, slots := #[.null], vm := .none }]
def classes : Array Class := #[k0, k1, k2, k3, k4, k5, k6, k7, k8, k9, k10]
def interned : List (Array UInt16 × Addr) := []
def slotsUsed : Nat := 1
def theMethod : MethodId := ⟨1, 1⟩
def args0 : Array Value := #[.int 5, .long 6, .long 7, .long 8]
def aboutOver (below : List Frame) : State where
  vm := { classes := classes, interned := interned.toArray }
  heap := heap
  slotsUsed := slotsUsed
  threads := #[{ frames := .invoking theMethod args0 :: below }]
def below0 : List Frame := [.native { method := ⟨0, 0⟩, args := #[] }]
def about1 : State := aboutOver below0
def p0 : Program := .bare "" "" ""
def e0 : Env := launch0.env 0 0 0
theorem w_frames : about1.frames = Frame.invoking theMethod args0 :: below0 := rfl
set_option maxRecDepth 65536 in
theorem w_args : argsFit about1.vm theMethod args0 = true := by decide +kernel
set_option maxRecDepth 65536 in
theorem w_heap : heapFits about1 = true := by decide +kernel
set_option maxRecDepth 65536 in
theorem w_runnable : about1.curStatus? = some .runnable := by decide +kernel
set_option maxRecDepth 65536 in
theorem w_alone : about1.alone = true := by decide +kernel
set_option maxRecDepth 65536 in
theorem w_named : about1.methodNamed? x = some theMethod := by decide +kernel
set_option maxRecDepth 65536 in
theorem w_hears : about1.hears theMethod below0 = true := by decide +kernel
set_option maxRecDepth 65536 in
theorem w_ripe : about1.ripe theMethod args0 below0 = true := by decide +kernel
theorem w_running : about1.status = .running := rfl
set_option maxRecDepth 65536 in
theorem w_room : about1.hasRoom e0.platform room_1 = true :=
  launch0.hasRoom_least _ room_1 (by decide +kernel) (by decide +kernel) (by decide +kernel) (by decide +kernel) (by decide +kernel) (by decide +kernel)
theorem allAtoms_all (ts : List Jvm.Cond) (a : Array Jvm.Value) (st : Jvm.State) : (allAtoms ts).before a st = ts.all (fun c => c.before a st) := by
  induction ts with
  | nil => rfl
  | cons c t ih =>
    show (Jvm.Cond.and c (allAtoms t)).before a st = _
    rw [Jvm.Cond.before_and, ih, List.all_cons]
def words1 : List Jvm.Cond := Jvm.Cond.code x code maxLocals ret :: tables_1
/-- a 'code' word, met by the world's own term for the bytes: nothing is compared byte by byte -/
theorem code_word {y : MethodName} {bytes : ByteArray} {mx : Nat} {rt : Option FieldType} {a : Array Value} {s : State} {m : MethodId} {meth : Method} {c : Code} (h1 : s.methodNamed? y = some m) (h2 : s.vm.method? m = some meth) (h3 : meth.code = some c) (h4 : c.code = bytes)
    (h5 : (c.maxLocals == mx && c.exceptionTable.isEmpty && decide (c.maxStack ≤ mostOperands) && decide (meth.sig.returnType = rt) && !meth.locks && decide (parseMethodDescriptor y.desc = some meth.sig)) = true) : (Jvm.Cond.code y bytes mx rt).before a s = true := by
  simp only [Bool.and_eq_true, beq_iff_eq, Bool.not_eq_true', decide_eq_true_eq] at h5
  obtain ⟨⟨⟨⟨⟨g1, g2⟩, g3⟩, g4⟩, g5⟩, g6⟩ := h5
  simp [Cond.before, Cond.holds, Cond.value, h1, h2, h3, h4, g1, g2, g3, g4, g5, g6]
def isCode : Jvm.Cond → Bool
  | .code _ _ _ _ => true
  | _ => false
theorem all_split {L : List Jvm.Cond} {P : Jvm.Cond → Bool} (h1 : L.all (fun c => isCode c || P c) = true) (h2 : ∀ c ∈ L.filter isCode, P c = true) : L.all P = true := by
  refine List.all_eq_true.mpr fun c hc => ?_
  have h := List.all_eq_true.mp h1 c hc
  rcases Bool.eq_false_or_eq_true (isCode c) with hi | hi
  · exact h2 c (List.mem_filter.mpr ⟨hc, hi⟩)
  · simpa [hi] using h
set_option maxRecDepth 65536 in
theorem w_c0 : (Jvm.Cond.code x code maxLocals ret).before args0 about1 = true := code_word (m := ⟨1, 1⟩) (meth := k1m1) (c := k1c1) (by decide +kernel) rfl rfl rfl (by decide +kernel)
set_option maxRecDepth 65536 in
theorem w_c1 : (Jvm.Cond.code ({ cls := "com/example/stroll/stroll/ExplicitMetric$Weights", name := "<init>", desc := "(I)V" } : Jvm.MethodName) prog_28_method_1_code (2 : Nat) (Option.none : Option Jvm.ClassFile.FieldType)).before args0 about1 = true := code_word (m := ⟨2, 0⟩) (meth := k2m0) (c := k2c0) (by decide +kernel) rfl rfl rfl (by decide +kernel)
set_option maxRecDepth 65536 in
theorem w_c2 : (Jvm.Cond.code ({ cls := "java/lang/Object", name := "<init>", desc := "()V" } : Jvm.MethodName) object_method_1_code (1 : Nat) (Option.none : Option Jvm.ClassFile.FieldType)).before args0 about1 = true := code_word (m := ⟨0, 0⟩) (meth := k0m0) (c := k0c0) (by decide +kernel) rfl rfl rfl (by decide +kernel)
set_option maxRecDepth 65536 in
theorem w_c3 : (Jvm.Cond.code ({ cls := "com/example/stroll/stroll/ExplicitMetric$Weights", name := "add", desc := "(J)V" } : Jvm.MethodName) prog_28_method_5_code (4 : Nat) (Option.none : Option Jvm.ClassFile.FieldType)).before args0 about1 = true := code_word (m := ⟨2, 2⟩) (meth := k2m2) (c := k2c2) (by decide +kernel) rfl rfl rfl (by decide +kernel)
set_option maxRecDepth 65536 in
theorem w_c4 : (Jvm.Cond.code ({ cls := "java/lang/Math", name := "min", desc := "(JJ)J" } : Jvm.MethodName) jdk_29_method_70_code (4 : Nat) (Option.some Jvm.ClassFile.FieldType.long)).before args0 about1 = true := code_word (m := ⟨3, 1⟩) (meth := k3m1) (c := k3c1) (by decide +kernel) rfl rfl rfl (by decide +kernel)
set_option maxRecDepth 65536 in
theorem w_c5 : (Jvm.Cond.code ({ cls := "com/example/stroll/stroll/ExplicitMetric$Weights", name := "weight", desc := "(I)J" } : Jvm.MethodName) prog_28_method_4_code (2 : Nat) (Option.some Jvm.ClassFile.FieldType.long)).before args0 about1 = true := code_word (m := ⟨2, 1⟩) (meth := k2m1) (c := k2c1) (by decide +kernel) rfl rfl rfl (by decide +kernel)
def codes1 : List Jvm.Cond := [Jvm.Cond.code x code maxLocals ret, Jvm.Cond.code ({ cls := "com/example/stroll/stroll/ExplicitMetric$Weights", name := "<init>", desc := "(I)V" } : Jvm.MethodName) prog_28_method_1_code (2 : Nat) (Option.none : Option Jvm.ClassFile.FieldType), Jvm.Cond.code ({ cls := "java/lang/Object", name := "<init>", desc := "()V" } : Jvm.MethodName) object_method_1_code (1 : Nat) (Option.none : Option Jvm.ClassFile.FieldType), Jvm.Cond.code ({ cls := "com/example/stroll/stroll/ExplicitMetric$Weights", name := "add", desc := "(J)V" } : Jvm.MethodName) prog_28_method_5_code (4 : Nat) (Option.none : Option Jvm.ClassFile.FieldType), Jvm.Cond.code ({ cls := "java/lang/Math", name := "min", desc := "(JJ)J" } : Jvm.MethodName) jdk_29_method_70_code (4 : Nat) (Option.some Jvm.ClassFile.FieldType.long), Jvm.Cond.code ({ cls := "com/example/stroll/stroll/ExplicitMetric$Weights", name := "weight", desc := "(I)J" } : Jvm.MethodName) prog_28_method_4_code (2 : Nat) (Option.some Jvm.ClassFile.FieldType.long)]
set_option maxRecDepth 65536 in
theorem codes_eq : words1.filter isCode = codes1 := rfl
theorem w_codes : ∀ c ∈ words1.filter isCode, c.before args0 about1 = true := by
  rw [codes_eq]
  intro c hc
  simp only [codes1, List.mem_cons, List.not_mem_nil, or_false] at hc
  rcases hc with rfl | rfl | rfl | rfl | rfl | rfl
  · exact w_c0
  · exact w_c1
  · exact w_c2
  · exact w_c3
  · exact w_c4
  · exact w_c5
set_option maxRecDepth 65536 in
theorem w_t1 : (words1.take 24).all (fun c => isCode c || c.before args0 about1) = true := by decide +kernel
set_option maxRecDepth 65536 in
theorem w_t2 : (words1.drop 24).all (fun c => isCode c || c.before args0 about1) = true := by decide +kernel
theorem w_tables : (allAtoms (Jvm.Cond.code x code maxLocals ret :: tables_1)).before args0 about1 = true := by
  rw [allAtoms_all]
  show words1.all (fun c => c.before args0 about1) = true
  refine all_split ?_ w_codes
  rw [← List.take_append_drop 24 words1, List.all_append, w_t1, w_t2]
  rfl
set_option maxRecDepth 65536 in
theorem w_case : (Jvm.Cond.and given_1 narrow_1).before args0 about1 = true := by decide +kernel
theorem w_applies : (headSpec (Jvm.Cond.code x code maxLocals ret :: tables_1) room_1).applies x e0.platform about1 = true :=
  (Spec.applies_iff w_frames).mpr ⟨w_running, w_runnable, w_alone, w_named, w_hears, w_ripe, w_room, w_tables⟩
theorem atStart : AtStart classFile x code maxLocals ret World_1 tables_1 room_1 Calls_1 rest_1 Pre_1 launch0 p0 e0 about1 theMethod args0 below0 :=
  ⟨lists_1, trivial, launch0.admits_env _ _ _, launch0.least_env, fairChoices_fair.cas, fairChoices_fair.clock, w_frames, w_args, w_heap, w_applies, trivial, trivial, w_case⟩
end start1
theorem witness_1 : WitnessClaimed_1 := ⟨start1.p0, start1.e0, start1.about1, start1.theMethod, start1.args0, start1.below0, start1.atStart⟩
end Jvm.Pilot.@@N@@
