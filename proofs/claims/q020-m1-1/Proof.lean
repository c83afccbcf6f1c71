import JvmDerived
import JvmDerived.Pilot.@@N@@Statement
import JvmDerived.Pilot.@@N@@Code
set_option linter.unusedVariables false
set_option linter.unusedSimpArgs false
namespace Jvm.Pilot.@@N@@
open Jvm Jvm.ClassFile Sem Op Lib Jvm.Free Jvm.Stand Jvm.LawKit Jvm.RoadKit Bundle Jvm.Pilot.@@N@@.Jvm.D
section Own
variable {p : Program} {l : Launch} {e : Env} {R : Room} {s : State} {m : MethodId} {args : Array Value} {below : List Frame} {meth : Method} {c : Code} {T : State} {locs : List Loc} {cells slots : Nat} {Z : State} {a0 : Array Value} {h : Heap} {W : Outcome → State → Prop} {B : ByteArray} {own : String} {ml : Nat} {pc pc' : Nat} {Ls : Array Slot} {st : List Value}
/-- the walk from T ends, and W holds of its end -/
def Go (p : Program) (e : Env) (below : List Frame) (W : Outcome → State → Prop) (T : State) : Prop := ∃ t o, Steps p.tables e below T t ∧ t.status = .running ∧ Ended t below o ∧ W o t
theorem Go.via {T' : State} (h : ∀ t, Steps p.tables e below T' t → Steps p.tables e below T t) (k : Go p e below W T') : Go p e below W T := by
  obtain ⟨t, o, s, r⟩ := k
  exact ⟨t, o, h t s, r⟩
def Ctx (p : Program) (s : State) (m : MethodId) (c : Code) (Z : State) (B : ByteArray) (own : String) (ml : Nat) : Prop := p.tables.exec = Jvm.exec ∧ c.code = B ∧ Z.Warmed39 s.vm ∧ s.vm.findClass own = some m.cls ∧ c.maxLocals = ml
theorem Ctx.at (K : Ctx p s m c Z B own ml) {r} (d : decode B pc = r) : decode c.code pc = r := K.2.1 ▸ d
def Con (l : Launch) (y : MethodName) (B : ByteArray) (ml : Nat) (rt : Option FieldType) (ws : List Jvm.Cond) (rm : Room) (Z : State) (as' : Array Value) (h0 : Heap) (Q : Option Value → Heap → List Loc → Prop) : Prop :=
  MetFree l y (head1 (Jvm.Cond.code y B ml rt :: ws) rm) (fun a U => a = as' ∧ Z.Warmed39 U.vm ∧ U.heap = h0) (fun _ _ _ _ _ => True) (fun _ U o U' => ∃ v L, o = .returned v ∧ Q v U'.heap L ∧ FrameEnd U o U' L rm.cells rm.slots)
/-- what a walk of a body owes at its end -/
def End (s : State) (R : Room) (Q : Option Value → Heap → List Loc → Prop) (o : Outcome) (U : State) : Prop := ∃ v L, o = .returned v ∧ Q v U.heap L ∧ FrameEnd s o U L R.cells R.slots
theorem own_enter {y : MethodName} {rt : Option FieldType} {ws : List Jvm.Cond} {rm : Room} {as' : Array Value} {h0 : Heap} {Q : Option Value → Heap → List Loc → Prop} (hpl : plainFor y = true) (hef : ∀ m, entryFrame m as' ml = mkF m 0 Ls [])
    (body : ∀ (p : Program) (e : Env) (s : State) (m : MethodId) (below : List Frame) (meth : Method) (c : Code) (T : State), Ctx p s m c Z B y.cls ml → Stand p l e rm s m as' below meth c T [] 0 0 → T.heap = h0 → meth.sig.returnType = rt → meth.locks = false → meth.name = y.name →
      Go p e below (End s rm Q) (T.setTop (mkF m 0 Ls []))) : Con l y B ml rt ws rm Z as' h0 Q := by
  refine MetFree.of_bodySF hpl hisR ?_
  intro p e s m args below meth c s₁ Bd hml0 hP hK
  obtain ⟨rfl, hZ, hh⟩ := hP
  have k := body p e s m below meth c s₁ ⟨Bd.exec, Bd.bytes, hZ, findClass_of_methodNamed Bd.named, hml0⟩ (Stand.of_body Bd) (by rw [← hh, Bd.state]; rfl) Bd.returns Bd.notSynchronized (name_of_methodNamed Bd.named Bd.method).1
  rw [← hef] at k
  exact k
theorem own_le {a b : Nat} (h : Nat.ble a b = true) : a ≤ b := Nat.le_of_ble_eq_true h
theorem own_sta_keep {h' : Heap} {C n d : String} {v : Value} (F : Sta Z h C n d v) (K : Keep h h' []) : Sta Z h' C n d v := by
  obtain ⟨cf, i, k, f, st, cell, h1, h2, h3, h4, h5, r⟩ := F
  exact ⟨cf, i, k, f, st, cell, h1, h2, h3, h4, K.2.1 _ _ h5 nin0, r⟩
theorem own_sto {h : Heap} {a y : Addr} {k : ClassId} {ty : FieldType} {n : Int32} {vs : List Value} {dv : Value} {C : String} (F : Arv Z h a k ty n vs dv) (O : Ovr Z k C) (I : Ins Z h y C true) : Sto Z h a (.ref y) := by
  obtain ⟨c, A, q, -⟩ := F
  exact Sto.ofV A q O I
theorem own_w {ts : List Jvm.Cond} (hw : ∀ d ∈ ts, d.before a0 Z = true) (i : Nat) {d : Jvm.Cond} (h : ts[i]? = some d) : d.before a0 Z = true := hw _ (List.mem_of_getElem? h)
theorem own_iloadN (K : Ctx p s m c Z B own ml) (X : Stand p l e R s m args below meth c T locs cells slots) {i : Fin 4} {v : Int32} (hd : decode B pc = .ok (.iload_n i, 1)) (hl : Ls[i.val]? = some (.val (.int v))) (hp : pc + 1 = pc') (k : Go p e below W (T.setTop (mkF m pc' Ls (.int v :: st)))) : Go p e below W (T.setTop (mkF m pc Ls st)) := by
  subst hp; exact k.via fun t k => XS.iloadN X.here K.1 rfl (K.at hd) hl k
theorem own_iload (K : Ctx p s m c Z B own ml) (X : Stand p l e R s m args below meth c T locs cells slots) {i : Nat} {v : Int32} (hd : decode B pc = .ok (.iload i, 2)) (hl : Ls[i]? = some (.val (.int v))) (hp : pc + 2 = pc') (k : Go p e below W (T.setTop (mkF m pc' Ls (.int v :: st)))) : Go p e below W (T.setTop (mkF m pc Ls st)) := by
  subst hp; exact k.via fun t k => XS.iload X.here K.1 rfl (K.at hd) hl k
theorem own_lloadN (K : Ctx p s m c Z B own ml) (X : Stand p l e R s m args below meth c T locs cells slots) {i : Fin 4} {v : Int64} (hd : decode B pc = .ok (.lload_n i, 1)) (hl : Ls[i.val]? = some (.val (.long v))) (hp : pc + 1 = pc') (k : Go p e below W (T.setTop (mkF m pc' Ls (.long v :: st)))) : Go p e below W (T.setTop (mkF m pc Ls st)) := by
  subst hp; exact k.via fun t k => XS.lloadN X.here K.1 rfl (K.at hd) hl k
theorem own_lload (K : Ctx p s m c Z B own ml) (X : Stand p l e R s m args below meth c T locs cells slots) {i : Nat} {v : Int64} (hd : decode B pc = .ok (.lload i, 2)) (hl : Ls[i]? = some (.val (.long v))) (hp : pc + 2 = pc') (k : Go p e below W (T.setTop (mkF m pc' Ls (.long v :: st)))) : Go p e below W (T.setTop (mkF m pc Ls st)) := by
  subst hp; exact k.via fun t k => XS.lload X.here K.1 rfl (K.at hd) hl k
theorem own_aloadN (K : Ctx p s m c Z B own ml) (X : Stand p l e R s m args below meth c T locs cells slots) {i : Fin 4} {v : Value} (hd : decode B pc = .ok (.aload_n i, 1)) (hl : Ls[i.val]? = some (.val v)) (hv : v.isRef = true) (hp : pc + 1 = pc') (k : Go p e below W (T.setTop (mkF m pc' Ls (v :: st)))) : Go p e below W (T.setTop (mkF m pc Ls st)) := by
  subst hp; exact k.via fun t k => XS.aloadN X.here K.1 rfl (K.at hd) hl hv k
theorem own_aload (K : Ctx p s m c Z B own ml) (X : Stand p l e R s m args below meth c T locs cells slots) {i : Nat} {v : Value} (hd : decode B pc = .ok (.aload i, 2)) (hl : Ls[i]? = some (.val v)) (hv : v.isRef = true) (hp : pc + 2 = pc') (k : Go p e below W (T.setTop (mkF m pc' Ls (v :: st)))) : Go p e below W (T.setTop (mkF m pc Ls st)) := by
  subst hp; exact k.via fun t k => XS.aload X.here K.1 rfl (K.at hd) hl hv k
theorem own_iconst (K : Ctx p s m c Z B own ml) (X : Stand p l e R s m args below meth c T locs cells slots) {i : Int} {v : Int32} (hd : decode B pc = .ok (.iconst i, 1)) (hv : Int32.ofInt i = v) (hp : pc + 1 = pc') (k : Go p e below W (T.setTop (mkF m pc' Ls (.int v :: st)))) : Go p e below W (T.setTop (mkF m pc Ls st)) := by
  subst hp hv; exact k.via fun t k => XS.iconst X.here K.1 rfl (K.at hd) k
theorem own_bipush (K : Ctx p s m c Z B own ml) (X : Stand p l e R s m args below meth c T locs cells slots) {i : Int} {v : Int32} (hd : decode B pc = .ok (.bipush i, 2)) (hv : (Int8.ofInt i).toInt32 = v) (hp : pc + 2 = pc') (k : Go p e below W (T.setTop (mkF m pc' Ls (.int v :: st)))) : Go p e below W (T.setTop (mkF m pc Ls st)) := by
  subst hp hv; exact k.via fun t k => XS.bipush X.here K.1 rfl (K.at hd) k
theorem own_sipush (K : Ctx p s m c Z B own ml) (X : Stand p l e R s m args below meth c T locs cells slots) {i : Int} {v : Int32} (hd : decode B pc = .ok (.sipush i, 3)) (hv : (Int16.ofInt i).toInt32 = v) (hp : pc + 3 = pc') (k : Go p e below W (T.setTop (mkF m pc' Ls (.int v :: st)))) : Go p e below W (T.setTop (mkF m pc Ls st)) := by
  subst hp hv; exact k.via fun t k => XS.sipush X.here K.1 rfl (K.at hd) k
theorem own_lconst (K : Ctx p s m c Z B own ml) (X : Stand p l e R s m args below meth c T locs cells slots) {i : Fin 2} {v : Int64} (hd : decode B pc = .ok (.lconst i, 1)) (hv : Int64.ofNat i = v) (hp : pc + 1 = pc') (k : Go p e below W (T.setTop (mkF m pc' Ls (.long v :: st)))) : Go p e below W (T.setTop (mkF m pc Ls st)) := by
  subst hp hv; exact k.via fun t k => XS.lconst X.here K.1 rfl (K.at hd) k
theorem own_aconst_null (K : Ctx p s m c Z B own ml) (X : Stand p l e R s m args below meth c T locs cells slots)  (hd : decode B pc = .ok (.aconst_null, 1))  (hp : pc + 1 = pc') (k : Go p e below W (T.setTop (mkF m pc' Ls (.null :: st)))) : Go p e below W (T.setTop (mkF m pc Ls st)) := by
  subst hp; exact k.via fun t k => XS.aconstNull X.here K.1 rfl (K.at hd) k
theorem own_iadd (K : Ctx p s m c Z B own ml) (X : Stand p l e R s m args below meth c T locs cells slots) {x y : Int32} (hd : decode B pc = .ok (.iadd, 1))  (hp : pc + 1 = pc') (k : Go p e below W (T.setTop (mkF m pc' Ls (.int (x + y) :: st)))) : Go p e below W (T.setTop (mkF m pc Ls (.int y :: .int x :: st))) := by
  subst hp; exact k.via fun t k => XS.iadd X.here K.1 rfl (K.at hd) rfl k
theorem own_isub (K : Ctx p s m c Z B own ml) (X : Stand p l e R s m args below meth c T locs cells slots) {x y : Int32} (hd : decode B pc = .ok (.isub, 1))  (hp : pc + 1 = pc') (k : Go p e below W (T.setTop (mkF m pc' Ls (.int (x - y) :: st)))) : Go p e below W (T.setTop (mkF m pc Ls (.int y :: .int x :: st))) := by
  subst hp; exact k.via fun t k => XS.isub X.here K.1 rfl (K.at hd) rfl k
theorem own_imul (K : Ctx p s m c Z B own ml) (X : Stand p l e R s m args below meth c T locs cells slots) {x y : Int32} (hd : decode B pc = .ok (.imul, 1))  (hp : pc + 1 = pc') (k : Go p e below W (T.setTop (mkF m pc' Ls (.int (x * y) :: st)))) : Go p e below W (T.setTop (mkF m pc Ls (.int y :: .int x :: st))) := by
  subst hp; exact k.via fun t k => XS.imul X.here K.1 rfl (K.at hd) rfl k
theorem own_iand (K : Ctx p s m c Z B own ml) (X : Stand p l e R s m args below meth c T locs cells slots) {x y : Int32} (hd : decode B pc = .ok (.iand, 1))  (hp : pc + 1 = pc') (k : Go p e below W (T.setTop (mkF m pc' Ls (.int (x &&& y) :: st)))) : Go p e below W (T.setTop (mkF m pc Ls (.int y :: .int x :: st))) := by
  subst hp; exact k.via fun t k => XS.iand X.here K.1 rfl (K.at hd) rfl k
theorem own_ior (K : Ctx p s m c Z B own ml) (X : Stand p l e R s m args below meth c T locs cells slots) {x y : Int32} (hd : decode B pc = .ok (.ior, 1))  (hp : pc + 1 = pc') (k : Go p e below W (T.setTop (mkF m pc' Ls (.int (x ||| y) :: st)))) : Go p e below W (T.setTop (mkF m pc Ls (.int y :: .int x :: st))) := by
  subst hp; exact k.via fun t k => XS.ior X.here K.1 rfl (K.at hd) rfl k
theorem own_ixor (K : Ctx p s m c Z B own ml) (X : Stand p l e R s m args below meth c T locs cells slots) {x y : Int32} (hd : decode B pc = .ok (.ixor, 1))  (hp : pc + 1 = pc') (k : Go p e below W (T.setTop (mkF m pc' Ls (.int (x ^^^ y) :: st)))) : Go p e below W (T.setTop (mkF m pc Ls (.int y :: .int x :: st))) := by
  subst hp; exact k.via fun t k => XS.ixor X.here K.1 rfl (K.at hd) rfl k
theorem own_ishl (K : Ctx p s m c Z B own ml) (X : Stand p l e R s m args below meth c T locs cells slots) {x y : Int32} (hd : decode B pc = .ok (.ishl, 1))  (hp : pc + 1 = pc') (k : Go p e below W (T.setTop (mkF m pc' Ls (.int (x <<< (y &&& 31)) :: st)))) : Go p e below W (T.setTop (mkF m pc Ls (.int y :: .int x :: st))) := by
  subst hp; exact k.via fun t k => XS.ishl X.here K.1 rfl (K.at hd) rfl k
theorem own_ishr (K : Ctx p s m c Z B own ml) (X : Stand p l e R s m args below meth c T locs cells slots) {x y : Int32} (hd : decode B pc = .ok (.ishr, 1))  (hp : pc + 1 = pc') (k : Go p e below W (T.setTop (mkF m pc' Ls (.int (x >>> (y &&& 31)) :: st)))) : Go p e below W (T.setTop (mkF m pc Ls (.int y :: .int x :: st))) := by
  subst hp; exact k.via fun t k => XS.ishr X.here K.1 rfl (K.at hd) rfl k
theorem own_iushr (K : Ctx p s m c Z B own ml) (X : Stand p l e R s m args below meth c T locs cells slots) {x y : Int32} (hd : decode B pc = .ok (.iushr, 1))  (hp : pc + 1 = pc') (k : Go p e below W (T.setTop (mkF m pc' Ls (.int (XT.ushr x y) :: st)))) : Go p e below W (T.setTop (mkF m pc Ls (.int y :: .int x :: st))) := by
  subst hp; exact k.via fun t k => XS.iushr X.here K.1 rfl (K.at hd) rfl k
theorem own_ladd (K : Ctx p s m c Z B own ml) (X : Stand p l e R s m args below meth c T locs cells slots) {x y : Int64} (hd : decode B pc = .ok (.ladd, 1))  (hp : pc + 1 = pc') (k : Go p e below W (T.setTop (mkF m pc' Ls (.long (x + y) :: st)))) : Go p e below W (T.setTop (mkF m pc Ls (.long y :: .long x :: st))) := by
  subst hp; exact k.via fun t k => XS.ladd X.here K.1 rfl (K.at hd) rfl k
theorem own_lsub (K : Ctx p s m c Z B own ml) (X : Stand p l e R s m args below meth c T locs cells slots) {x y : Int64} (hd : decode B pc = .ok (.lsub, 1))  (hp : pc + 1 = pc') (k : Go p e below W (T.setTop (mkF m pc' Ls (.long (x - y) :: st)))) : Go p e below W (T.setTop (mkF m pc Ls (.long y :: .long x :: st))) := by
  subst hp; exact k.via fun t k => XS.lsub X.here K.1 rfl (K.at hd) rfl k
theorem own_lmul (K : Ctx p s m c Z B own ml) (X : Stand p l e R s m args below meth c T locs cells slots) {x y : Int64} (hd : decode B pc = .ok (.lmul, 1))  (hp : pc + 1 = pc') (k : Go p e below W (T.setTop (mkF m pc' Ls (.long (x * y) :: st)))) : Go p e below W (T.setTop (mkF m pc Ls (.long y :: .long x :: st))) := by
  subst hp; exact k.via fun t k => XS.lmul X.here K.1 rfl (K.at hd) rfl k
theorem own_irem (K : Ctx p s m c Z B own ml) (X : Stand p l e R s m args below meth c T locs cells slots) {x y : Int32} (hd : decode B pc = .ok (.irem, 1)) (hy : y ≠ 0) (hp : pc + 1 = pc') (k : Go p e below W (T.setTop (mkF m pc' Ls (.int (x % y) :: st)))) : Go p e below W (T.setTop (mkF m pc Ls (.int y :: .int x :: st))) := by
  subst hp; exact k.via fun t k => iremM (g := mkF m pc Ls (.int y :: .int x :: st)) X K.1 rfl (K.at hd) rfl hy k
theorem own_idiv (K : Ctx p s m c Z B own ml) (X : Stand p l e R s m args below meth c T locs cells slots) {x y : Int32} (hd : decode B pc = .ok (.idiv, 1)) (hy : y ≠ 0) (hp : pc + 1 = pc') (k : Go p e below W (T.setTop (mkF m pc' Ls (.int (x / y) :: st)))) : Go p e below W (T.setTop (mkF m pc Ls (.int y :: .int x :: st))) := by
  subst hp; exact k.via fun t k => XS.idiv X.here K.1 rfl (K.at hd) rfl hy k
theorem own_lcmp (K : Ctx p s m c Z B own ml) (X : Stand p l e R s m args below meth c T locs cells slots) {x y : Int64} (hd : decode B pc = .ok (.lcmp, 1))  (hp : pc + 1 = pc') (k : Go p e below W (T.setTop (mkF m pc' Ls (.int (XT.cmpL x y) :: st)))) : Go p e below W (T.setTop (mkF m pc Ls (.long y :: .long x :: st))) := by
  subst hp; exact k.via fun t k => XS.lcmp X.here K.1 rfl (K.at hd) rfl k
theorem own_i2l (K : Ctx p s m c Z B own ml) (X : Stand p l e R s m args below meth c T locs cells slots) {x : Int32} (hd : decode B pc = .ok (.i2l, 1))  (hp : pc + 1 = pc') (k : Go p e below W (T.setTop (mkF m pc' Ls (.long x.toInt64 :: st)))) : Go p e below W (T.setTop (mkF m pc Ls (.int x :: st))) := by
  subst hp; exact k.via fun t k => XS.i2l X.here K.1 rfl (K.at hd) rfl k
theorem own_l2i (K : Ctx p s m c Z B own ml) (X : Stand p l e R s m args below meth c T locs cells slots) {x : Int64} (hd : decode B pc = .ok (.l2i, 1))  (hp : pc + 1 = pc') (k : Go p e below W (T.setTop (mkF m pc' Ls (.int x.toInt32 :: st)))) : Go p e below W (T.setTop (mkF m pc Ls (.long x :: st))) := by
  subst hp; exact k.via fun t k => XS.l2i X.here K.1 rfl (K.at hd) rfl k
theorem own_i2c (K : Ctx p s m c Z B own ml) (X : Stand p l e R s m args below meth c T locs cells slots) {x : Int32} (hd : decode B pc = .ok (.i2c, 1))  (hp : pc + 1 = pc') (k : Go p e below W (T.setTop (mkF m pc' Ls (.int x.toUInt32.toUInt16.toUInt32.toInt32 :: st)))) : Go p e below W (T.setTop (mkF m pc Ls (.int x :: st))) := by
  subst hp; exact k.via fun t k => XS.i2c X.here K.1 rfl (K.at hd) rfl k
theorem own_i2b (K : Ctx p s m c Z B own ml) (X : Stand p l e R s m args below meth c T locs cells slots) {x : Int32} (hd : decode B pc = .ok (.i2b, 1))  (hp : pc + 1 = pc') (k : Go p e below W (T.setTop (mkF m pc' Ls (.int x.toInt8.toInt32 :: st)))) : Go p e below W (T.setTop (mkF m pc Ls (.int x :: st))) := by
  subst hp; exact k.via fun t k => XS.i2b X.here K.1 rfl (K.at hd) rfl k
theorem own_dup (K : Ctx p s m c Z B own ml) (X : Stand p l e R s m args below meth c T locs cells slots) {x : Value} (hd : decode B pc = .ok (.dup, 1)) (hc : x.category = 1) (hp : pc + 1 = pc') (k : Go p e below W (T.setTop (mkF m pc' Ls (x :: x :: st)))) : Go p e below W (T.setTop (mkF m pc Ls (x :: st))) := by
  subst hp; exact k.via fun t k => XS.dup X.here K.1 rfl (K.at hd) rfl hc k
theorem own_dup_x1 (K : Ctx p s m c Z B own ml) (X : Stand p l e R s m args below meth c T locs cells slots) {x y : Value} (hd : decode B pc = .ok (.dup_x1, 1)) (hc : x.category = 1) (hc' : y.category = 1) (hp : pc + 1 = pc') (k : Go p e below W (T.setTop (mkF m pc' Ls (x :: y :: x :: st)))) : Go p e below W (T.setTop (mkF m pc Ls (x :: y :: st))) := by
  subst hp; exact k.via fun t k => XS.dupX1 X.here K.1 rfl (K.at hd) rfl hc hc' k
theorem own_dup2 (K : Ctx p s m c Z B own ml) (X : Stand p l e R s m args below meth c T locs cells slots) {x y : Value} (hd : decode B pc = .ok (.dup2, 1)) (hc : x.category = 1) (hc' : y.category = 1) (hp : pc + 1 = pc') (k : Go p e below W (T.setTop (mkF m pc' Ls (x :: y :: x :: y :: st)))) : Go p e below W (T.setTop (mkF m pc Ls (x :: y :: st))) := by
  subst hp; exact k.via fun t k => XT.dup2 X.here K.1 rfl (K.at hd) rfl hc hc' k
theorem own_dup2L (K : Ctx p s m c Z B own ml) (X : Stand p l e R s m args below meth c T locs cells slots) {x : Int64} (hd : decode B pc = .ok (.dup2, 1))  (hp : pc + 1 = pc') (k : Go p e below W (T.setTop (mkF m pc' Ls (.long x :: .long x :: st)))) : Go p e below W (T.setTop (mkF m pc Ls (.long x :: st))) := by
  subst hp; exact k.via fun t k => XT.dup2L X.here K.1 rfl (K.at hd) rfl k
theorem own_pop (K : Ctx p s m c Z B own ml) (X : Stand p l e R s m args below meth c T locs cells slots) {x : Value} (hd : decode B pc = .ok (.pop, 1)) (hc : x.category = 1) (hp : pc + 1 = pc') (k : Go p e below W (T.setTop (mkF m pc' Ls st))) : Go p e below W (T.setTop (mkF m pc Ls (x :: st))) := by
  subst hp; exact k.via fun t k => XS.pop X.here K.1 rfl (K.at hd) rfl hc k
theorem own_istoreN (K : Ctx p s m c Z B own ml) (X : Stand p l e R s m args below meth c T locs cells slots) {i : Fin 4} {x : Int32} {l' : Array Slot} (hd : decode B pc = .ok (.istore_n i, 1)) (hl : storeLocals Ls i.val (.int x) = some l') (hp : pc + 1 = pc') (k : Go p e below W (T.setTop (mkF m pc' l' st))) : Go p e below W (T.setTop (mkF m pc Ls (.int x :: st))) := by
  subst hp; exact k.via fun t k => XS.istoreN X.here K.1 rfl (K.at hd) rfl hl k
theorem own_istore (K : Ctx p s m c Z B own ml) (X : Stand p l e R s m args below meth c T locs cells slots) {i : Nat} {x : Int32} {l' : Array Slot} (hd : decode B pc = .ok (.istore i, 2)) (hl : storeLocals Ls i (.int x) = some l') (hp : pc + 2 = pc') (k : Go p e below W (T.setTop (mkF m pc' l' st))) : Go p e below W (T.setTop (mkF m pc Ls (.int x :: st))) := by
  subst hp; exact k.via fun t k => XS.istore X.here K.1 rfl (K.at hd) rfl hl k
theorem own_lstoreN (K : Ctx p s m c Z B own ml) (X : Stand p l e R s m args below meth c T locs cells slots) {i : Fin 4} {x : Int64} {l' : Array Slot} (hd : decode B pc = .ok (.lstore_n i, 1)) (hl : storeLocals Ls i.val (.long x) = some l') (hp : pc + 1 = pc') (k : Go p e below W (T.setTop (mkF m pc' l' st))) : Go p e below W (T.setTop (mkF m pc Ls (.long x :: st))) := by
  subst hp; exact k.via fun t k => XS.lstoreN X.here K.1 rfl (K.at hd) rfl hl k
theorem own_lstore (K : Ctx p s m c Z B own ml) (X : Stand p l e R s m args below meth c T locs cells slots) {i : Nat} {x : Int64} {l' : Array Slot} (hd : decode B pc = .ok (.lstore i, 2)) (hl : storeLocals Ls i (.long x) = some l') (hp : pc + 2 = pc') (k : Go p e below W (T.setTop (mkF m pc' l' st))) : Go p e below W (T.setTop (mkF m pc Ls (.long x :: st))) := by
  subst hp; exact k.via fun t k => XS.lstore X.here K.1 rfl (K.at hd) rfl hl k
theorem own_astoreN (K : Ctx p s m c Z B own ml) (X : Stand p l e R s m args below meth c T locs cells slots) {i : Fin 4} {x : Value} {l' : Array Slot} (hd : decode B pc = .ok (.astore_n i, 1)) (hv : x.isRef = true) (hl : storeLocals Ls i.val x = some l') (hp : pc + 1 = pc') (k : Go p e below W (T.setTop (mkF m pc' l' st))) : Go p e below W (T.setTop (mkF m pc Ls (x :: st))) := by
  subst hp; exact k.via fun t k => XS.astoreN X.here K.1 rfl (K.at hd) rfl hv hl k
theorem own_astore (K : Ctx p s m c Z B own ml) (X : Stand p l e R s m args below meth c T locs cells slots) {i : Nat} {x : Value} {l' : Array Slot} (hd : decode B pc = .ok (.astore i, 2)) (hv : x.isRef = true) (hl : storeLocals Ls i x = some l') (hp : pc + 2 = pc') (k : Go p e below W (T.setTop (mkF m pc' l' st))) : Go p e below W (T.setTop (mkF m pc Ls (x :: st))) := by
  subst hp; exact k.via fun t k => XS.astore X.here K.1 rfl (K.at hd) rfl hv hl k
theorem own_iinc (K : Ctx p s m c Z B own ml) (X : Stand p l e R s m args below meth c T locs cells slots) {i : Nat} {n : Int} {x v : Int32} {l' : Array Slot} (hd : decode B pc = .ok (.iinc i n, 3)) (hv : Int32.ofInt n = v) (hl : Ls[i]? = some (.val (.int x))) (hl' : storeLocals Ls i (.int (x + v)) = some l') (hp : pc + 3 = pc') (k : Go p e below W (T.setTop (mkF m pc' l' st))) : Go p e below W (T.setTop (mkF m pc Ls st)) := by
  subst hp hv; exact k.via fun t k => XS.iinc X.here K.1 rfl (K.at hd) hl hl' k
theorem own_ldcI (K : Ctx p s m c Z B own ml) (X : Stand p l e R s m args below meth c T locs cells slots) {i : Nat} {v : Int32} (hd : decode B pc = .ok (.ldc i, 2)) (w : (Jvm.Cond.constant own i v).before a0 Z = true) (hp : pc + 2 = pc') (k : Go p e below W (T.setTop (mkF m pc' Ls (.int v :: st)))) : Go p e below W (T.setTop (mkF m pc Ls st)) := by
  subst hp; exact k.via fun t k => X.ldcInt K.1 K.2.2.2.1 (mv K.2.2.1 w) (g := mkF m pc Ls st) rfl (K.at hd) t k
theorem own_ldc2J (K : Ctx p s m c Z B own ml) (X : Stand p l e R s m args below meth c T locs cells slots) {i : Nat} {v : Int64} (hd : decode B pc = .ok (.ldc2_w i, 3)) (w : (Jvm.Cond.constantLong own i v).before a0 Z = true) (hp : pc + 3 = pc') (k : Go p e below W (T.setTop (mkF m pc' Ls (.long v :: st)))) : Go p e below W (T.setTop (mkF m pc Ls st)) := by
  subst hp; exact k.via fun t k => X.ldc2Long K.1 K.2.2.2.1 (mv K.2.2.1 w) (g := mkF m pc Ls st) rfl (K.at hd) t k
theorem own_ifnullYes (K : Ctx p s m c Z B own ml) (X : Stand p l e R s m args below meth c T locs cells slots) {b : Addr} {o : Int} (hd : decode B pc = .ok (.ifnull o, 3)) (ho : 0 ≤ (pc : Int) + o) (hp : ((pc : Int) + o).toNat = pc') (k : Go p e below W (T.setTop (mkF m pc' Ls st))) : Go p e below W (T.setTop (mkF m pc Ls (.null :: st))) :=
  k.via fun t k => XS.ifnullYes X.here K.1 rfl rfl (K.at hd) rfl ho hp k
theorem own_ifnullNo (K : Ctx p s m c Z B own ml) (X : Stand p l e R s m args below meth c T locs cells slots) {b : Addr} {o : Int} (hd : decode B pc = .ok (.ifnull o, 3)) (hp : pc + 3 = pc') (k : Go p e below W (T.setTop (mkF m pc' Ls st))) : Go p e below W (T.setTop (mkF m pc Ls (.ref b :: st))) := by
  subst hp; exact k.via fun t k => XS.ifnullNo X.here K.1 rfl (K.at hd) rfl k
theorem own_ifnonnullYes (K : Ctx p s m c Z B own ml) (X : Stand p l e R s m args below meth c T locs cells slots) {b : Addr} {o : Int} (hd : decode B pc = .ok (.ifnonnull o, 3)) (ho : 0 ≤ (pc : Int) + o) (hp : ((pc : Int) + o).toNat = pc') (k : Go p e below W (T.setTop (mkF m pc' Ls st))) : Go p e below W (T.setTop (mkF m pc Ls (.ref b :: st))) :=
  k.via fun t k => XS.ifnonnullYes X.here K.1 rfl rfl (K.at hd) rfl ho hp k
theorem own_ifnonnullNo (K : Ctx p s m c Z B own ml) (X : Stand p l e R s m args below meth c T locs cells slots) {b : Addr} {o : Int} (hd : decode B pc = .ok (.ifnonnull o, 3)) (hp : pc + 3 = pc') (k : Go p e below W (T.setTop (mkF m pc' Ls st))) : Go p e below W (T.setTop (mkF m pc Ls (.null :: st))) := by
  subst hp; exact k.via fun t k => XS.ifnonnullNo X.here K.1 rfl (K.at hd) rfl k
theorem own_goto (K : Ctx p s m c Z B own ml) (X : Stand p l e R s m args below meth c T locs cells slots) {o : Int} (hd : decode B pc = .ok (.goto o, 3)) (ho : 0 ≤ (pc : Int) + o) (hp : ((pc : Int) + o).toNat = pc') (k : Go p e below W (T.setTop (mkF m pc' Ls st))) : Go p e below W (T.setTop (mkF m pc Ls st)) :=
  k.via fun t k => XS.goto X.here K.1 rfl rfl (K.at hd) ho hp k
theorem own_ifYes (K : Ctx p s m c Z B own ml) (X : Stand p l e R s m args below meth c T locs cells slots) {cd : ClassFile.Cond} {x : Int32} {o : Int} (hd : decode B pc = .ok (.ifCond cd o, 3)) (hc : if_icmp.holds cd x 0 = true) (ho : 0 ≤ (pc : Int) + o) (hp : ((pc : Int) + o).toNat = pc') (k : Go p e below W (T.setTop (mkF m pc' Ls st))) : Go p e below W (T.setTop (mkF m pc Ls (.int x :: st))) :=
  k.via fun t k => XS.ifYes X.here K.1 rfl rfl (K.at hd) rfl ((if0 _ _).trans hc) ho hp k
theorem own_ifNo (K : Ctx p s m c Z B own ml) (X : Stand p l e R s m args below meth c T locs cells slots) {cd : ClassFile.Cond} {x : Int32} {o : Int} (hd : decode B pc = .ok (.ifCond cd o, 3)) (hc : if_icmp.holds cd x 0 = false) (hp : pc + 3 = pc') (k : Go p e below W (T.setTop (mkF m pc' Ls st))) : Go p e below W (T.setTop (mkF m pc Ls (.int x :: st))) := by
  subst hp; exact k.via fun t k => XS.ifNo X.here K.1 rfl (K.at hd) rfl ((if0 _ _).trans hc) k
theorem own_icmpYes (K : Ctx p s m c Z B own ml) (X : Stand p l e R s m args below meth c T locs cells slots) {cd : ClassFile.Cond} {x y : Int32} {o : Int} (hd : decode B pc = .ok (.if_icmp cd o, 3)) (hc : if_icmp.holds cd x y = true) (ho : 0 ≤ (pc : Int) + o) (hp : ((pc : Int) + o).toNat = pc') (k : Go p e below W (T.setTop (mkF m pc' Ls st))) : Go p e below W (T.setTop (mkF m pc Ls (.int y :: .int x :: st))) :=
  k.via fun t k => XS.icmpYes X.here K.1 rfl rfl (K.at hd) rfl hc ho hp k
theorem own_icmpNo (K : Ctx p s m c Z B own ml) (X : Stand p l e R s m args below meth c T locs cells slots) {cd : ClassFile.Cond} {x y : Int32} {o : Int} (hd : decode B pc = .ok (.if_icmp cd o, 3)) (hc : if_icmp.holds cd x y = false) (hp : pc + 3 = pc') (k : Go p e below W (T.setTop (mkF m pc' Ls st))) : Go p e below W (T.setTop (mkF m pc Ls (.int y :: .int x :: st))) := by
  subst hp; exact k.via fun t k => XS.icmpNo X.here K.1 rfl (K.at hd) rfl hc k
theorem own_acmp (K : Ctx p s m c Z B own ml) (X : Stand p l e R s m args below meth c T locs cells slots) {cd : ACond} {x y : Value} {o : Int} {same : Bool} (hd : decode B pc = .ok (.if_acmp cd o, 3)) (h1 : x.isRef = true) (h2 : y.isRef = true) (hq : decide (x = y) = same) (ho : 0 ≤ (pc : Int) + o) (hp : pc' = if acV cd same = true then ((pc : Int) + o).toNat else pc + 3) (k : Go p e below W (T.setTop (mkF m pc' Ls st))) : Go p e below W (T.setTop (mkF m pc Ls (y :: x :: st))) :=
  k.via fun t k => Jvm.RoadKit.acmp (g := mkF m pc Ls (y :: x :: st)) X K.1 rfl h1 h2 rfl (K.at hd) rfl hq ho hp k
theorem own_getS (K : Ctx p s m c Z B own ml) (X : Stand p l e R s m args below meth c T locs cells slots) {R0 O n d : String} {index : Nat} (eT : T.heap = h) (w : (Jvm.Cond.fieldLink own index R0 n d).before a0 Z = true) (via : Via Z R0 O n d) {v : Value} (F : Sta Z h O n d v) (hd : decode B pc = .ok (.getstatic index, 3)) (hp : pc + 3 = pc')
    (k : ∀ T', Stand p l e R s m args below meth c T' locs cells slots → T'.heap = h → Go p e below W (T'.setTop (mkF m pc' Ls (v :: st)))) : Go p e below W (T.setTop (mkF m pc Ls st)) := by
  subst hp
  obtain ⟨T', X', e', q⟩ := getS X K.1 K.2.2.1 K.2.2.2.1 (host := "") w via eT F (g := mkF m pc Ls st) rfl (K.at hd)
  exact (k T' X' e').via q
theorem own_getSN (K : Ctx p s m c Z B own ml) (X : Stand p l e R s m args below meth c T locs cells slots) {R0 O n d host : String} {index : Nat} (eT : T.heap = h) (w : (Jvm.Cond.fieldLinkNest own index R0 n d host).before a0 Z = true) (via : Via Z R0 O n d) {v : Value} (F : Sta Z h O n d v) (hd : decode B pc = .ok (.getstatic index, 3)) (hp : pc + 3 = pc')
    (k : ∀ T', Stand p l e R s m args below meth c T' locs cells slots → T'.heap = h → Go p e below W (T'.setTop (mkF m pc' Ls (v :: st)))) : Go p e below W (T.setTop (mkF m pc Ls st)) := by
  subst hp
  obtain ⟨T', X', e', q⟩ := getS2 X K.1 K.2.2.1 K.2.2.2.1 (Or.inr w) via eT F (g := mkF m pc Ls st) rfl (K.at hd)
  exact (k T' X' e').via q
theorem own_getF (K : Ctx p s m c Z B own ml) (X : Stand p l e R s m args below meth c T locs cells slots) {R0 O n d : String} {index : Nat} {a : Addr} (eT : T.heap = h) (w : (Jvm.Cond.fieldLink own index R0 n d).before a0 Z = true) (via : Via Z R0 O n d) {v : Value} (F : Fld Z h a O n d v) (hd : decode B pc = .ok (.getfield index, 3)) (hp : pc + 3 = pc')
    (k : ∀ T', Stand p l e R s m args below meth c T' locs cells slots → T'.heap = h → Go p e below W (T'.setTop (mkF m pc' Ls (v :: st)))) : Go p e below W (T.setTop (mkF m pc Ls (.ref a :: st))) := by
  subst hp
  obtain ⟨T', X', e', q⟩ := getF X K.1 K.2.2.1 K.2.2.2.1 (host := "") (Or.inl w) via eT F (g := mkF m pc Ls (.ref a :: st)) rfl rfl (K.at hd)
  exact (k T' X' e').via q
theorem own_putF (K : Ctx p s m c Z B own ml) (X : Stand p l e R s m args below meth c T locs cells slots) {R0 O n d C : String} {index kk : Nat} {ty : FieldType} {a : Addr} {v v' old : Value} (eT : T.heap = h) (w : (Jvm.Cond.fieldLink own index R0 n d).before a0 Z = true) (via : Via Z R0 O n d) (F : Fld Z h a O n d old) (E : Exa Z h a C)
    (L : (Jvm.Cond.lays C O n d).before a0 Z = true ∨ ((Jvm.Cond.laysFinal C O n d).before a0 Z = true ∧ own = O ∧ meth.name = "<init>")) (wi : (Jvm.Cond.instantiable C kk).before a0 Z = true) (hty : parseFieldDescriptor d = some ty) (hn : narrow ty v = v') (hf : fits ty v' = true) (hd : decode B pc = .ok (.putfield index, 3)) (hp : pc + 3 = pc')
    (k : ∀ T' h', Stand p l e R s m args below meth c T' (locs ++ [⟨a, Jvm.RoadKit.slotOf Z O n d⟩]) cells slots → T'.heap = h' → Wr h h' a (Jvm.RoadKit.slotOf Z O n d) v' → Go p e below W (T'.setTop (mkF m pc' Ls st))) : Go p e below W (T.setTop (mkF m pc Ls (v :: .ref a :: st))) := by
  subst hp
  obtain ⟨T', h', X', e', W', q⟩ := putFN X K.1 K.2.2.1 K.2.2.2.1 w via eT F E L wi hty hn hf (g := mkF m pc Ls (v :: .ref a :: st)) rfl rfl (K.at hd)
  exact (k T' h' X' e' W').via q
theorem own_new (K : Ctx p s m c Z B own ml) (X : Stand p l e R s m args below meth c T locs cells slots) {C : String} {index n : Nat} (eT : T.heap = h) (w : (Jvm.Cond.classLink own index C).before a0 Z = true) (wi : (Jvm.Cond.instantiable C n).before a0 Z = true) (wz : (Jvm.Cond.initialized C).before a0 Z = true) (hd : decode B pc = .ok (.new index, 3)) (hc : cells + 1 ≤ R.cells) (hl : slots + n ≤ R.slots) (hp : pc + 3 = pc')
    (k : ∀ T' h' a, Stand p l e R s m args below meth c T' locs (cells + 1) (slots + n) → T'.heap = h' → a = h.size → Ext h h' → Exa Z h' a C → (∀ {O nm d : String} {ty : FieldType}, Laid Z a0 C O nm d → parseFieldDescriptor d = some ty → Fld Z h' a O nm d (defaultValue ty)) → Go p e below W (T'.setTop (mkF m pc' Ls (.ref a :: st)))) : Go p e below W (T.setTop (mkF m pc Ls st)) := by
  subst hp
  obtain ⟨T', h', X', e', E', A', D', -, q⟩ := newO X K.1 K.2.2.1 K.2.2.2.1 w wi wz eT (g := mkF m pc Ls st) rfl (K.at hd) hc hl
  exact (k T' h' _ X' e' rfl E' A' D').via q
theorem own_initO (K : Ctx p s m c Z B own ml) (X : Stand p l e R s m args below meth c T locs cells slots) {idx : Nat} {a : Addr} (eT : T.heap = h) (w1 : (Jvm.Cond.methodLink own idx Lib.objectInit).before a0 Z = true) (w2 : (Jvm.Cond.instanceMethod Lib.objectInit).before a0 Z = true) (w3 : (Jvm.Cond.code Lib.objectInit ⟨#[0xb1]⟩ 1 none).before a0 Z = true)
    (hd : decode B pc = .ok (.invokespecial idx, 3)) (hsz : Ls.size = ml) (hf : 1 ≤ R.frames) (hl : (st.map fun v => v.category).sum + 12 ≤ R.locals) (hp : pc + 3 = pc') (k : ∀ T', Stand p l e R s m args below meth c T' locs cells slots → T'.heap = h → Go p e below W (T'.setTop (mkF m pc' Ls st))) : Go p e below W (T.setTop (mkF m pc Ls (.ref a :: st))) := by
  subst hp
  obtain ⟨T', X', e', q⟩ := initO X K.1 K.2.2.1 K.2.2.2.1 w1 w2 w3 eT (g := mkF m pc Ls (.ref a :: st)) rfl (hsz.trans K.2.2.2.2.symm) rfl (K.at hd) hf (W := (st.map fun v => v.category).sum) (by show 2 * 0 + _ ≤ _; omega) hl
  exact (k T' X' e').via q
theorem own_callS (K : Ctx p s m c Z B own ml) (X : Stand p l e R s m args below meth c T locs cells slots) {y : MethodName} {By : ByteArray} {mly index : Nat} {rty r : Option FieldType} {ps : List FieldType} {rmy : Room} {Q : Option Value → Heap → List Loc → Prop} {argsL rest : List Value} (eT : T.heap = h)
    (w1 : (Jvm.Cond.methodLink own index y).before a0 Z = true) (w2 : (Jvm.Cond.static y).before a0 Z = true) (w3 : (Jvm.Cond.initialized y.cls).before a0 Z = true) (w4 : (Jvm.Cond.code y By mly rty).before a0 Z = true) (hM : Con l y By mly rty [] rmy Z argsL.toArray h Q)
    (hd : decode B pc = .ok (.invokestatic index, 3)) (hpd : parseMethodDescriptor y.desc = some ⟨ps, r⟩) (hlen : argsL.length = ps.length) (hst : st = argsL.reverse ++ rest) (hsz : Ls.size = ml) (hy : y.cls ≠ "java/lang/invoke/MethodHandle" ∧ y.cls ≠ "java/lang/invoke/VarHandle")
    (hf : rmy.frames + 1 ≤ R.frames) (hl : (rest.map fun v => v.category).sum + (mly + 11) + rmy.locals ≤ R.locals) (hc : cells + rmy.cells ≤ R.cells) (hs : slots + rmy.slots ≤ R.slots) (hp : pc + 3 = pc')
    (k : ∀ v T' L, Stand p l e R s m args below meth c T' (locs ++ L) (cells + rmy.cells) (slots + rmy.slots) → Q v T'.heap L → Go p e below W (T'.setTop (mkF m pc' Ls (v.toList ++ rest)))) : Go p e below W (T.setTop (mkF m pc Ls st)) := by
  subst hp hst
  obtain ⟨v, _, ⟨T1, L1, k1, n1⟩, -, X1, ⟨Lc, hQ, l1, y1, z1⟩, q⟩ := Jvm.LawKit.callS X K.1 (y := y) K.2.2.2.1 (mvT K.2.2.1 w1) (mvT K.2.2.1 w2) (mvT K.2.2.1 w3) (mvT K.2.2.1 w4) hy (backOf (W := (rest.map fun v => v.category).sum) hM K.2.2.1 w4 w3 hf hl) (g := mkF m pc Ls (argsL.reverse ++ rest)) rfl (hsz.trans K.2.2.2.2.symm) (argsL := argsL) (rest := rest) (lenOf hpd hlen) rfl (by show 2 * 0 + _ ≤ _; omega) (K.at hd) (fun _ _ => ⟨rfl, eT, hc, hs⟩)
  dsimp only [Pt.U, Pt.locs, Pt.cells, Pt.slots] at X1 l1 y1 z1 q hQ
  subst l1 y1 z1
  exact (k v T1 Lc X1 hQ).via q
theorem own_callV (K : Ctx p s m c Z B own ml) (X : Stand p l e R s m args below meth c T locs cells slots) {y z : MethodName} {C : String} {By : ByteArray} {mly index : Nat} {rty r : Option FieldType} {ps : List FieldType} {rmy : Room} {Q : Option Value → Heap → List Loc → Prop} {argsL rest : List Value} {b : Addr} (eT : T.heap = h)
    (w1 : (Jvm.Cond.methodLink own index y).before a0 Z = true) (w2 : (Jvm.Cond.declares y).before a0 Z = true) (nf : NotFace s y) (w3 : (Jvm.Cond.selects C y z).before a0 Z = true) (w4 : (Jvm.Cond.instanceMethod z).before a0 Z = true) (w5 : (Jvm.Cond.code z By mly rty).before a0 Z = true) (w6 : (Jvm.Cond.initialized z.cls).before a0 Z = true) (E : Exa Z h b C) (hM : Con l z By mly rty [] rmy Z (.ref b :: argsL).toArray h Q)
    (hd : decode B pc = .ok (.invokevirtual index, 3)) (hpd : parseMethodDescriptor y.desc = some ⟨ps, r⟩) (hlen : argsL.length = ps.length) (hst : st = argsL.reverse ++ .ref b :: rest) (hsz : Ls.size = ml) (hy : y.cls ≠ "java/lang/invoke/MethodHandle" ∧ y.cls ≠ "java/lang/invoke/VarHandle")
    (hf : rmy.frames + 1 ≤ R.frames) (hl : (rest.map fun v => v.category).sum + (mly + 11) + rmy.locals ≤ R.locals) (hc : cells + rmy.cells ≤ R.cells) (hs : slots + rmy.slots ≤ R.slots) (hp : pc + 3 = pc')
    (k : ∀ v T' L, Stand p l e R s m args below meth c T' (locs ++ L) (cells + rmy.cells) (slots + rmy.slots) → Q v T'.heap L → Go p e below W (T'.setTop (mkF m pc' Ls (v.toList ++ rest)))) : Go p e below W (T.setTop (mkF m pc Ls st)) := by
  subst hp hst
  obtain ⟨cq, kq, qa, qb, qc⟩ := isOf K.2.2.1 eT E
  obtain ⟨v, _, ⟨T1, L1, k1, n1⟩, -, X1, ⟨Lc, hQ, l1, y1, z1⟩, q⟩ := X.virtualBack K.1 (y := y) (z := z) K.2.2.2.1 (mvT K.2.2.1 w1) (mvT K.2.2.1 w2) nf (mvT K.2.2.1 w3) (mvT K.2.2.1 w4) hy (backOf (W := (rest.map fun v => v.category).sum) hM K.2.2.1 w5 w6 hf hl) qa qc (g := mkF m pc Ls (argsL.reverse ++ .ref b :: rest)) rfl (hsz.trans K.2.2.2.2.symm) (Steps.refl _) (argsL := argsL) (rest := rest) (lenOf hpd hlen) rfl (by show 2 * 0 + _ ≤ _; omega) (K.at hd) (fun _ _ => ⟨rfl, eT, hc, hs⟩)
  dsimp only [Pt.U, Pt.locs, Pt.cells, Pt.slots] at X1 l1 y1 z1 q hQ
  subst l1 y1 z1
  exact (k v T1 Lc X1 hQ).via fun t k => q.trans k
theorem own_callI (K : Ctx p s m c Z B own ml) (X : Stand p l e R s m args below meth c T locs cells slots) {y : MethodName} {By : ByteArray} {mly index : Nat} {r : Option FieldType} {ps : List FieldType} {rmy : Room} {Q : Option Value → Heap → List Loc → Prop} {argsL rest : List Value} {b : Addr} (eT : T.heap = h) (hy1 : y.name = "<init>")
    (w1 : (Jvm.Cond.methodLink own index y).before a0 Z = true) (w4 : (Jvm.Cond.instanceMethod y).before a0 Z = true) (w5 : (Jvm.Cond.code y By mly none).before a0 Z = true) (w6 : (Jvm.Cond.initialized y.cls).before a0 Z = true) (hM : Con l y By mly none [] rmy Z (.ref b :: argsL).toArray h Q)
    (hd : decode B pc = .ok (.invokespecial index, 3)) (hpd : parseMethodDescriptor y.desc = some ⟨ps, r⟩) (hlen : argsL.length = ps.length) (hst : st = argsL.reverse ++ .ref b :: rest) (hsz : Ls.size = ml) (hy : y.cls ≠ "java/lang/invoke/MethodHandle" ∧ y.cls ≠ "java/lang/invoke/VarHandle")
    (hf : rmy.frames + 1 ≤ R.frames) (hl : (rest.map fun v => v.category).sum + (mly + 11) + rmy.locals ≤ R.locals) (hc : cells + rmy.cells ≤ R.cells) (hs : slots + rmy.slots ≤ R.slots) (hp : pc + 3 = pc')
    (k : ∀ v T' L, Stand p l e R s m args below meth c T' (locs ++ L) (cells + rmy.cells) (slots + rmy.slots) → Q v T'.heap L → Go p e below W (T'.setTop (mkF m pc' Ls (v.toList ++ rest)))) : Go p e below W (T.setTop (mkF m pc Ls st)) := by
  subst hp hst
  obtain ⟨v, _, ⟨T1, L1, k1, n1⟩, -, X1, ⟨Lc, hQ, l1, y1, z1⟩, q⟩ := X.specialBack K.1 (y := y) hy1 K.2.2.2.1 (mvT K.2.2.1 w1) (mvT K.2.2.1 w4) (mvT K.2.2.1 w5) hy (backOf (W := (rest.map fun v => v.category).sum) hM K.2.2.1 w5 w6 hf hl) (g := mkF m pc Ls (argsL.reverse ++ .ref b :: rest)) rfl (hsz.trans K.2.2.2.2.symm) (Steps.refl _) (a := b) (argsL := argsL) (rest := rest) (lenOf hpd hlen) rfl (by show 2 * 0 + _ ≤ _; omega) (K.at hd) (fun _ _ => ⟨rfl, eT, hc, hs⟩)
  dsimp only [Pt.U, Pt.locs, Pt.cells, Pt.slots] at X1 l1 y1 z1 q hQ
  subst l1 y1 z1
  exact (k v T1 Lc X1 hQ).via fun t k => q.trans k
theorem own_ret {Q : Option Value → Heap → List Loc → Prop} {g : JFrame} (X : Stand p l e R s m args below meth c T locs cells slots) (hlk : meth.locks = false) {v : Option Value} (hv : meth.sig.returnType = none → v = none)
    (hstep : ∀ fs, (∀ (f : JFrame) (acts : List Action), f.method = m → f.locked = none → f.entered = [] → (doReturn e (T.setTop f) acts v).1 = T.setFrames fs) → Steps p.tables e below (T.setTop g) (T.setFrames fs)) (hc : cells ≤ R.cells) (hs : slots ≤ R.slots) (hq : Q v T.heap locs) : Go p e below (End s R Q) (T.setTop g) := by
  obtain ⟨fs, hr, hrun, hended, hW, hsame⟩ := X.leave hv hlk
  exact ⟨_, _, hstep fs hr, hrun, hended, v, locs, rfl, hq, ⟨_, rfl⟩, hW, hsame.mono hc hs⟩
theorem own_retI {Q : Option Value → Heap → List Loc → Prop} (K : Ctx p s m c Z B own ml) (X : Stand p l e R s m args below meth c T locs cells slots) (hret : meth.sig.returnType = some .int) (hlk : meth.locks = false) {z : Int32} (hd : decode B pc = .ok (.ireturn, 1)) (hc : cells ≤ R.cells) (hs : slots ≤ R.slots) (hq : Q (some (.int z)) T.heap locs) : Go p e below (End s R Q) (T.setTop (mkF m pc Ls (.int z :: st))) :=
  own_ret X hlk (fun h => by rw [hret] at h; cases h) (fun fs hr => retOut X K.1 hret rfl (Or.inl ⟨rfl, Or.inl rfl, _, rfl⟩) (K.at hd) hr) hc hs hq
theorem own_retN {Q : Option Value → Heap → List Loc → Prop} (K : Ctx p s m c Z B own ml) (X : Stand p l e R s m args below meth c T locs cells slots) {t : FieldType} (hret : meth.sig.returnType = some t) (hlk : meth.locks = false) {z z' : Int32} (ht : t = .boolean ∨ t = .byte ∨ t = .char ∨ t = .short) (hz : nar t z = z') (hd : decode B pc = .ok (.ireturn, 1)) (hc : cells ≤ R.cells) (hs : slots ≤ R.slots) (hq : Q (some (.int z')) T.heap locs) : Go p e below (End s R Q) (T.setTop (mkF m pc Ls (.int z :: st))) := by
  subst hz
  exact own_ret X hlk (fun h => by rw [hret] at h; cases h) (fun fs hr => retN X K.1 hret ht (K.at hd) hr) hc hs hq
theorem own_retJ {Q : Option Value → Heap → List Loc → Prop} (K : Ctx p s m c Z B own ml) (X : Stand p l e R s m args below meth c T locs cells slots) (hret : meth.sig.returnType = some .long) (hlk : meth.locks = false) {z : Int64} (hd : decode B pc = .ok (.lreturn, 1)) (hc : cells ≤ R.cells) (hs : slots ≤ R.slots) (hq : Q (some (.long z)) T.heap locs) : Go p e below (End s R Q) (T.setTop (mkF m pc Ls (.long z :: st))) :=
  own_ret X hlk (fun h => by rw [hret] at h; cases h) (fun fs hr => retOut X K.1 hret rfl (Or.inr (Or.inl ⟨rfl, rfl, _, rfl⟩)) (K.at hd) hr) hc hs hq
theorem own_retA {Q : Option Value → Heap → List Loc → Prop} (K : Ctx p s m c Z B own ml) (X : Stand p l e R s m args below meth c T locs cells slots) {t : FieldType} (hret : meth.sig.returnType = some t) (ht : t.isReference = true) (hlk : meth.locks = false) {w : Value} (hw : w.isRef = true) (hd : decode B pc = .ok (.areturn, 1)) (hc : cells ≤ R.cells) (hs : slots ≤ R.slots) (hq : Q (some w) T.heap locs) : Go p e below (End s R Q) (T.setTop (mkF m pc Ls (w :: st))) := by
  have hn : narrow t w = w := by cases t <;> first | (cases ht; done) | (cases w <;> first | rfl | (cases hw; done))
  exact own_ret X hlk (fun h => by rw [hret] at h; cases h) (fun fs hr => retOut X K.1 hret hn (Or.inr (Or.inr (Or.inr (Or.inr ⟨rfl, ht, hw⟩)))) (K.at hd) hr) hc hs hq
theorem own_retV {Q : Option Value → Heap → List Loc → Prop} (K : Ctx p s m c Z B own ml) (X : Stand p l e R s m args below meth c T locs cells slots) (hret : meth.sig.returnType = none) (hlk : meth.locks = false) (hd : decode B pc = .ok (.return_, 1)) (hc : cells ≤ R.cells) (hs : slots ≤ R.slots) (hq : Q none T.heap locs) : Go p e below (End s R Q) (T.setTop (mkF m pc Ls [])) :=
  own_ret X hlk (fun _ => rfl) (fun fs hr => X.returnOut K.1 hret (K.at hd) hr) hc hs hq
end Own

section OwnArr
variable {p : Program} {l : Launch} {e : Env} {R : Room} {s : State} {m : MethodId} {args : Array Value} {below : List Frame} {meth : Method} {c : Code} {T : State} {locs : List Loc} {cells slots : Nat} {Z : State} {a0 : Array Value} {h : Heap} {W : Outcome → State → Prop} {B : ByteArray} {own : String} {ml : Nat} {pc pc' : Nat} {Ls : Array Slot} {st : List Value} {a : Addr} {kc : ClassId} {ty : FieldType} {n j : Int32} {vs : List Value} {dv : Value}
theorem own_iaload (K : Ctx p s m c Z B own ml) (X : Stand p l e R s m args below meth c T locs cells slots) {v : Value} (eT : T.heap = h) (F : Arv Z h a kc .int n vs dv) (hj : ¬ j < 0 ∧ j < n) (hv : vs.getD j.toNatClampNeg dv = v) (hd : decode B pc = .ok (.iaload, 1)) (hp : pc + 1 = pc') (k : Go p e below W (T.setTop (mkF m pc' Ls (v :: st)))) : Go p e below W (T.setTop (mkF m pc Ls (.int j :: .ref a :: st))) := by
  subst hp
  obtain ⟨cl, A, q1, S, q3, H, G⟩ := F
  exact k.via fun t k => X.iaload K.1 (j := j) (v := v) (by rw [eT]; exact A.1) (State.isArrayOf_alike K.2.2.1.alike A.2.1) A.2.2 (inb_of S hj) (H.at (inb_of S hj) hv) (g := mkF m pc Ls (.int j :: .ref a :: st)) rfl rfl (K.at hd) t k
theorem own_laload (K : Ctx p s m c Z B own ml) (X : Stand p l e R s m args below meth c T locs cells slots) {v : Value} (eT : T.heap = h) (F : Arv Z h a kc .long n vs dv) (hj : ¬ j < 0 ∧ j < n) (hv : vs.getD j.toNatClampNeg dv = v) (hd : decode B pc = .ok (.laload, 1)) (hp : pc + 1 = pc') (k : Go p e below W (T.setTop (mkF m pc' Ls (v :: st)))) : Go p e below W (T.setTop (mkF m pc Ls (.int j :: .ref a :: st))) := by
  subst hp
  obtain ⟨cl, A, q1, S, q3, H, G⟩ := F
  exact k.via fun t k => X.laload K.1 (j := j) (v := v) (by rw [eT]; exact A.1) (State.isArrayOf_alike K.2.2.1.alike A.2.1) A.2.2 (inb_of S hj) (H.at (inb_of S hj) hv) (g := mkF m pc Ls (.int j :: .ref a :: st)) rfl rfl (K.at hd) t k
theorem own_baload (K : Ctx p s m c Z B own ml) (X : Stand p l e R s m args below meth c T locs cells slots) {v : Value} (eT : T.heap = h) (F : Arv Z h a kc .byte n vs dv) (hj : ¬ j < 0 ∧ j < n) (hv : vs.getD j.toNatClampNeg dv = v) (hd : decode B pc = .ok (.baload, 1)) (hp : pc + 1 = pc') (k : Go p e below W (T.setTop (mkF m pc' Ls (v :: st)))) : Go p e below W (T.setTop (mkF m pc Ls (.int j :: .ref a :: st))) := by
  subst hp
  obtain ⟨cl, A, q1, S, q3, H, G⟩ := F
  exact k.via fun t k => X.baloadBytes K.1 (j := j) (v := v) (by rw [eT]; exact A.1) (State.isArrayOf_alike K.2.2.1.alike A.2.1) A.2.2 (inb_of S hj) (H.at (inb_of S hj) hv) (g := mkF m pc Ls (.int j :: .ref a :: st)) rfl rfl (K.at hd) t k
theorem own_zaload (K : Ctx p s m c Z B own ml) (X : Stand p l e R s m args below meth c T locs cells slots) {v : Value} (eT : T.heap = h) (F : Arv Z h a kc .boolean n vs dv) (hj : ¬ j < 0 ∧ j < n) (hv : vs.getD j.toNatClampNeg dv = v) (hd : decode B pc = .ok (.baload, 1)) (hp : pc + 1 = pc') (k : Go p e below W (T.setTop (mkF m pc' Ls (v :: st)))) : Go p e below W (T.setTop (mkF m pc Ls (.int j :: .ref a :: st))) := by
  subst hp
  obtain ⟨cl, A, q1, S, q3, H, G⟩ := F
  exact k.via fun t k => X.baloadBooleans K.1 (j := j) (v := v) (by rw [eT]; exact A.1) (State.isArrayOf_alike K.2.2.1.alike A.2.1) A.2.2 (inb_of S hj) (H.at (inb_of S hj) hv) (g := mkF m pc Ls (.int j :: .ref a :: st)) rfl rfl (K.at hd) t k
theorem own_caload (K : Ctx p s m c Z B own ml) (X : Stand p l e R s m args below meth c T locs cells slots) {v : Value} (eT : T.heap = h) (F : Arv Z h a kc .char n vs dv) (hj : ¬ j < 0 ∧ j < n) (hv : vs.getD j.toNatClampNeg dv = v) (hd : decode B pc = .ok (.caload, 1)) (hp : pc + 1 = pc') (k : Go p e below W (T.setTop (mkF m pc' Ls (v :: st)))) : Go p e below W (T.setTop (mkF m pc Ls (.int j :: .ref a :: st))) := by
  subst hp
  obtain ⟨cl, A, q1, S, q3, H, G⟩ := F
  exact k.via fun t k => X.caload K.1 (j := j) (v := v) (by rw [eT]; exact A.1) (State.isArrayOf_alike K.2.2.1.alike A.2.1) A.2.2 (inb_of S hj) (H.at (inb_of S hj) hv) (g := mkF m pc Ls (.int j :: .ref a :: st)) rfl rfl (K.at hd) t k
theorem own_aaload (K : Ctx p s m c Z B own ml) (X : Stand p l e R s m args below meth c T locs cells slots) {v : Value} (eT : T.heap = h) (F : Arv Z h a kc ty n vs dv) (hr : ty.isReference = true) (hj : ¬ j < 0 ∧ j < n) (hv : vs.getD j.toNatClampNeg dv = v) (hd : decode B pc = .ok (.aaload, 1)) (hp : pc + 1 = pc') (k : Go p e below W (T.setTop (mkF m pc' Ls (v :: st)))) : Go p e below W (T.setTop (mkF m pc Ls (.int j :: .ref a :: st))) := by
  subst hp
  obtain ⟨cl, A, q1, S, q3, H, G⟩ := F
  exact k.via fun t k => X.aaload K.1 (j := j) (v := v) (by rw [eT]; exact A.1) (State.isArrayOf_alike K.2.2.1.alike A.2.1) hr A.2.2 (inb_of S hj) (H.at (inb_of S hj) hv) (g := mkF m pc Ls (.int j :: .ref a :: st)) rfl rfl (K.at hd) t k
theorem own_alen (K : Ctx p s m c Z B own ml) (X : Stand p l e R s m args below meth c T locs cells slots) (eT : T.heap = h) (F : Arv Z h a kc ty n vs dv) (hd : decode B pc = .ok (.arraylength, 1)) (hp : pc + 1 = pc') (k : Go p e below W (T.setTop (mkF m pc' Ls (.int n :: st)))) : Go p e below W (T.setTop (mkF m pc Ls (.ref a :: st))) := by
  subst hp
  obtain ⟨cl, A, q1, S, q3, H, G⟩ := F
  refine k.via fun t k => X.arraylength K.1 (by rw [eT]; exact A.1) (State.isArrayOf_alike K.2.2.1.alike A.2.1) (g := mkF m pc Ls (.ref a :: st)) rfl rfl (K.at hd) t ?_
  rw [len_of S q3]
  exact k
theorem own_iastore (K : Ctx p s m c Z B own ml) (X : Stand p l e R s m args below meth c T locs cells slots) {x : Int32} {i : Nat} {vs' : List Value} (eT : T.heap = h) (F : Arv Z h a kc .int n vs dv) (hj : ¬ j < 0 ∧ j < n) (hi : j.toNatClampNeg = i) (hl : i < vs.length) (hvs : vs.set i (.int x) = vs') (hd : decode B pc = .ok (.iastore, 1)) (hp : pc + 1 = pc')
    (k : ∀ T' h', Stand p l e R s m args below meth c T' (locs ++ [⟨a, j.toNatClampNeg⟩]) cells slots → T'.heap = h' → Wr h h' a j.toNatClampNeg (.int x) → Arv Z h' a kc .int n vs' dv → Go p e below W (T'.setTop (mkF m pc' Ls st))) : Go p e below W (T.setTop (mkF m pc Ls (.int x :: .int j :: .ref a :: st))) := by
  subst hp hvs
  obtain ⟨cl, A, q1, S, q3, H, G⟩ := F
  obtain ⟨T', h', X', e', W', q⟩ := stI X K.1 K.2.2.1 eT A (inb_of S hj) (g := mkF m pc Ls (.int x :: .int j :: .ref a :: st)) rfl rfl (K.at hd)
  exact (k T' h' X' e' W' (Arv.set A q1 S q3 H G rfl W' i hi hl)).via q
theorem own_lastore (K : Ctx p s m c Z B own ml) (X : Stand p l e R s m args below meth c T locs cells slots) {x : Int64} {i : Nat} {vs' : List Value} (eT : T.heap = h) (F : Arv Z h a kc .long n vs dv) (hj : ¬ j < 0 ∧ j < n) (hi : j.toNatClampNeg = i) (hl : i < vs.length) (hvs : vs.set i (.long x) = vs') (hd : decode B pc = .ok (.lastore, 1)) (hp : pc + 1 = pc')
    (k : ∀ T' h', Stand p l e R s m args below meth c T' (locs ++ [⟨a, j.toNatClampNeg⟩]) cells slots → T'.heap = h' → Wr h h' a j.toNatClampNeg (.long x) → Arv Z h' a kc .long n vs' dv → Go p e below W (T'.setTop (mkF m pc' Ls st))) : Go p e below W (T.setTop (mkF m pc Ls (.long x :: .int j :: .ref a :: st))) := by
  subst hp hvs
  obtain ⟨cl, A, q1, S, q3, H, G⟩ := F
  obtain ⟨T', h', X', e', W', q⟩ := stJ X K.1 K.2.2.1 eT A (inb_of S hj) (g := mkF m pc Ls (.long x :: .int j :: .ref a :: st)) rfl rfl (K.at hd)
  exact (k T' h' X' e' W' (Arv.set A q1 S q3 H G rfl W' i hi hl)).via q
theorem own_bastore (K : Ctx p s m c Z B own ml) (X : Stand p l e R s m args below meth c T locs cells slots) {x : Int32} {i : Nat} {vs' : List Value} (eT : T.heap = h) (F : Arv Z h a kc .byte n vs dv) (hj : ¬ j < 0 ∧ j < n) (hi : j.toNatClampNeg = i) (hl : i < vs.length) (hvs : vs.set i (.int (nar .byte x)) = vs') (hd : decode B pc = .ok (.bastore, 1)) (hp : pc + 1 = pc')
    (k : ∀ T' h', Stand p l e R s m args below meth c T' (locs ++ [⟨a, j.toNatClampNeg⟩]) cells slots → T'.heap = h' → Wr h h' a j.toNatClampNeg (.int (nar .byte x)) → Arv Z h' a kc .byte n vs' dv → Go p e below W (T'.setTop (mkF m pc' Ls st))) : Go p e below W (T.setTop (mkF m pc Ls (.int x :: .int j :: .ref a :: st))) := by
  subst hp hvs
  obtain ⟨cl, A, q1, S, q3, H, G⟩ := F
  obtain ⟨T', h', X', e', W', q⟩ := stB X K.1 K.2.2.1 eT A (inb_of S hj) (g := mkF m pc Ls (.int x :: .int j :: .ref a :: st)) rfl rfl (K.at hd)
  exact (k T' h' X' e' W' (Arv.set A q1 S q3 H G (fits_nar_byte x) W' i hi hl)).via q
theorem own_zastore (K : Ctx p s m c Z B own ml) (X : Stand p l e R s m args below meth c T locs cells slots) {x : Int32} {i : Nat} {vs' : List Value} (eT : T.heap = h) (F : Arv Z h a kc .boolean n vs dv) (hj : ¬ j < 0 ∧ j < n) (hi : j.toNatClampNeg = i) (hl : i < vs.length) (hvs : vs.set i (.int (nar .boolean x)) = vs') (hd : decode B pc = .ok (.bastore, 1)) (hp : pc + 1 = pc')
    (k : ∀ T' h', Stand p l e R s m args below meth c T' (locs ++ [⟨a, j.toNatClampNeg⟩]) cells slots → T'.heap = h' → Wr h h' a j.toNatClampNeg (.int (nar .boolean x)) → Arv Z h' a kc .boolean n vs' dv → Go p e below W (T'.setTop (mkF m pc' Ls st))) : Go p e below W (T.setTop (mkF m pc Ls (.int x :: .int j :: .ref a :: st))) := by
  subst hp hvs
  obtain ⟨cl, A, q1, S, q3, H, G⟩ := F
  obtain ⟨T', h', X', e', W', q⟩ := stZ X K.1 K.2.2.1 eT A (inb_of S hj) (g := mkF m pc Ls (.int x :: .int j :: .ref a :: st)) rfl rfl (K.at hd)
  exact (k T' h' X' e' W' (Arv.set A q1 S q3 H G (fits_nar_bool x) W' i hi hl)).via q
theorem own_aastore (K : Ctx p s m c Z B own ml) (X : Stand p l e R s m args below meth c T locs cells slots) {x : Value} {i : Nat} {vs' : List Value} (eT : T.heap = h) (F : Arv Z h a kc ty n vs dv) (hr : ty.isReference = true) (hf : fits ty x = true) (O : Sto Z h a x) (hj : ¬ j < 0 ∧ j < n) (hi : j.toNatClampNeg = i) (hl : i < vs.length) (hvs : vs.set i x = vs') (hd : decode B pc = .ok (.aastore, 1)) (hp : pc + 1 = pc')
    (k : ∀ T' h', Stand p l e R s m args below meth c T' (locs ++ [⟨a, j.toNatClampNeg⟩]) cells slots → T'.heap = h' → Wr h h' a j.toNatClampNeg x → Arv Z h' a kc ty n vs' dv → Go p e below W (T'.setTop (mkF m pc' Ls st))) : Go p e below W (T.setTop (mkF m pc Ls (x :: .int j :: .ref a :: st))) := by
  subst hp hvs
  obtain ⟨cl, A, q1, S, q3, H, G⟩ := F
  obtain ⟨T', h', X', e', W', q⟩ := stR X K.1 K.2.2.1 eT A (inb_of S hj) hr O (g := mkF m pc Ls (x :: .int j :: .ref a :: st)) rfl rfl (K.at hd)
  exact (k T' h' X' e' W' (Arv.set A q1 S q3 H G hf W' i hi hl)).via q
theorem own_newP (K : Ctx p s m c Z B own ml) (X : Stand p l e R s m args below meth c T locs cells slots) {aty : ArrayType} {cap N : Nat} (eT : T.heap = h) (w : (Jvm.Cond.arrayClass (newarray.typeOf aty)).before a0 Z = true) (hn : ¬ n < 0) (hcap : n.toNatClampNeg ≤ cap) (hb : cap * 8 ≤ 536870912) (hc : cells + 1 ≤ R.cells) (hl : slots + cap ≤ R.slots) (hd : decode B pc = .ok (.newarray aty, 2)) (hp : pc + 2 = pc')
    (k : ∀ T' h' b kA, Stand p l e R s m args below meth c T' locs (cells + 1) (slots + cap) → T'.heap = h' → b = h.size → Ext h h' → Arv Z h' b kA (newarray.typeOf aty) n (List.replicate N (defaultValue (newarray.typeOf aty))) (defaultValue (newarray.typeOf aty)) → Go p e below W (T'.setTop (mkF m pc' Ls (.ref b :: st)))) : Go p e below W (T.setTop (mkF m pc Ls (.int n :: st))) := by
  subst hp
  obtain ⟨T', h', kA, X', e', E', A', q⟩ := newP X K.1 K.2.2.1 w eT (g := mkF m pc Ls (.int n :: st)) rfl (K.at hd) rfl hn hcap hb hc hl
  exact (k T' h' _ kA X' e' rfl E' ((Arv.new A' hn).pad (pad_rep [] _ N))).via q
theorem own_newR (K : Ctx p s m c Z B own ml) (X : Stand p l e R s m args below meth c T locs cells slots) {C : String} {index cap N : Nat} (eT : T.heap = h) (w1 : (Jvm.Cond.classLink own index C).before a0 Z = true) (w2 : (Jvm.Cond.arrayOver (.object C)).before a0 Z = true) (hn : ¬ n < 0) (hcap : n.toNatClampNeg ≤ cap) (hb : cap * 8 ≤ 536870912) (hc : cells + 1 ≤ R.cells) (hl : slots + cap ≤ R.slots) (hd : decode B pc = .ok (.anewarray index, 3)) (hp : pc + 3 = pc')
    (k : ∀ T' h' b kA, Stand p l e R s m args below meth c T' locs (cells + 1) (slots + cap) → T'.heap = h' → b = h.size → Ext h h' → Arv Z h' b kA (.object C) n (List.replicate N .null) .null → Ovr Z kA C → Go p e below W (T'.setTop (mkF m pc' Ls (.ref b :: st)))) : Go p e below W (T.setTop (mkF m pc Ls (.int n :: st))) := by
  subst hp
  obtain ⟨T', h', kA, X', e', E', A', O', q⟩ := newR X K.1 K.2.2.1 K.2.2.2.1 w1 w2 eT (g := mkF m pc Ls (.int n :: st)) rfl (K.at hd) rfl hn hcap hb hc hl
  exact (k T' h' _ kA X' e' rfl E' ((Arv.new A' hn).pad (pad_rep [] _ N)) O').via q
theorem own_clone (K : Ctx p s m c Z B own ml) (X : Stand p l e R s m args below meth c T locs cells slots) {ad : String} {index cap : Nat} (eT : T.heap = h) (w1 : (Jvm.Cond.methodLink own index ⟨ad, "clone", "()Ljava/lang/Object;"⟩).before a0 Z = true) (w2 : (Jvm.Cond.sameMethod ad "java/lang/Object" "clone" "()Ljava/lang/Object;").before a0 Z = true) (w3 : (Jvm.Cond.native ⟨"java/lang/Object", "clone", "()Ljava/lang/Object;"⟩).before a0 Z = true) (w4 : (Jvm.Cond.instanceMethod ⟨"java/lang/Object", "clone", "()Ljava/lang/Object;"⟩).before a0 Z = true) (w5 : (Jvm.Cond.selects ad ⟨ad, "clone", "()Ljava/lang/Object;"⟩ ⟨"java/lang/Object", "clone", "()Ljava/lang/Object;"⟩).before a0 Z = true) (w6 : (Jvm.Cond.castable ad "java/lang/Cloneable").before a0 Z = true)
    (F : Arv Z h a kc ty n vs dv) (E : Exa Z h a ad) (hd : decode B pc = .ok (.invokevirtual index, 3)) (hsz : Ls.size = ml) (hf : 1 ≤ R.frames) (hl : (st.map fun v => v.category).sum + 14 ≤ R.locals) (hcap : n.toNatClampNeg ≤ cap) (hc : cells + 1 ≤ R.cells) (hsl : slots + cap ≤ R.slots) (hp : pc + 3 = pc')
    (k : ∀ T' h' b, Stand p l e R s m args below meth c T' locs (cells + 1) (slots + cap) → T'.heap = h' → b = h.size → Ext h h' → Arv Z h' b kc ty n vs dv → Exa Z h' b ad → Go p e below W (T'.setTop (mkF m pc' Ls (.ref b :: st)))) : Go p e below W (T.setTop (mkF m pc Ls (.ref a :: st))) := by
  subst hp
  obtain ⟨T', h', X', e', E', A', O', q⟩ := cloneH X K.1 K.2.2.1 K.2.2.2.1 w1 w2 w3 w4 w5 w6 eT F.arh E (g := mkF m pc Ls (.ref a :: st)) rfl (hsz.trans K.2.2.2.2.symm) rfl (K.at hd) hf (W := (st.map fun v => v.category).sum) (by show 2 * 0 + _ ≤ _; omega) hl hcap hc hsl
  exact (k T' h' _ X' e' rfl E' A' O').via q
theorem own_cast (K : Ctx p s m c Z B own ml) (X : Stand p l e R s m args below meth c T locs cells slots) {C : String} {index : Nat} (eT : T.heap = h) (w : (Jvm.Cond.classLink own index C).before a0 Z = true) (F : Ins Z h a C true) (hd : decode B pc = .ok (.checkcast index, 3)) (hp : pc + 3 = pc') (k : ∀ T', Stand p l e R s m args below meth c T' locs cells slots → T'.heap = h → Go p e below W (T'.setTop (mkF m pc' Ls (.ref a :: st)))) : Go p e below W (T.setTop (mkF m pc Ls (.ref a :: st))) := by
  subst hp
  obtain ⟨T', X', e', q⟩ := castY X K.1 K.2.2.1 K.2.2.2.1 w eT F (g := mkF m pc Ls (.ref a :: st)) rfl rfl (K.at hd)
  exact (k T' X' e').via q
end OwnArr
theorem own_fld {s : State} {args : Array Value} {t : Term} {w : Addr} {C n d : String} {k : Int32} (ev : t.eval args s none [] s = some (.ref w)) (h : (Jvm.Cond.eq (Term.field t C n d) (Term.int k)).value args s none s [] = some true) : Fld s s.heap w C n d (.int k) := by
  obtain ⟨x, y, h1, h2, hk, -⟩ := cmp_v (Or.inl h)
  have h3 : y = .int k := (Option.some.inj ((Term.int_eval k).symm.trans h2)).symm
  subst h3
  have h4 := Fld.start ((fld_at ev).symm.trans h1)
  cases x with
  | int z =>
    have h5 : z = k := by simpa [Cond.value, h1, h2] using h
    subst h5; exact h4
  | _ => simp [Cond.value, h1, h2] at h
theorem own_nat {i : Nat} (h : i < 2147483648) : (Int32.ofNat i).toNatClampNeg = i := Int32.toNatClampNeg_ofNat_of_lt h
theorem own_nn {i : Nat} (h : i < 2147483648) : ¬ Int32.ofNat i < 0 := XT.nlt32 (a := i) (b := 0) h (Nat.zero_le _)
theorem own_rng (p : Int32) : ∃ j : Nat, j < 19 ∧ (p &&& (2147483647 : Int32)) % (19 : Int32) = Int32.ofNat j := by
  have h1 := c_and p 2147483647 (by decide)
  have h2 := (c_irem (p &&& 2147483647) 19 19 (by decide)).1 h1.1
  refine ⟨((p &&& 2147483647) % 19).toInt.toNat, by omega, ?_⟩
  rw [← Int32.toInt_inj, Int32.toInt_ofNat_of_lt (by omega)]
  omega
theorem d1_0 : decode prog_12_method_5_code 0 = .ok (.aload_n 0, 1) := by decide +kernel
theorem d1_1 : decode prog_12_method_5_code 1 = .ok (.getfield 86, 3) := by decide +kernel
theorem d1_4 : decode prog_12_method_5_code 4 = .ok (.iconst (-1), 1) := by decide +kernel
theorem d1_5 : decode prog_12_method_5_code 5 = .ok (.if_icmp .eq 7, 3) := by decide +kernel
theorem d1_8 : decode prog_12_method_5_code 8 = .ok (.iconst 1, 1) := by decide +kernel
theorem d1_9 : decode prog_12_method_5_code 9 = .ok (.goto 4, 3) := by decide +kernel
theorem d1_12 : decode prog_12_method_5_code 12 = .ok (.iconst 0, 1) := by decide +kernel
theorem d1_13 : decode prog_12_method_5_code 13 = .ok (.ireturn, 1) := by decide +kernel
theorem pd_0 : parseMethodDescriptor "()Z" = some ⟨[], some .boolean⟩ := by decide +kernel
set_option maxRecDepth 65536 in
set_option maxHeartbeats 40000000 in
theorem rmN (l : Launch) (Z : State) (a0 : Array Value) (hw : ∀ d ∈ tables_1, d.before a0 Z = true) (ws : List Jvm.Cond) (a1 : Addr) (hd r : Int32) (h0 : Heap) (n0 : Nat) (F1 : Fld Z h0 a1 "com/example/anteroom/anteroom/io/Frame$Type" "header" "I" (.int hd)) (hr : r = if hd = (-1) then 0 else 1) :
    Con l (⟨"com/example/anteroom/anteroom/io/Frame$Type", "namesPath", "()Z"⟩ : MethodName) prog_12_method_5_code 1 (some .boolean) ws ({ frames := 0, cells := 0, slots := 0, locals := 0 } : Room) Z #[(.ref a1)] h0 (fun v h L => v = some (.int r) ∧ Fr n0 L ∧ h = h0) := by
  refine own_enter (Ls := #[.val (.ref a1)]) (by first | (simp [plainFor, plainName, overriddenIn]; done) | decide +kernel) (fun m => by first | (simp [entryFrame, mkF, argsToLocals, Value.category, maxLocals]; done) | rfl) fun p e s m below meth c T0 K X0 e0 hrt hlk hnm => ?_
  have N0 := Fr.nil n0
  have KB0 := Keep.refl h0 []
  refine own_aloadN (pc' := 1) K X0 d1_0 rfl rfl rfl ?_
  refine own_getF (pc' := 4) K X0 e0 (own_w hw 49 rfl) Via.refl F1 d1_1 rfl fun T1 X1 e1 => ?_
  refine own_iconst (v := (-1 : Int32)) (pc' := 5) K X1 d1_4 rfl rfl ?_
  by_cases q1 : hd = (-1 : Int32)
  · refine own_icmpYes (pc' := 12) K X1 d1_5 (teq q1).1 (by decide) (by decide) ?_
    refine own_iconst (v := (0 : Int32)) (pc' := 13) K X1 d1_12 rfl rfl ?_
    exact own_retN (t := .boolean) (z' := (0 : Int32)) K X1 hrt hlk (by simp) rfl d1_13 (own_le rfl) (own_le rfl) (by (try rw [e1]); exact ⟨by rw [hr, if_pos q1], N0, rfl⟩)
  · refine own_icmpNo (pc' := 8) K X1 d1_5 (feq q1).1 rfl ?_
    refine own_iconst (v := (1 : Int32)) (pc' := 9) K X1 d1_8 rfl rfl ?_
    refine own_goto (pc' := 13) K X1 d1_9 (by decide) (by decide) ?_
    exact own_retN (t := .boolean) (z' := (1 : Int32)) K X1 hrt hlk (by simp) rfl d1_13 (own_le rfl) (own_le rfl) (by (try rw [e1]); exact ⟨by rw [hr, if_neg q1], N0, rfl⟩)
set_option maxRecDepth 65536 in
set_option maxHeartbeats 40000000 in
theorem rm0 (l : Launch) (Z : State) (a0 : Array Value) (hw : ∀ d ∈ tables_1, d.before a0 Z = true) (ws : List Jvm.Cond) (p1 : Int32) (w_STAT w_FETCH w_PUBLISH w_LIST w_REMOVE w_MKDIR w_RENAME w_SETSTAT w_HOLD w_REVOKED w_STATUS w_ATTRIBUTES w_DATA w_UNCHANGED w_READY w_ENTRY w_DONE w_HOLDER w_REVOKE : Addr) (h0 : Heap) (n0 : Nat) (Z0 : n0 ≤ h0.size) (S_STAT : Sta Z h0 "com/example/anteroom/anteroom/io/Frame$Type" "STAT" "Lcom/example/anteroom/anteroom/io/Frame$Type;" (.ref w_STAT)) (S_FETCH : Sta Z h0 "com/example/anteroom/anteroom/io/Frame$Type" "FETCH" "Lcom/example/anteroom/anteroom/io/Frame$Type;" (.ref w_FETCH)) (S_PUBLISH : Sta Z h0 "com/example/anteroom/anteroom/io/Frame$Type" "PUBLISH" "Lcom/example/anteroom/anteroom/io/Frame$Type;" (.ref w_PUBLISH)) (S_LIST : Sta Z h0 "com/example/anteroom/anteroom/io/Frame$Type" "LIST" "Lcom/example/anteroom/anteroom/io/Frame$Type;" (.ref w_LIST)) (S_REMOVE : Sta Z h0 "com/example/anteroom/anteroom/io/Frame$Type" "REMOVE" "Lcom/example/anteroom/anteroom/io/Frame$Type;" (.ref w_REMOVE)) (S_MKDIR : Sta Z h0 "com/example/anteroom/anteroom/io/Frame$Type" "MKDIR" "Lcom/example/anteroom/anteroom/io/Frame$Type;" (.ref w_MKDIR)) (S_RENAME : Sta Z h0 "com/example/anteroom/anteroom/io/Frame$Type" "RENAME" "Lcom/example/anteroom/anteroom/io/Frame$Type;" (.ref w_RENAME)) (S_SETSTAT : Sta Z h0 "com/example/anteroom/anteroom/io/Frame$Type" "SETSTAT" "Lcom/example/anteroom/anteroom/io/Frame$Type;" (.ref w_SETSTAT)) (S_HOLD : Sta Z h0 "com/example/anteroom/anteroom/io/Frame$Type" "HOLD" "Lcom/example/anteroom/anteroom/io/Frame$Type;" (.ref w_HOLD)) (S_REVOKED : Sta Z h0 "com/example/anteroom/anteroom/io/Frame$Type" "REVOKED" "Lcom/example/anteroom/anteroom/io/Frame$Type;" (.ref w_REVOKED)) (S_STATUS : Sta Z h0 "com/example/anteroom/anteroom/io/Frame$Type" "STATUS" "Lcom/example/anteroom/anteroom/io/Frame$Type;" (.ref w_STATUS)) (S_ATTRIBUTES : Sta Z h0 "com/example/anteroom/anteroom/io/Frame$Type" "ATTRIBUTES" "Lcom/example/anteroom/anteroom/io/Frame$Type;" (.ref w_ATTRIBUTES)) (S_DATA : Sta Z h0 "com/example/anteroom/anteroom/io/Frame$Type" "DATA" "Lcom/example/anteroom/anteroom/io/Frame$Type;" (.ref w_DATA)) (S_UNCHANGED : Sta Z h0 "com/example/anteroom/anteroom/io/Frame$Type" "UNCHANGED" "Lcom/example/anteroom/anteroom/io/Frame$Type;" (.ref w_UNCHANGED)) (S_READY : Sta Z h0 "com/example/anteroom/anteroom/io/Frame$Type" "READY" "Lcom/example/anteroom/anteroom/io/Frame$Type;" (.ref w_READY)) (S_ENTRY : Sta Z h0 "com/example/anteroom/anteroom/io/Frame$Type" "ENTRY" "Lcom/example/anteroom/anteroom/io/Frame$Type;" (.ref w_ENTRY)) (S_DONE : Sta Z h0 "com/example/anteroom/anteroom/io/Frame$Type" "DONE" "Lcom/example/anteroom/anteroom/io/Frame$Type;" (.ref w_DONE)) (S_HOLDER : Sta Z h0 "com/example/anteroom/anteroom/io/Frame$Type" "HOLDER" "Lcom/example/anteroom/anteroom/io/Frame$Type;" (.ref w_HOLDER)) (S_REVOKE : Sta Z h0 "com/example/anteroom/anteroom/io/Frame$Type" "REVOKE" "Lcom/example/anteroom/anteroom/io/Frame$Type;" (.ref w_REVOKE)) (E_STAT : Exa Z h0 w_STAT "com/example/anteroom/anteroom/io/Frame$Type") (E_FETCH : Exa Z h0 w_FETCH "com/example/anteroom/anteroom/io/Frame$Type") (E_PUBLISH : Exa Z h0 w_PUBLISH "com/example/anteroom/anteroom/io/Frame$Type") (E_LIST : Exa Z h0 w_LIST "com/example/anteroom/anteroom/io/Frame$Type") (E_REMOVE : Exa Z h0 w_REMOVE "com/example/anteroom/anteroom/io/Frame$Type") (E_MKDIR : Exa Z h0 w_MKDIR "com/example/anteroom/anteroom/io/Frame$Type") (E_RENAME : Exa Z h0 w_RENAME "com/example/anteroom/anteroom/io/Frame$Type") (E_SETSTAT : Exa Z h0 w_SETSTAT "com/example/anteroom/anteroom/io/Frame$Type") (E_HOLD : Exa Z h0 w_HOLD "com/example/anteroom/anteroom/io/Frame$Type") (E_REVOKED : Exa Z h0 w_REVOKED "com/example/anteroom/anteroom/io/Frame$Type") (E_STATUS : Exa Z h0 w_STATUS "com/example/anteroom/anteroom/io/Frame$Type") (E_ATTRIBUTES : Exa Z h0 w_ATTRIBUTES "com/example/anteroom/anteroom/io/Frame$Type") (E_DATA : Exa Z h0 w_DATA "com/example/anteroom/anteroom/io/Frame$Type") (E_UNCHANGED : Exa Z h0 w_UNCHANGED "com/example/anteroom/anteroom/io/Frame$Type") (E_READY : Exa Z h0 w_READY "com/example/anteroom/anteroom/io/Frame$Type") (E_ENTRY : Exa Z h0 w_ENTRY "com/example/anteroom/anteroom/io/Frame$Type") (E_DONE : Exa Z h0 w_DONE "com/example/anteroom/anteroom/io/Frame$Type") (E_HOLDER : Exa Z h0 w_HOLDER "com/example/anteroom/anteroom/io/Frame$Type") (E_REVOKE : Exa Z h0 w_REVOKE "com/example/anteroom/anteroom/io/Frame$Type") (F_STAT : Fld Z h0 w_STAT "com/example/anteroom/anteroom/io/Frame$Type" "header" "I" (.int (0 : Int32))) (F_FETCH : Fld Z h0 w_FETCH "com/example/anteroom/anteroom/io/Frame$Type" "header" "I" (.int (8 : Int32))) (F_PUBLISH : Fld Z h0 w_PUBLISH "com/example/anteroom/anteroom/io/Frame$Type" "header" "I" (.int (37 : Int32))) (F_LIST : Fld Z h0 w_LIST "com/example/anteroom/anteroom/io/Frame$Type" "header" "I" (.int (0 : Int32))) (F_REMOVE : Fld Z h0 w_REMOVE "com/example/anteroom/anteroom/io/Frame$Type" "header" "I" (.int (1 : Int32))) (F_MKDIR : Fld Z h0 w_MKDIR "com/example/anteroom/anteroom/io/Frame$Type" "header" "I" (.int (27 : Int32))) (F_RENAME : Fld Z h0 w_RENAME "com/example/anteroom/anteroom/io/Frame$Type" "header" "I" (.int (5 : Int32))) (F_SETSTAT : Fld Z h0 w_SETSTAT "com/example/anteroom/anteroom/io/Frame$Type" "header" "I" (.int (27 : Int32))) (F_HOLD : Fld Z h0 w_HOLD "com/example/anteroom/anteroom/io/Frame$Type" "header" "I" (.int (-1 : Int32))) (F_REVOKED : Fld Z h0 w_REVOKED "com/example/anteroom/anteroom/io/Frame$Type" "header" "I" (.int (0 : Int32))) (F_STATUS : Fld Z h0 w_STATUS "com/example/anteroom/anteroom/io/Frame$Type" "header" "I" (.int (-1 : Int32))) (F_ATTRIBUTES : Fld Z h0 w_ATTRIBUTES "com/example/anteroom/anteroom/io/Frame$Type" "header" "I" (.int (-1 : Int32))) (F_DATA : Fld Z h0 w_DATA "com/example/anteroom/anteroom/io/Frame$Type" "header" "I" (.int (-1 : Int32))) (F_UNCHANGED : Fld Z h0 w_UNCHANGED "com/example/anteroom/anteroom/io/Frame$Type" "header" "I" (.int (-1 : Int32))) (F_READY : Fld Z h0 w_READY "com/example/anteroom/anteroom/io/Frame$Type" "header" "I" (.int (-1 : Int32))) (F_ENTRY : Fld Z h0 w_ENTRY "com/example/anteroom/anteroom/io/Frame$Type" "header" "I" (.int (-1 : Int32))) (F_DONE : Fld Z h0 w_DONE "com/example/anteroom/anteroom/io/Frame$Type" "header" "I" (.int (-1 : Int32))) (F_HOLDER : Fld Z h0 w_HOLDER "com/example/anteroom/anteroom/io/Frame$Type" "header" "I" (.int (-1 : Int32))) (F_REVOKE : Fld Z h0 w_REVOKE "com/example/anteroom/anteroom/io/Frame$Type" "header" "I" (.int (0 : Int32))) :
    Con l x code maxLocals ret ws room_1 Z #[(.int p1)] h0 (fun v h L => v = some (.int 1) ∧ Fr n0 L) := by
  refine own_enter (Ls := #[.val (.int p1), .unset, .unset, .unset]) (by first | (simp [plainFor, plainName, overriddenIn]; done) | decide +kernel) (fun m => by first | (simp [entryFrame, mkF, argsToLocals, Value.category, maxLocals]; done) | rfl) fun p e s m below meth c T0 K X0 e0 hrt hlk hnm => ?_
  have N0 := Fr.nil n0
  have KB0 := Keep.refl h0 []
  refine own_bipush (v := (19 : Int32)) (pc' := 2) K X0 at_0 rfl rfl ?_
  refine own_newR (pc' := 5) (cap := 19) (N := 19) K X0 e0 (own_w hw 0 rfl) (own_w hw 1 rfl) (by decide) (by decide) (by decide) (own_le rfl) (own_le rfl) at_2 rfl fun T1 h1 b1 k1 X1 e1 g1 E1 V1 O1 => ?_
  have sz1 : h0.size ≤ b1 := Nat.le_trans KB0.1 (Nat.le_of_eq g1.symm)
  have ge1 : n0 ≤ b1 := Nat.le_trans Z0 sz1
  have KB3 := KB0.ext E1
  have V1_ : Arv Z h1 b1 k1 (.object "com/example/anteroom/anteroom/io/Frame$Type") (19 : Int32) [.null, .null, .null, .null, .null, .null, .null, .null, .null, .null, .null, .null, .null, .null, .null, .null, .null, .null, .null] .null := V1
  show Go p e below _ (T1.setTop (mkF m 5 #[.val (.int p1), .unset, .unset, .unset] [(.ref b1)]))
  refine own_dup (pc' := 6) K X1 at_5 rfl rfl ?_
  refine own_iconst (v := (0 : Int32)) (pc' := 7) K X1 at_6 rfl rfl ?_
  refine own_getS (pc' := 10) K X1 e1 (own_w hw 2 rfl) Via.refl (own_sta_keep S_STAT KB3) at_7 rfl fun T4 X4 e4 => ?_
  refine own_aastore (pc' := 11) (i := 0) (vs' := [(.ref w_STAT), .null, .null, .null, .null, .null, .null, .null, .null, .null, .null, .null, .null, .null, .null, .null, .null, .null, .null]) K X4 e4 V1_ rfl rfl (own_sto V1_ O1 (Ins.self (E_STAT.keep KB3))) (by decide) rfl (own_le rfl) rfl at_10 rfl fun T5 h5 X5 e5 W5 V5 => ?_
  have N5 := Fr.snoc X5 N0 ge1
  have KB7 := KB3.wr W5 (Or.inr sz1)
  refine own_dup (pc' := 12) K X5 at_11 rfl rfl ?_
  refine own_iconst (v := (1 : Int32)) (pc' := 13) K X5 at_12 rfl rfl ?_
  refine own_getS (pc' := 16) K X5 e5 (own_w hw 6 rfl) Via.refl (own_sta_keep S_FETCH KB7) at_13 rfl fun T8 X8 e8 => ?_
  refine own_aastore (pc' := 17) (i := 1) (vs' := [(.ref w_STAT), (.ref w_FETCH), .null, .null, .null, .null, .null, .null, .null, .null, .null, .null, .null, .null, .null, .null, .null, .null, .null]) K X8 e8 V5 rfl rfl (own_sto V5 O1 (Ins.self (E_FETCH.keep KB7))) (by decide) rfl (own_le rfl) rfl at_16 rfl fun T9 h9 X9 e9 W9 V9 => ?_
  have N9 := Fr.snoc X9 N5 ge1
  have KB11 := KB7.wr W9 (Or.inr sz1)
  refine own_dup (pc' := 18) K X9 at_17 rfl rfl ?_
  refine own_iconst (v := (2 : Int32)) (pc' := 19) K X9 at_18 rfl rfl ?_
  refine own_getS (pc' := 22) K X9 e9 (own_w hw 8 rfl) Via.refl (own_sta_keep S_PUBLISH KB11) at_19 rfl fun T12 X12 e12 => ?_
  refine own_aastore (pc' := 23) (i := 2) (vs' := [(.ref w_STAT), (.ref w_FETCH), (.ref w_PUBLISH), .null, .null, .null, .null, .null, .null, .null, .null, .null, .null, .null, .null, .null, .null, .null, .null]) K X12 e12 V9 rfl rfl (own_sto V9 O1 (Ins.self (E_PUBLISH.keep KB11))) (by decide) rfl (own_le rfl) rfl at_22 rfl fun T13 h13 X13 e13 W13 V13 => ?_
  have N13 := Fr.snoc X13 N9 ge1
  have KB15 := KB11.wr W13 (Or.inr sz1)
  refine own_dup (pc' := 24) K X13 at_23 rfl rfl ?_
  refine own_iconst (v := (3 : Int32)) (pc' := 25) K X13 at_24 rfl rfl ?_
  refine own_getS (pc' := 28) K X13 e13 (own_w hw 10 rfl) Via.refl (own_sta_keep S_LIST KB15) at_25 rfl fun T16 X16 e16 => ?_
  refine own_aastore (pc' := 29) (i := 3) (vs' := [(.ref w_STAT), (.ref w_FETCH), (.ref w_PUBLISH), (.ref w_LIST), .null, .null, .null, .null, .null, .null, .null, .null, .null, .null, .null, .null, .null, .null, .null]) K X16 e16 V13 rfl rfl (own_sto V13 O1 (Ins.self (E_LIST.keep KB15))) (by decide) rfl (own_le rfl) rfl at_28 rfl fun T17 h17 X17 e17 W17 V17 => ?_
  have N17 := Fr.snoc X17 N13 ge1
  have KB19 := KB15.wr W17 (Or.inr sz1)
  refine own_dup (pc' := 30) K X17 at_29 rfl rfl ?_
  refine own_iconst (v := (4 : Int32)) (pc' := 31) K X17 at_30 rfl rfl ?_
  refine own_getS (pc' := 34) K X17 e17 (own_w hw 12 rfl) Via.refl (own_sta_keep S_REMOVE KB19) at_31 rfl fun T20 X20 e20 => ?_
  refine own_aastore (pc' := 35) (i := 4) (vs' := [(.ref w_STAT), (.ref w_FETCH), (.ref w_PUBLISH), (.ref w_LIST), (.ref w_REMOVE), .null, .null, .null, .null, .null, .null, .null, .null, .null, .null, .null, .null, .null, .null]) K X20 e20 V17 rfl rfl (own_sto V17 O1 (Ins.self (E_REMOVE.keep KB19))) (by decide) rfl (own_le rfl) rfl at_34 rfl fun T21 h21 X21 e21 W21 V21 => ?_
  have N21 := Fr.snoc X21 N17 ge1
  have KB23 := KB19.wr W21 (Or.inr sz1)
  refine own_dup (pc' := 36) K X21 at_35 rfl rfl ?_
  refine own_iconst (v := (5 : Int32)) (pc' := 37) K X21 at_36 rfl rfl ?_
  refine own_getS (pc' := 40) K X21 e21 (own_w hw 14 rfl) Via.refl (own_sta_keep S_MKDIR KB23) at_37 rfl fun T24 X24 e24 => ?_
  refine own_aastore (pc' := 41) (i := 5) (vs' := [(.ref w_STAT), (.ref w_FETCH), (.ref w_PUBLISH), (.ref w_LIST), (.ref w_REMOVE), (.ref w_MKDIR), .null, .null, .null, .null, .null, .null, .null, .null, .null, .null, .null, .null, .null]) K X24 e24 V21 rfl rfl (own_sto V21 O1 (Ins.self (E_MKDIR.keep KB23))) (by decide) rfl (own_le rfl) rfl at_40 rfl fun T25 h25 X25 e25 W25 V25 => ?_
  have N25 := Fr.snoc X25 N21 ge1
  have KB27 := KB23.wr W25 (Or.inr sz1)
  refine own_dup (pc' := 42) K X25 at_41 rfl rfl ?_
  refine own_bipush (v := (6 : Int32)) (pc' := 44) K X25 at_42 rfl rfl ?_
  refine own_getS (pc' := 47) K X25 e25 (own_w hw 16 rfl) Via.refl (own_sta_keep S_RENAME KB27) at_44 rfl fun T28 X28 e28 => ?_
  refine own_aastore (pc' := 48) (i := 6) (vs' := [(.ref w_STAT), (.ref w_FETCH), (.ref w_PUBLISH), (.ref w_LIST), (.ref w_REMOVE), (.ref w_MKDIR), (.ref w_RENAME), .null, .null, .null, .null, .null, .null, .null, .null, .null, .null, .null, .null]) K X28 e28 V25 rfl rfl (own_sto V25 O1 (Ins.self (E_RENAME.keep KB27))) (by decide) rfl (own_le rfl) rfl at_47 rfl fun T29 h29 X29 e29 W29 V29 => ?_
  have N29 := Fr.snoc X29 N25 ge1
  have KB31 := KB27.wr W29 (Or.inr sz1)
  refine own_dup (pc' := 49) K X29 at_48 rfl rfl ?_
  refine own_bipush (v := (7 : Int32)) (pc' := 51) K X29 at_49 rfl rfl ?_
  refine own_getS (pc' := 54) K X29 e29 (own_w hw 18 rfl) Via.refl (own_sta_keep S_SETSTAT KB31) at_51 rfl fun T32 X32 e32 => ?_
  refine own_aastore (pc' := 55) (i := 7) (vs' := [(.ref w_STAT), (.ref w_FETCH), (.ref w_PUBLISH), (.ref w_LIST), (.ref w_REMOVE), (.ref w_MKDIR), (.ref w_RENAME), (.ref w_SETSTAT), .null, .null, .null, .null, .null, .null, .null, .null, .null, .null, .null]) K X32 e32 V29 rfl rfl (own_sto V29 O1 (Ins.self (E_SETSTAT.keep KB31))) (by decide) rfl (own_le rfl) rfl at_54 rfl fun T33 h33 X33 e33 W33 V33 => ?_
  have N33 := Fr.snoc X33 N29 ge1
  have KB35 := KB31.wr W33 (Or.inr sz1)
  refine own_dup (pc' := 56) K X33 at_55 rfl rfl ?_
  refine own_bipush (v := (8 : Int32)) (pc' := 58) K X33 at_56 rfl rfl ?_
  refine own_getS (pc' := 61) K X33 e33 (own_w hw 20 rfl) Via.refl (own_sta_keep S_HOLD KB35) at_58 rfl fun T36 X36 e36 => ?_
  refine own_aastore (pc' := 62) (i := 8) (vs' := [(.ref w_STAT), (.ref w_FETCH), (.ref w_PUBLISH), (.ref w_LIST), (.ref w_REMOVE), (.ref w_MKDIR), (.ref w_RENAME), (.ref w_SETSTAT), (.ref w_HOLD), .null, .null, .null, .null, .null, .null, .null, .null, .null, .null]) K X36 e36 V33 rfl rfl (own_sto V33 O1 (Ins.self (E_HOLD.keep KB35))) (by decide) rfl (own_le rfl) rfl at_61 rfl fun T37 h37 X37 e37 W37 V37 => ?_
  have N37 := Fr.snoc X37 N33 ge1
  have KB39 := KB35.wr W37 (Or.inr sz1)
  refine own_dup (pc' := 63) K X37 at_62 rfl rfl ?_
  refine own_bipush (v := (9 : Int32)) (pc' := 65) K X37 at_63 rfl rfl ?_
  refine own_getS (pc' := 68) K X37 e37 (own_w hw 22 rfl) Via.refl (own_sta_keep S_REVOKED KB39) at_65 rfl fun T40 X40 e40 => ?_
  refine own_aastore (pc' := 69) (i := 9) (vs' := [(.ref w_STAT), (.ref w_FETCH), (.ref w_PUBLISH), (.ref w_LIST), (.ref w_REMOVE), (.ref w_MKDIR), (.ref w_RENAME), (.ref w_SETSTAT), (.ref w_HOLD), (.ref w_REVOKED), .null, .null, .null, .null, .null, .null, .null, .null, .null]) K X40 e40 V37 rfl rfl (own_sto V37 O1 (Ins.self (E_REVOKED.keep KB39))) (by decide) rfl (own_le rfl) rfl at_68 rfl fun T41 h41 X41 e41 W41 V41 => ?_
  have N41 := Fr.snoc X41 N37 ge1
  have KB43 := KB39.wr W41 (Or.inr sz1)
  refine own_dup (pc' := 70) K X41 at_69 rfl rfl ?_
  refine own_bipush (v := (10 : Int32)) (pc' := 72) K X41 at_70 rfl rfl ?_
  refine own_getS (pc' := 75) K X41 e41 (own_w hw 24 rfl) Via.refl (own_sta_keep S_STATUS KB43) at_72 rfl fun T44 X44 e44 => ?_
  refine own_aastore (pc' := 76) (i := 10) (vs' := [(.ref w_STAT), (.ref w_FETCH), (.ref w_PUBLISH), (.ref w_LIST), (.ref w_REMOVE), (.ref w_MKDIR), (.ref w_RENAME), (.ref w_SETSTAT), (.ref w_HOLD), (.ref w_REVOKED), (.ref w_STATUS), .null, .null, .null, .null, .null, .null, .null, .null]) K X44 e44 V41 rfl rfl (own_sto V41 O1 (Ins.self (E_STATUS.keep KB43))) (by decide) rfl (own_le rfl) rfl at_75 rfl fun T45 h45 X45 e45 W45 V45 => ?_
  have N45 := Fr.snoc X45 N41 ge1
  have KB47 := KB43.wr W45 (Or.inr sz1)
  refine own_dup (pc' := 77) K X45 at_76 rfl rfl ?_
  refine own_bipush (v := (11 : Int32)) (pc' := 79) K X45 at_77 rfl rfl ?_
  refine own_getS (pc' := 82) K X45 e45 (own_w hw 26 rfl) Via.refl (own_sta_keep S_ATTRIBUTES KB47) at_79 rfl fun T48 X48 e48 => ?_
  refine own_aastore (pc' := 83) (i := 11) (vs' := [(.ref w_STAT), (.ref w_FETCH), (.ref w_PUBLISH), (.ref w_LIST), (.ref w_REMOVE), (.ref w_MKDIR), (.ref w_RENAME), (.ref w_SETSTAT), (.ref w_HOLD), (.ref w_REVOKED), (.ref w_STATUS), (.ref w_ATTRIBUTES), .null, .null, .null, .null, .null, .null, .null]) K X48 e48 V45 rfl rfl (own_sto V45 O1 (Ins.self (E_ATTRIBUTES.keep KB47))) (by decide) rfl (own_le rfl) rfl at_82 rfl fun T49 h49 X49 e49 W49 V49 => ?_
  have N49 := Fr.snoc X49 N45 ge1
  have KB51 := KB47.wr W49 (Or.inr sz1)
  refine own_dup (pc' := 84) K X49 at_83 rfl rfl ?_
  refine own_bipush (v := (12 : Int32)) (pc' := 86) K X49 at_84 rfl rfl ?_
  refine own_getS (pc' := 89) K X49 e49 (own_w hw 28 rfl) Via.refl (own_sta_keep S_DATA KB51) at_86 rfl fun T52 X52 e52 => ?_
  refine own_aastore (pc' := 90) (i := 12) (vs' := [(.ref w_STAT), (.ref w_FETCH), (.ref w_PUBLISH), (.ref w_LIST), (.ref w_REMOVE), (.ref w_MKDIR), (.ref w_RENAME), (.ref w_SETSTAT), (.ref w_HOLD), (.ref w_REVOKED), (.ref w_STATUS), (.ref w_ATTRIBUTES), (.ref w_DATA), .null, .null, .null, .null, .null, .null]) K X52 e52 V49 rfl rfl (own_sto V49 O1 (Ins.self (E_DATA.keep KB51))) (by decide) rfl (own_le rfl) rfl at_89 rfl fun T53 h53 X53 e53 W53 V53 => ?_
  have N53 := Fr.snoc X53 N49 ge1
  have KB55 := KB51.wr W53 (Or.inr sz1)
  refine own_dup (pc' := 91) K X53 at_90 rfl rfl ?_
  refine own_bipush (v := (13 : Int32)) (pc' := 93) K X53 at_91 rfl rfl ?_
  refine own_getS (pc' := 96) K X53 e53 (own_w hw 30 rfl) Via.refl (own_sta_keep S_UNCHANGED KB55) at_93 rfl fun T56 X56 e56 => ?_
  refine own_aastore (pc' := 97) (i := 13) (vs' := [(.ref w_STAT), (.ref w_FETCH), (.ref w_PUBLISH), (.ref w_LIST), (.ref w_REMOVE), (.ref w_MKDIR), (.ref w_RENAME), (.ref w_SETSTAT), (.ref w_HOLD), (.ref w_REVOKED), (.ref w_STATUS), (.ref w_ATTRIBUTES), (.ref w_DATA), (.ref w_UNCHANGED), .null, .null, .null, .null, .null]) K X56 e56 V53 rfl rfl (own_sto V53 O1 (Ins.self (E_UNCHANGED.keep KB55))) (by decide) rfl (own_le rfl) rfl at_96 rfl fun T57 h57 X57 e57 W57 V57 => ?_
  have N57 := Fr.snoc X57 N53 ge1
  have KB59 := KB55.wr W57 (Or.inr sz1)
  refine own_dup (pc' := 98) K X57 at_97 rfl rfl ?_
  refine own_bipush (v := (14 : Int32)) (pc' := 100) K X57 at_98 rfl rfl ?_
  refine own_getS (pc' := 103) K X57 e57 (own_w hw 32 rfl) Via.refl (own_sta_keep S_READY KB59) at_100 rfl fun T60 X60 e60 => ?_
  refine own_aastore (pc' := 104) (i := 14) (vs' := [(.ref w_STAT), (.ref w_FETCH), (.ref w_PUBLISH), (.ref w_LIST), (.ref w_REMOVE), (.ref w_MKDIR), (.ref w_RENAME), (.ref w_SETSTAT), (.ref w_HOLD), (.ref w_REVOKED), (.ref w_STATUS), (.ref w_ATTRIBUTES), (.ref w_DATA), (.ref w_UNCHANGED), (.ref w_READY), .null, .null, .null, .null]) K X60 e60 V57 rfl rfl (own_sto V57 O1 (Ins.self (E_READY.keep KB59))) (by decide) rfl (own_le rfl) rfl at_103 rfl fun T61 h61 X61 e61 W61 V61 => ?_
  have N61 := Fr.snoc X61 N57 ge1
  have KB63 := KB59.wr W61 (Or.inr sz1)
  refine own_dup (pc' := 105) K X61 at_104 rfl rfl ?_
  refine own_bipush (v := (15 : Int32)) (pc' := 107) K X61 at_105 rfl rfl ?_
  refine own_getS (pc' := 110) K X61 e61 (own_w hw 34 rfl) Via.refl (own_sta_keep S_ENTRY KB63) at_107 rfl fun T64 X64 e64 => ?_
  refine own_aastore (pc' := 111) (i := 15) (vs' := [(.ref w_STAT), (.ref w_FETCH), (.ref w_PUBLISH), (.ref w_LIST), (.ref w_REMOVE), (.ref w_MKDIR), (.ref w_RENAME), (.ref w_SETSTAT), (.ref w_HOLD), (.ref w_REVOKED), (.ref w_STATUS), (.ref w_ATTRIBUTES), (.ref w_DATA), (.ref w_UNCHANGED), (.ref w_READY), (.ref w_ENTRY), .null, .null, .null]) K X64 e64 V61 rfl rfl (own_sto V61 O1 (Ins.self (E_ENTRY.keep KB63))) (by decide) rfl (own_le rfl) rfl at_110 rfl fun T65 h65 X65 e65 W65 V65 => ?_
  have N65 := Fr.snoc X65 N61 ge1
  have KB67 := KB63.wr W65 (Or.inr sz1)
  refine own_dup (pc' := 112) K X65 at_111 rfl rfl ?_
  refine own_bipush (v := (16 : Int32)) (pc' := 114) K X65 at_112 rfl rfl ?_
  refine own_getS (pc' := 117) K X65 e65 (own_w hw 36 rfl) Via.refl (own_sta_keep S_DONE KB67) at_114 rfl fun T68 X68 e68 => ?_
  refine own_aastore (pc' := 118) (i := 16) (vs' := [(.ref w_STAT), (.ref w_FETCH), (.ref w_PUBLISH), (.ref w_LIST), (.ref w_REMOVE), (.ref w_MKDIR), (.ref w_RENAME), (.ref w_SETSTAT), (.ref w_HOLD), (.ref w_REVOKED), (.ref w_STATUS), (.ref w_ATTRIBUTES), (.ref w_DATA), (.ref w_UNCHANGED), (.ref w_READY), (.ref w_ENTRY), (.ref w_DONE), .null, .null]) K X68 e68 V65 rfl rfl (own_sto V65 O1 (Ins.self (E_DONE.keep KB67))) (by decide) rfl (own_le rfl) rfl at_117 rfl fun T69 h69 X69 e69 W69 V69 => ?_
  have N69 := Fr.snoc X69 N65 ge1
  have KB71 := KB67.wr W69 (Or.inr sz1)
  refine own_dup (pc' := 119) K X69 at_118 rfl rfl ?_
  refine own_bipush (v := (17 : Int32)) (pc' := 121) K X69 at_119 rfl rfl ?_
  refine own_getS (pc' := 124) K X69 e69 (own_w hw 38 rfl) Via.refl (own_sta_keep S_HOLDER KB71) at_121 rfl fun T72 X72 e72 => ?_
  refine own_aastore (pc' := 125) (i := 17) (vs' := [(.ref w_STAT), (.ref w_FETCH), (.ref w_PUBLISH), (.ref w_LIST), (.ref w_REMOVE), (.ref w_MKDIR), (.ref w_RENAME), (.ref w_SETSTAT), (.ref w_HOLD), (.ref w_REVOKED), (.ref w_STATUS), (.ref w_ATTRIBUTES), (.ref w_DATA), (.ref w_UNCHANGED), (.ref w_READY), (.ref w_ENTRY), (.ref w_DONE), (.ref w_HOLDER), .null]) K X72 e72 V69 rfl rfl (own_sto V69 O1 (Ins.self (E_HOLDER.keep KB71))) (by decide) rfl (own_le rfl) rfl at_124 rfl fun T73 h73 X73 e73 W73 V73 => ?_
  have N73 := Fr.snoc X73 N69 ge1
  have KB75 := KB71.wr W73 (Or.inr sz1)
  refine own_dup (pc' := 126) K X73 at_125 rfl rfl ?_
  refine own_bipush (v := (18 : Int32)) (pc' := 128) K X73 at_126 rfl rfl ?_
  refine own_getS (pc' := 131) K X73 e73 (own_w hw 40 rfl) Via.refl (own_sta_keep S_REVOKE KB75) at_128 rfl fun T76 X76 e76 => ?_
  refine own_aastore (pc' := 132) (i := 18) (vs' := [(.ref w_STAT), (.ref w_FETCH), (.ref w_PUBLISH), (.ref w_LIST), (.ref w_REMOVE), (.ref w_MKDIR), (.ref w_RENAME), (.ref w_SETSTAT), (.ref w_HOLD), (.ref w_REVOKED), (.ref w_STATUS), (.ref w_ATTRIBUTES), (.ref w_DATA), (.ref w_UNCHANGED), (.ref w_READY), (.ref w_ENTRY), (.ref w_DONE), (.ref w_HOLDER), (.ref w_REVOKE)]) K X76 e76 V73 rfl rfl (own_sto V73 O1 (Ins.self (E_REVOKE.keep KB75))) (by decide) rfl (own_le rfl) rfl at_131 rfl fun T77 h77 X77 e77 W77 V77 => ?_
  have N77 := Fr.snoc X77 N73 ge1
  have KB79 := KB75.wr W77 (Or.inr sz1)
  refine own_astoreN (l' := #[.val (.int p1), .val (.ref b1), .unset, .unset]) (pc' := 133) K X77 at_132 rfl rfl rfl ?_
  refine own_bipush (v := (19 : Int32)) (pc' := 135) K X77 at_133 rfl rfl ?_
  refine own_newP (pc' := 137) (cap := 19) (N := 19) K X77 e77 (own_w hw 42 rfl) (by decide) (by decide) (by decide) (own_le rfl) (own_le rfl) at_135 rfl fun T80 h80 b80 k80 X80 e80 g80 E80 V80 => ?_
  have sz80 : h0.size ≤ b80 := Nat.le_trans KB79.1 (Nat.le_of_eq g80.symm)
  have ge80 : n0 ≤ b80 := Nat.le_trans Z0 sz80
  have lt_b1_b80 : @LT.lt Nat _ b1 b80 := g80 ▸ V77.lt
  have V_b1_81 := V77.ext E80
  have KB82 := KB79.ext E80
  have V80_ : Arv Z h80 b80 k80 .boolean (19 : Int32) [(.int (0 : Int32)), (.int (0 : Int32)), (.int (0 : Int32)), (.int (0 : Int32)), (.int (0 : Int32)), (.int (0 : Int32)), (.int (0 : Int32)), (.int (0 : Int32)), (.int (0 : Int32)), (.int (0 : Int32)), (.int (0 : Int32)), (.int (0 : Int32)), (.int (0 : Int32)), (.int (0 : Int32)), (.int (0 : Int32)), (.int (0 : Int32)), (.int (0 : Int32)), (.int (0 : Int32)), (.int (0 : Int32))] (.int (0 : Int32)) := V80
  show Go p e below _ (T80.setTop (mkF m 137 #[.val (.int p1), .val (.ref b1), .unset, .unset] [(.ref b80)]))
  refine own_dup (pc' := 138) K X80 at_137 rfl rfl ?_
  refine own_iconst (v := (0 : Int32)) (pc' := 139) K X80 at_138 rfl rfl ?_
  refine own_iconst (v := (1 : Int32)) (pc' := 140) K X80 at_139 rfl rfl ?_
  refine own_zastore (pc' := 141) (i := 0) (vs' := [(.int (1 : Int32)), (.int (0 : Int32)), (.int (0 : Int32)), (.int (0 : Int32)), (.int (0 : Int32)), (.int (0 : Int32)), (.int (0 : Int32)), (.int (0 : Int32)), (.int (0 : Int32)), (.int (0 : Int32)), (.int (0 : Int32)), (.int (0 : Int32)), (.int (0 : Int32)), (.int (0 : Int32)), (.int (0 : Int32)), (.int (0 : Int32)), (.int (0 : Int32)), (.int (0 : Int32)), (.int (0 : Int32))]) K X80 e80 V80_ (by decide) rfl (own_le rfl) rfl at_140 rfl fun T83 h83 X83 e83 W83 V83 => ?_
  have N83 := Fr.snoc X83 N77 ge80
  have V_b1_84 := V_b1_81.other W83 (Nat.ne_of_lt lt_b1_b80)
  have KB85 := KB82.wr W83 (Or.inr sz80)
  refine own_dup (pc' := 142) K X83 at_141 rfl rfl ?_
  refine own_iconst (v := (1 : Int32)) (pc' := 143) K X83 at_142 rfl rfl ?_
  refine own_iconst (v := (1 : Int32)) (pc' := 144) K X83 at_143 rfl rfl ?_
  refine own_zastore (pc' := 145) (i := 1) (vs' := [(.int (1 : Int32)), (.int (1 : Int32)), (.int (0 : Int32)), (.int (0 : Int32)), (.int (0 : Int32)), (.int (0 : Int32)), (.int (0 : Int32)), (.int (0 : Int32)), (.int (0 : Int32)), (.int (0 : Int32)), (.int (0 : Int32)), (.int (0 : Int32)), (.int (0 : Int32)), (.int (0 : Int32)), (.int (0 : Int32)), (.int (0 : Int32)), (.int (0 : Int32)), (.int (0 : Int32)), (.int (0 : Int32))]) K X83 e83 V83 (by decide) rfl (own_le rfl) rfl at_144 rfl fun T86 h86 X86 e86 W86 V86 => ?_
  have N86 := Fr.snoc X86 N83 ge80
  have V_b1_87 := V_b1_84.other W86 (Nat.ne_of_lt lt_b1_b80)
  have KB88 := KB85.wr W86 (Or.inr sz80)
  refine own_dup (pc' := 146) K X86 at_145 rfl rfl ?_
  refine own_iconst (v := (2 : Int32)) (pc' := 147) K X86 at_146 rfl rfl ?_
  refine own_iconst (v := (1 : Int32)) (pc' := 148) K X86 at_147 rfl rfl ?_
  refine own_zastore (pc' := 149) (i := 2) (vs' := [(.int (1 : Int32)), (.int (1 : Int32)), (.int (1 : Int32)), (.int (0 : Int32)), (.int (0 : Int32)), (.int (0 : Int32)), (.int (0 : Int32)), (.int (0 : Int32)), (.int (0 : Int32)), (.int (0 : Int32)), (.int (0 : Int32)), (.int (0 : Int32)), (.int (0 : Int32)), (.int (0 : Int32)), (.int (0 : Int32)), (.int (0 : Int32)), (.int (0 : Int32)), (.int (0 : Int32)), (.int (0 : Int32))]) K X86 e86 V86 (by decide) rfl (own_le rfl) rfl at_148 rfl fun T89 h89 X89 e89 W89 V89 => ?_
  have N89 := Fr.snoc X89 N86 ge80
  have V_b1_90 := V_b1_87.other W89 (Nat.ne_of_lt lt_b1_b80)
  have KB91 := KB88.wr W89 (Or.inr sz80)
  refine own_dup (pc' := 150) K X89 at_149 rfl rfl ?_
  refine own_iconst (v := (3 : Int32)) (pc' := 151) K X89 at_150 rfl rfl ?_
  refine own_iconst (v := (1 : Int32)) (pc' := 152) K X89 at_151 rfl rfl ?_
  refine own_zastore (pc' := 153) (i := 3) (vs' := [(.int (1 : Int32)), (.int (1 : Int32)), (.int (1 : Int32)), (.int (1 : Int32)), (.int (0 : Int32)), (.int (0 : Int32)), (.int (0 : Int32)), (.int (0 : Int32)), (.int (0 : Int32)), (.int (0 : Int32)), (.int (0 : Int32)), (.int (0 : Int32)), (.int (0 : Int32)), (.int (0 : Int32)), (.int (0 : Int32)), (.int (0 : Int32)), (.int (0 : Int32)), (.int (0 : Int32)), (.int (0 : Int32))]) K X89 e89 V89 (by decide) rfl (own_le rfl) rfl at_152 rfl fun T92 h92 X92 e92 W92 V92 => ?_
  have N92 := Fr.snoc X92 N89 ge80
  have V_b1_93 := V_b1_90.other W92 (Nat.ne_of_lt lt_b1_b80)
  have KB94 := KB91.wr W92 (Or.inr sz80)
  refine own_dup (pc' := 154) K X92 at_153 rfl rfl ?_
  refine own_iconst (v := (4 : Int32)) (pc' := 155) K X92 at_154 rfl rfl ?_
  refine own_iconst (v := (1 : Int32)) (pc' := 156) K X92 at_155 rfl rfl ?_
  refine own_zastore (pc' := 157) (i := 4) (vs' := [(.int (1 : Int32)), (.int (1 : Int32)), (.int (1 : Int32)), (.int (1 : Int32)), (.int (1 : Int32)), (.int (0 : Int32)), (.int (0 : Int32)), (.int (0 : Int32)), (.int (0 : Int32)), (.int (0 : Int32)), (.int (0 : Int32)), (.int (0 : Int32)), (.int (0 : Int32)), (.int (0 : Int32)), (.int (0 : Int32)), (.int (0 : Int32)), (.int (0 : Int32)), (.int (0 : Int32)), (.int (0 : Int32))]) K X92 e92 V92 (by decide) rfl (own_le rfl) rfl at_156 rfl fun T95 h95 X95 e95 W95 V95 => ?_
  have N95 := Fr.snoc X95 N92 ge80
  have V_b1_96 := V_b1_93.other W95 (Nat.ne_of_lt lt_b1_b80)
  have KB97 := KB94.wr W95 (Or.inr sz80)
  refine own_dup (pc' := 158) K X95 at_157 rfl rfl ?_
  refine own_iconst (v := (5 : Int32)) (pc' := 159) K X95 at_158 rfl rfl ?_
  refine own_iconst (v := (1 : Int32)) (pc' := 160) K X95 at_159 rfl rfl ?_
  refine own_zastore (pc' := 161) (i := 5) (vs' := [(.int (1 : Int32)), (.int (1 : Int32)), (.int (1 : Int32)), (.int (1 : Int32)), (.int (1 : Int32)), (.int (1 : Int32)), (.int (0 : Int32)), (.int (0 : Int32)), (.int (0 : Int32)), (.int (0 : Int32)), (.int (0 : Int32)), (.int (0 : Int32)), (.int (0 : Int32)), (.int (0 : Int32)), (.int (0 : Int32)), (.int (0 : Int32)), (.int (0 : Int32)), (.int (0 : Int32)), (.int (0 : Int32))]) K X95 e95 V95 (by decide) rfl (own_le rfl) rfl at_160 rfl fun T98 h98 X98 e98 W98 V98 => ?_
  have N98 := Fr.snoc X98 N95 ge80
  have V_b1_99 := V_b1_96.other W98 (Nat.ne_of_lt lt_b1_b80)
  have KB100 := KB97.wr W98 (Or.inr sz80)
  refine own_dup (pc' := 162) K X98 at_161 rfl rfl ?_
  refine own_bipush (v := (6 : Int32)) (pc' := 164) K X98 at_162 rfl rfl ?_
  refine own_iconst (v := (1 : Int32)) (pc' := 165) K X98 at_164 rfl rfl ?_
  refine own_zastore (pc' := 166) (i := 6) (vs' := [(.int (1 : Int32)), (.int (1 : Int32)), (.int (1 : Int32)), (.int (1 : Int32)), (.int (1 : Int32)), (.int (1 : Int32)), (.int (1 : Int32)), (.int (0 : Int32)), (.int (0 : Int32)), (.int (0 : Int32)), (.int (0 : Int32)), (.int (0 : Int32)), (.int (0 : Int32)), (.int (0 : Int32)), (.int (0 : Int32)), (.int (0 : Int32)), (.int (0 : Int32)), (.int (0 : Int32)), (.int (0 : Int32))]) K X98 e98 V98 (by decide) rfl (own_le rfl) rfl at_165 rfl fun T101 h101 X101 e101 W101 V101 => ?_
  have N101 := Fr.snoc X101 N98 ge80
  have V_b1_102 := V_b1_99.other W101 (Nat.ne_of_lt lt_b1_b80)
  have KB103 := KB100.wr W101 (Or.inr sz80)
  refine own_dup (pc' := 167) K X101 at_166 rfl rfl ?_
  refine own_bipush (v := (7 : Int32)) (pc' := 169) K X101 at_167 rfl rfl ?_
  refine own_iconst (v := (1 : Int32)) (pc' := 170) K X101 at_169 rfl rfl ?_
  refine own_zastore (pc' := 171) (i := 7) (vs' := [(.int (1 : Int32)), (.int (1 : Int32)), (.int (1 : Int32)), (.int (1 : Int32)), (.int (1 : Int32)), (.int (1 : Int32)), (.int (1 : Int32)), (.int (1 : Int32)), (.int (0 : Int32)), (.int (0 : Int32)), (.int (0 : Int32)), (.int (0 : Int32)), (.int (0 : Int32)), (.int (0 : Int32)), (.int (0 : Int32)), (.int (0 : Int32)), (.int (0 : Int32)), (.int (0 : Int32)), (.int (0 : Int32))]) K X101 e101 V101 (by decide) rfl (own_le rfl) rfl at_170 rfl fun T104 h104 X104 e104 W104 V104 => ?_
  have N104 := Fr.snoc X104 N101 ge80
  have V_b1_105 := V_b1_102.other W104 (Nat.ne_of_lt lt_b1_b80)
  have KB106 := KB103.wr W104 (Or.inr sz80)
  refine own_dup (pc' := 172) K X104 at_171 rfl rfl ?_
  refine own_bipush (v := (8 : Int32)) (pc' := 174) K X104 at_172 rfl rfl ?_
  refine own_iconst (v := (0 : Int32)) (pc' := 175) K X104 at_174 rfl rfl ?_
  refine own_zastore (pc' := 176) (i := 8) (vs' := [(.int (1 : Int32)), (.int (1 : Int32)), (.int (1 : Int32)), (.int (1 : Int32)), (.int (1 : Int32)), (.int (1 : Int32)), (.int (1 : Int32)), (.int (1 : Int32)), (.int (0 : Int32)), (.int (0 : Int32)), (.int (0 : Int32)), (.int (0 : Int32)), (.int (0 : Int32)), (.int (0 : Int32)), (.int (0 : Int32)), (.int (0 : Int32)), (.int (0 : Int32)), (.int (0 : Int32)), (.int (0 : Int32))]) K X104 e104 V104 (by decide) rfl (own_le rfl) rfl at_175 rfl fun T107 h107 X107 e107 W107 V107 => ?_
  have N107 := Fr.snoc X107 N104 ge80
  have V_b1_108 := V_b1_105.other W107 (Nat.ne_of_lt lt_b1_b80)
  have KB109 := KB106.wr W107 (Or.inr sz80)
  refine own_dup (pc' := 177) K X107 at_176 rfl rfl ?_
  refine own_bipush (v := (9 : Int32)) (pc' := 179) K X107 at_177 rfl rfl ?_
  refine own_iconst (v := (1 : Int32)) (pc' := 180) K X107 at_179 rfl rfl ?_
  refine own_zastore (pc' := 181) (i := 9) (vs' := [(.int (1 : Int32)), (.int (1 : Int32)), (.int (1 : Int32)), (.int (1 : Int32)), (.int (1 : Int32)), (.int (1 : Int32)), (.int (1 : Int32)), (.int (1 : Int32)), (.int (0 : Int32)), (.int (1 : Int32)), (.int (0 : Int32)), (.int (0 : Int32)), (.int (0 : Int32)), (.int (0 : Int32)), (.int (0 : Int32)), (.int (0 : Int32)), (.int (0 : Int32)), (.int (0 : Int32)), (.int (0 : Int32))]) K X107 e107 V107 (by decide) rfl (own_le rfl) rfl at_180 rfl fun T110 h110 X110 e110 W110 V110 => ?_
  have N110 := Fr.snoc X110 N107 ge80
  have V_b1_111 := V_b1_108.other W110 (Nat.ne_of_lt lt_b1_b80)
  have KB112 := KB109.wr W110 (Or.inr sz80)
  refine own_dup (pc' := 182) K X110 at_181 rfl rfl ?_
  refine own_bipush (v := (10 : Int32)) (pc' := 184) K X110 at_182 rfl rfl ?_
  refine own_iconst (v := (0 : Int32)) (pc' := 185) K X110 at_184 rfl rfl ?_
  refine own_zastore (pc' := 186) (i := 10) (vs' := [(.int (1 : Int32)), (.int (1 : Int32)), (.int (1 : Int32)), (.int (1 : Int32)), (.int (1 : Int32)), (.int (1 : Int32)), (.int (1 : Int32)), (.int (1 : Int32)), (.int (0 : Int32)), (.int (1 : Int32)), (.int (0 : Int32)), (.int (0 : Int32)), (.int (0 : Int32)), (.int (0 : Int32)), (.int (0 : Int32)), (.int (0 : Int32)), (.int (0 : Int32)), (.int (0 : Int32)), (.int (0 : Int32))]) K X110 e110 V110 (by decide) rfl (own_le rfl) rfl at_185 rfl fun T113 h113 X113 e113 W113 V113 => ?_
  have N113 := Fr.snoc X113 N110 ge80
  have V_b1_114 := V_b1_111.other W113 (Nat.ne_of_lt lt_b1_b80)
  have KB115 := KB112.wr W113 (Or.inr sz80)
  refine own_dup (pc' := 187) K X113 at_186 rfl rfl ?_
  refine own_bipush (v := (11 : Int32)) (pc' := 189) K X113 at_187 rfl rfl ?_
  refine own_iconst (v := (0 : Int32)) (pc' := 190) K X113 at_189 rfl rfl ?_
  refine own_zastore (pc' := 191) (i := 11) (vs' := [(.int (1 : Int32)), (.int (1 : Int32)), (.int (1 : Int32)), (.int (1 : Int32)), (.int (1 : Int32)), (.int (1 : Int32)), (.int (1 : Int32)), (.int (1 : Int32)), (.int (0 : Int32)), (.int (1 : Int32)), (.int (0 : Int32)), (.int (0 : Int32)), (.int (0 : Int32)), (.int (0 : Int32)), (.int (0 : Int32)), (.int (0 : Int32)), (.int (0 : Int32)), (.int (0 : Int32)), (.int (0 : Int32))]) K X113 e113 V113 (by decide) rfl (own_le rfl) rfl at_190 rfl fun T116 h116 X116 e116 W116 V116 => ?_
  have N116 := Fr.snoc X116 N113 ge80
  have V_b1_117 := V_b1_114.other W116 (Nat.ne_of_lt lt_b1_b80)
  have KB118 := KB115.wr W116 (Or.inr sz80)
  refine own_dup (pc' := 192) K X116 at_191 rfl rfl ?_
  refine own_bipush (v := (12 : Int32)) (pc' := 194) K X116 at_192 rfl rfl ?_
  refine own_iconst (v := (0 : Int32)) (pc' := 195) K X116 at_194 rfl rfl ?_
  refine own_zastore (pc' := 196) (i := 12) (vs' := [(.int (1 : Int32)), (.int (1 : Int32)), (.int (1 : Int32)), (.int (1 : Int32)), (.int (1 : Int32)), (.int (1 : Int32)), (.int (1 : Int32)), (.int (1 : Int32)), (.int (0 : Int32)), (.int (1 : Int32)), (.int (0 : Int32)), (.int (0 : Int32)), (.int (0 : Int32)), (.int (0 : Int32)), (.int (0 : Int32)), (.int (0 : Int32)), (.int (0 : Int32)), (.int (0 : Int32)), (.int (0 : Int32))]) K X116 e116 V116 (by decide) rfl (own_le rfl) rfl at_195 rfl fun T119 h119 X119 e119 W119 V119 => ?_
  have N119 := Fr.snoc X119 N116 ge80
  have V_b1_120 := V_b1_117.other W119 (Nat.ne_of_lt lt_b1_b80)
  have KB121 := KB118.wr W119 (Or.inr sz80)
  refine own_dup (pc' := 197) K X119 at_196 rfl rfl ?_
  refine own_bipush (v := (13 : Int32)) (pc' := 199) K X119 at_197 rfl rfl ?_
  refine own_iconst (v := (0 : Int32)) (pc' := 200) K X119 at_199 rfl rfl ?_
  refine own_zastore (pc' := 201) (i := 13) (vs' := [(.int (1 : Int32)), (.int (1 : Int32)), (.int (1 : Int32)), (.int (1 : Int32)), (.int (1 : Int32)), (.int (1 : Int32)), (.int (1 : Int32)), (.int (1 : Int32)), (.int (0 : Int32)), (.int (1 : Int32)), (.int (0 : Int32)), (.int (0 : Int32)), (.int (0 : Int32)), (.int (0 : Int32)), (.int (0 : Int32)), (.int (0 : Int32)), (.int (0 : Int32)), (.int (0 : Int32)), (.int (0 : Int32))]) K X119 e119 V119 (by decide) rfl (own_le rfl) rfl at_200 rfl fun T122 h122 X122 e122 W122 V122 => ?_
  have N122 := Fr.snoc X122 N119 ge80
  have V_b1_123 := V_b1_120.other W122 (Nat.ne_of_lt lt_b1_b80)
  have KB124 := KB121.wr W122 (Or.inr sz80)
  refine own_dup (pc' := 202) K X122 at_201 rfl rfl ?_
  refine own_bipush (v := (14 : Int32)) (pc' := 204) K X122 at_202 rfl rfl ?_
  refine own_iconst (v := (0 : Int32)) (pc' := 205) K X122 at_204 rfl rfl ?_
  refine own_zastore (pc' := 206) (i := 14) (vs' := [(.int (1 : Int32)), (.int (1 : Int32)), (.int (1 : Int32)), (.int (1 : Int32)), (.int (1 : Int32)), (.int (1 : Int32)), (.int (1 : Int32)), (.int (1 : Int32)), (.int (0 : Int32)), (.int (1 : Int32)), (.int (0 : Int32)), (.int (0 : Int32)), (.int (0 : Int32)), (.int (0 : Int32)), (.int (0 : Int32)), (.int (0 : Int32)), (.int (0 : Int32)), (.int (0 : Int32)), (.int (0 : Int32))]) K X122 e122 V122 (by decide) rfl (own_le rfl) rfl at_205 rfl fun T125 h125 X125 e125 W125 V125 => ?_
  have N125 := Fr.snoc X125 N122 ge80
  have V_b1_126 := V_b1_123.other W125 (Nat.ne_of_lt lt_b1_b80)
  have KB127 := KB124.wr W125 (Or.inr sz80)
  refine own_dup (pc' := 207) K X125 at_206 rfl rfl ?_
  refine own_bipush (v := (15 : Int32)) (pc' := 209) K X125 at_207 rfl rfl ?_
  refine own_iconst (v := (0 : Int32)) (pc' := 210) K X125 at_209 rfl rfl ?_
  refine own_zastore (pc' := 211) (i := 15) (vs' := [(.int (1 : Int32)), (.int (1 : Int32)), (.int (1 : Int32)), (.int (1 : Int32)), (.int (1 : Int32)), (.int (1 : Int32)), (.int (1 : Int32)), (.int (1 : Int32)), (.int (0 : Int32)), (.int (1 : Int32)), (.int (0 : Int32)), (.int (0 : Int32)), (.int (0 : Int32)), (.int (0 : Int32)), (.int (0 : Int32)), (.int (0 : Int32)), (.int (0 : Int32)), (.int (0 : Int32)), (.int (0 : Int32))]) K X125 e125 V125 (by decide) rfl (own_le rfl) rfl at_210 rfl fun T128 h128 X128 e128 W128 V128 => ?_
  have N128 := Fr.snoc X128 N125 ge80
  have V_b1_129 := V_b1_126.other W128 (Nat.ne_of_lt lt_b1_b80)
  have KB130 := KB127.wr W128 (Or.inr sz80)
  refine own_dup (pc' := 212) K X128 at_211 rfl rfl ?_
  refine own_bipush (v := (16 : Int32)) (pc' := 214) K X128 at_212 rfl rfl ?_
  refine own_iconst (v := (0 : Int32)) (pc' := 215) K X128 at_214 rfl rfl ?_
  refine own_zastore (pc' := 216) (i := 16) (vs' := [(.int (1 : Int32)), (.int (1 : Int32)), (.int (1 : Int32)), (.int (1 : Int32)), (.int (1 : Int32)), (.int (1 : Int32)), (.int (1 : Int32)), (.int (1 : Int32)), (.int (0 : Int32)), (.int (1 : Int32)), (.int (0 : Int32)), (.int (0 : Int32)), (.int (0 : Int32)), (.int (0 : Int32)), (.int (0 : Int32)), (.int (0 : Int32)), (.int (0 : Int32)), (.int (0 : Int32)), (.int (0 : Int32))]) K X128 e128 V128 (by decide) rfl (own_le rfl) rfl at_215 rfl fun T131 h131 X131 e131 W131 V131 => ?_
  have N131 := Fr.snoc X131 N128 ge80
  have V_b1_132 := V_b1_129.other W131 (Nat.ne_of_lt lt_b1_b80)
  have KB133 := KB130.wr W131 (Or.inr sz80)
  refine own_dup (pc' := 217) K X131 at_216 rfl rfl ?_
  refine own_bipush (v := (17 : Int32)) (pc' := 219) K X131 at_217 rfl rfl ?_
  refine own_iconst (v := (0 : Int32)) (pc' := 220) K X131 at_219 rfl rfl ?_
  refine own_zastore (pc' := 221) (i := 17) (vs' := [(.int (1 : Int32)), (.int (1 : Int32)), (.int (1 : Int32)), (.int (1 : Int32)), (.int (1 : Int32)), (.int (1 : Int32)), (.int (1 : Int32)), (.int (1 : Int32)), (.int (0 : Int32)), (.int (1 : Int32)), (.int (0 : Int32)), (.int (0 : Int32)), (.int (0 : Int32)), (.int (0 : Int32)), (.int (0 : Int32)), (.int (0 : Int32)), (.int (0 : Int32)), (.int (0 : Int32)), (.int (0 : Int32))]) K X131 e131 V131 (by decide) rfl (own_le rfl) rfl at_220 rfl fun T134 h134 X134 e134 W134 V134 => ?_
  have N134 := Fr.snoc X134 N131 ge80
  have V_b1_135 := V_b1_132.other W134 (Nat.ne_of_lt lt_b1_b80)
  have KB136 := KB133.wr W134 (Or.inr sz80)
  refine own_dup (pc' := 222) K X134 at_221 rfl rfl ?_
  refine own_bipush (v := (18 : Int32)) (pc' := 224) K X134 at_222 rfl rfl ?_
  refine own_iconst (v := (1 : Int32)) (pc' := 225) K X134 at_224 rfl rfl ?_
  refine own_zastore (pc' := 226) (i := 18) (vs' := [(.int (1 : Int32)), (.int (1 : Int32)), (.int (1 : Int32)), (.int (1 : Int32)), (.int (1 : Int32)), (.int (1 : Int32)), (.int (1 : Int32)), (.int (1 : Int32)), (.int (0 : Int32)), (.int (1 : Int32)), (.int (0 : Int32)), (.int (0 : Int32)), (.int (0 : Int32)), (.int (0 : Int32)), (.int (0 : Int32)), (.int (0 : Int32)), (.int (0 : Int32)), (.int (0 : Int32)), (.int (1 : Int32))]) K X134 e134 V134 (by decide) rfl (own_le rfl) rfl at_225 rfl fun T137 h137 X137 e137 W137 V137 => ?_
  have N137 := Fr.snoc X137 N134 ge80
  have V_b1_138 := V_b1_135.other W137 (Nat.ne_of_lt lt_b1_b80)
  have KB139 := KB136.wr W137 (Or.inr sz80)
  refine own_astoreN (l' := #[.val (.int p1), .val (.ref b1), .val (.ref b80), .unset]) (pc' := 227) K X137 at_226 rfl rfl rfl ?_
  refine own_iloadN (pc' := 228) K X137 at_227 rfl rfl ?_
  refine own_ldcI (pc' := 230) K X137 at_228 (own_w hw 43 rfl) rfl ?_
  refine own_iand (pc' := 231) K X137 at_230 rfl ?_
  refine own_bipush (v := (19 : Int32)) (pc' := 233) K X137 at_231 rfl rfl ?_
  refine own_irem (pc' := 234) K X137 at_233 (by decide) rfl ?_
  refine own_istoreN (l' := #[.val (.int p1), .val (.ref b1), .val (.ref b80), .val (.int ((p1 &&& (2147483647 : Int32)) % (19 : Int32)))]) (pc' := 235) K X137 at_234 rfl rfl ?_
  refine own_aloadN (pc' := 236) K X137 at_235 rfl rfl rfl ?_
  refine own_iloadN (pc' := 237) K X137 at_236 rfl rfl ?_
  obtain ⟨j, hj, hj2⟩ := own_rng p1
  have hi : ¬ ((p1 &&& (2147483647 : Int32)) % (19 : Int32)) < 0 ∧ ((p1 &&& (2147483647 : Int32)) % (19 : Int32)) < 19 := by rw [hj2]; exact ⟨own_nn (by omega), XT.lt32 (by decide) hj⟩
  obtain ⟨w, hd, r, q1, q2, q3, q4, q5⟩ : ∃ (w : Addr) (hd r : Int32), ([(.ref w_STAT), (.ref w_FETCH), (.ref w_PUBLISH), (.ref w_LIST), (.ref w_REMOVE), (.ref w_MKDIR), (.ref w_RENAME), (.ref w_SETSTAT), (.ref w_HOLD), (.ref w_REVOKED), (.ref w_STATUS), (.ref w_ATTRIBUTES), (.ref w_DATA), (.ref w_UNCHANGED), (.ref w_READY), (.ref w_ENTRY), (.ref w_DONE), (.ref w_HOLDER), (.ref w_REVOKE)] : List Value).getD ((p1 &&& (2147483647 : Int32)) % (19 : Int32)).toNatClampNeg .null = .ref w ∧ Fld Z h137 w "com/example/anteroom/anteroom/io/Frame$Type" "header" "I" (.int hd) ∧ Exa Z h137 w "com/example/anteroom/anteroom/io/Frame$Type" ∧ ([(.int (1 : Int32)), (.int (1 : Int32)), (.int (1 : Int32)), (.int (1 : Int32)), (.int (1 : Int32)), (.int (1 : Int32)), (.int (1 : Int32)), (.int (1 : Int32)), (.int (0 : Int32)), (.int (1 : Int32)), (.int (0 : Int32)), (.int (0 : Int32)), (.int (0 : Int32)), (.int (0 : Int32)), (.int (0 : Int32)), (.int (0 : Int32)), (.int (0 : Int32)), (.int (0 : Int32)), (.int (1 : Int32))] : List Value).getD ((p1 &&& (2147483647 : Int32)) % (19 : Int32)).toNatClampNeg (.int 0) = .int r ∧ (r = if hd = (-1) then 0 else 1) := by
    rw [hj2, own_nat (by omega)]
    rcases (by omega : j = 0 ∨ j = 1 ∨ j = 2 ∨ j = 3 ∨ j = 4 ∨ j = 5 ∨ j = 6 ∨ j = 7 ∨ j = 8 ∨ j = 9 ∨ j = 10 ∨ j = 11 ∨ j = 12 ∨ j = 13 ∨ j = 14 ∨ j = 15 ∨ j = 16 ∨ j = 17 ∨ j = 18) with rfl | rfl | rfl | rfl | rfl | rfl | rfl | rfl | rfl | rfl | rfl | rfl | rfl | rfl | rfl | rfl | rfl | rfl | rfl
    · exact ⟨w_STAT, 0, 1, rfl, (F_STAT.keep KB139 nin0), (E_STAT.keep KB139), rfl, by decide⟩
    · exact ⟨w_FETCH, 8, 1, rfl, (F_FETCH.keep KB139 nin0), (E_FETCH.keep KB139), rfl, by decide⟩
    · exact ⟨w_PUBLISH, 37, 1, rfl, (F_PUBLISH.keep KB139 nin0), (E_PUBLISH.keep KB139), rfl, by decide⟩
    · exact ⟨w_LIST, 0, 1, rfl, (F_LIST.keep KB139 nin0), (E_LIST.keep KB139), rfl, by decide⟩
    · exact ⟨w_REMOVE, 1, 1, rfl, (F_REMOVE.keep KB139 nin0), (E_REMOVE.keep KB139), rfl, by decide⟩
    · exact ⟨w_MKDIR, 27, 1, rfl, (F_MKDIR.keep KB139 nin0), (E_MKDIR.keep KB139), rfl, by decide⟩
    · exact ⟨w_RENAME, 5, 1, rfl, (F_RENAME.keep KB139 nin0), (E_RENAME.keep KB139), rfl, by decide⟩
    · exact ⟨w_SETSTAT, 27, 1, rfl, (F_SETSTAT.keep KB139 nin0), (E_SETSTAT.keep KB139), rfl, by decide⟩
    · exact ⟨w_HOLD, -1, 0, rfl, (F_HOLD.keep KB139 nin0), (E_HOLD.keep KB139), rfl, by decide⟩
    · exact ⟨w_REVOKED, 0, 1, rfl, (F_REVOKED.keep KB139 nin0), (E_REVOKED.keep KB139), rfl, by decide⟩
    · exact ⟨w_STATUS, -1, 0, rfl, (F_STATUS.keep KB139 nin0), (E_STATUS.keep KB139), rfl, by decide⟩
    · exact ⟨w_ATTRIBUTES, -1, 0, rfl, (F_ATTRIBUTES.keep KB139 nin0), (E_ATTRIBUTES.keep KB139), rfl, by decide⟩
    · exact ⟨w_DATA, -1, 0, rfl, (F_DATA.keep KB139 nin0), (E_DATA.keep KB139), rfl, by decide⟩
    · exact ⟨w_UNCHANGED, -1, 0, rfl, (F_UNCHANGED.keep KB139 nin0), (E_UNCHANGED.keep KB139), rfl, by decide⟩
    · exact ⟨w_READY, -1, 0, rfl, (F_READY.keep KB139 nin0), (E_READY.keep KB139), rfl, by decide⟩
    · exact ⟨w_ENTRY, -1, 0, rfl, (F_ENTRY.keep KB139 nin0), (E_ENTRY.keep KB139), rfl, by decide⟩
    · exact ⟨w_DONE, -1, 0, rfl, (F_DONE.keep KB139 nin0), (E_DONE.keep KB139), rfl, by decide⟩
    · exact ⟨w_HOLDER, -1, 0, rfl, (F_HOLDER.keep KB139 nin0), (E_HOLDER.keep KB139), rfl, by decide⟩
    · exact ⟨w_REVOKE, 0, 1, rfl, (F_REVOKE.keep KB139 nin0), (E_REVOKE.keep KB139), rfl, by decide⟩
  refine own_aaload (pc' := 238) (v := .ref w) K X137 e137 V_b1_138 rfl hi q1 at_237 rfl ?_
  refine own_callV (pc' := 241) (argsL := []) (rest := []) K X137 e137 (own_w hw 44 rfl) (own_w hw 45 rfl) (notFace_of_selects (args := #[]) (mvT K.2.2.1 (own_w hw 47 rfl))) (own_w hw 47 rfl) (own_w hw 46 rfl) (own_w hw 48 rfl) (own_w hw 3 rfl) q3 (rmN l Z a0 hw [] w hd r h137 n0 q2 q5) at_238 pd_0 rfl rfl rfl (by decide) (own_le rfl) (own_le rfl) (own_le rfl) (own_le rfl) rfl fun v140 T140 L140 X140 hQ140 => ?_
  obtain ⟨rfl, N140q, e140⟩ := hQ140
  have N140 := Fr.app N137 N140q
  show Go p e below _ (T140.setTop (mkF m 241 #[.val (.int p1), .val (.ref b1), .val (.ref b80), .val (.int ((p1 &&& (2147483647 : Int32)) % (19 : Int32)))] [(.int r)]))
  refine own_aloadN (pc' := 242) K X140 at_241 rfl rfl rfl ?_
  refine own_iloadN (pc' := 243) K X140 at_242 rfl rfl ?_
  refine own_zaload (pc' := 244) (v := .int r) K X140 e140 V137 hi q4 at_243 rfl ?_
  refine own_icmpNo (pc' := 247) K X140 at_244 (teq (rfl : r = r)).2 rfl ?_
  refine own_iconst (v := (1 : Int32)) (pc' := 248) K X140 at_247 rfl rfl ?_
  refine own_goto (pc' := 252) K X140 at_248 (by decide) (by decide) ?_
  exact own_retN (t := .boolean) (z' := (1 : Int32)) K X140 hrt hlk (by simp) rfl at_252 (own_le rfl) (own_le rfl) (by (try rw [e140]); exact ⟨rfl, N140⟩)
set_option maxRecDepth 65536 in
set_option maxHeartbeats 40000000 in
theorem comes_1 {Post : Tables → Env → Array Value → State → Outcome → State → Prop} (hpost : ∀ tb e args s v u, (limb_1_1.after args s (.returned v) u = true ∧ limb_1_2.after args s (.returned v) u = true ∧ True) → FrameEnd s (.returned v) u (Jvm.fieldLocs frame_1_writes args s ++ Jvm.arrayLocs frame_1_arrays args s ++ Jvm.staticLocs frame_1_statics s) 16 192 → Post tb e args s (.returned v) u) :
    ArmFor flags0 classFile x code maxLocals ret World_1 tables_1 room_1 Calls_1 rest_1 Pre_1 Post := by
  intro l hfl _ _ p e ha hc hk s m args below hf hA hF happ hP
  obtain ⟨hcalls, hrest, hpre⟩ := hP
  obtain ⟨-, -, -, hnamed, -, -, -, hat⟩ := (Spec.applies_iff hf).mp happ
  obtain ⟨hg, hn⟩ := and_e (Cond.before_iff.mp (show (Jvm.Cond.and given_1 narrow_1).before args s = true from hpre))
  obtain ⟨gc, g0⟩ := and_e hg
  have gi0 := g0
  obtain ⟨w0, rfl⟩ : ∃ w0 : Value, args = #[w0] := by
    have hs : args.size = 1 := by simpa [Cond.value, given_1] using gc
    obtain ⟨L⟩ := args
    match L, hs with
    | [w0], _ => exact ⟨w0, rfl⟩
  have hw := fun d (hd : d ∈ tables_1) => atoms_spec (ws := Jvm.Cond.code x code maxLocals ret :: tables_1) hat d (List.mem_cons_of_mem _ hd)
  have hfit : Fit s := fun {y c} hc i hi => by
    obtain ⟨ha, rfl⟩ := Array.getElem?_eq_some_iff.mp hc
    have q := List.all_eq_true.mp ((Array.all_eq_true_iff_forall_mem.mp hF) _ (Array.getElem_mem ha)) i (List.mem_range.mpr hi)
    simpa [Array.getElem?_eq_getElem hi] using q
  obtain ⟨i0, ei0⟩ := is_v gi0
  obtain rfl : w0 = (.int i0) := Option.some.inj ei0
  obtain ⟨nw0, hn0⟩ := and_e hn
  obtain ⟨nw1, hn1⟩ := and_e hn0
  obtain ⟨nw2, hn2⟩ := and_e hn1
  obtain ⟨nw3, hn3⟩ := and_e hn2
  obtain ⟨nw4, hn4⟩ := and_e hn3
  obtain ⟨nw5, hn5⟩ := and_e hn4
  obtain ⟨nw6, hn6⟩ := and_e hn5
  obtain ⟨nw7, hn7⟩ := and_e hn6
  obtain ⟨nw8, hn8⟩ := and_e hn7
  obtain ⟨nw9, hn9⟩ := and_e hn8
  obtain ⟨nw10, hn10⟩ := and_e hn9
  obtain ⟨nw11, hn11⟩ := and_e hn10
  obtain ⟨nw12, hn12⟩ := and_e hn11
  obtain ⟨nw13, hn13⟩ := and_e hn12
  obtain ⟨nw14, hn14⟩ := and_e hn13
  obtain ⟨nw15, hn15⟩ := and_e hn14
  obtain ⟨nw16, hn16⟩ := and_e hn15
  obtain ⟨nw17, hn17⟩ := and_e hn16
  obtain ⟨nw18, hn18⟩ := and_e hn17
  obtain ⟨nw19, hn19⟩ := and_e hn18
  obtain ⟨nw20, hn20⟩ := and_e hn19
  obtain ⟨nw21, hn21⟩ := and_e hn20
  obtain ⟨nw22, hn22⟩ := and_e hn21
  obtain ⟨nw23, hn23⟩ := and_e hn22
  obtain ⟨nw24, hn24⟩ := and_e hn23
  obtain ⟨nw25, hn25⟩ := and_e hn24
  obtain ⟨nw26, hn26⟩ := and_e hn25
  obtain ⟨nw27, hn27⟩ := and_e hn26
  obtain ⟨nw28, hn28⟩ := and_e hn27
  obtain ⟨nw29, hn29⟩ := and_e hn28
  obtain ⟨nw30, hn30⟩ := and_e hn29
  obtain ⟨nw31, hn31⟩ := and_e hn30
  obtain ⟨nw32, hn32⟩ := and_e hn31
  obtain ⟨nw33, hn33⟩ := and_e hn32
  obtain ⟨nw34, hn34⟩ := and_e hn33
  obtain ⟨nw35, hn35⟩ := and_e hn34
  obtain ⟨nw36, hn36⟩ := and_e hn35
  have nw37 := hn36
  obtain ⟨w_STAT, ev_STAT⟩ := exa_v nw0
  have E_STAT := Exa.start ev_STAT nw0
  have S_STAT := Sta.start ev_STAT (Or.inr ⟨(own_w hw 3 rfl), (own_w hw 4 rfl)⟩)
  obtain ⟨w_FETCH, ev_FETCH⟩ := exa_v nw1
  have E_FETCH := Exa.start ev_FETCH nw1
  have S_FETCH := Sta.start ev_FETCH (Or.inr ⟨(own_w hw 3 rfl), (own_w hw 7 rfl)⟩)
  obtain ⟨w_PUBLISH, ev_PUBLISH⟩ := exa_v nw2
  have E_PUBLISH := Exa.start ev_PUBLISH nw2
  have S_PUBLISH := Sta.start ev_PUBLISH (Or.inr ⟨(own_w hw 3 rfl), (own_w hw 9 rfl)⟩)
  obtain ⟨w_LIST, ev_LIST⟩ := exa_v nw3
  have E_LIST := Exa.start ev_LIST nw3
  have S_LIST := Sta.start ev_LIST (Or.inr ⟨(own_w hw 3 rfl), (own_w hw 11 rfl)⟩)
  obtain ⟨w_REMOVE, ev_REMOVE⟩ := exa_v nw4
  have E_REMOVE := Exa.start ev_REMOVE nw4
  have S_REMOVE := Sta.start ev_REMOVE (Or.inr ⟨(own_w hw 3 rfl), (own_w hw 13 rfl)⟩)
  obtain ⟨w_MKDIR, ev_MKDIR⟩ := exa_v nw5
  have E_MKDIR := Exa.start ev_MKDIR nw5
  have S_MKDIR := Sta.start ev_MKDIR (Or.inr ⟨(own_w hw 3 rfl), (own_w hw 15 rfl)⟩)
  obtain ⟨w_RENAME, ev_RENAME⟩ := exa_v nw6
  have E_RENAME := Exa.start ev_RENAME nw6
  have S_RENAME := Sta.start ev_RENAME (Or.inr ⟨(own_w hw 3 rfl), (own_w hw 17 rfl)⟩)
  obtain ⟨w_SETSTAT, ev_SETSTAT⟩ := exa_v nw7
  have E_SETSTAT := Exa.start ev_SETSTAT nw7
  have S_SETSTAT := Sta.start ev_SETSTAT (Or.inr ⟨(own_w hw 3 rfl), (own_w hw 19 rfl)⟩)
  obtain ⟨w_HOLD, ev_HOLD⟩ := exa_v nw8
  have E_HOLD := Exa.start ev_HOLD nw8
  have S_HOLD := Sta.start ev_HOLD (Or.inr ⟨(own_w hw 3 rfl), (own_w hw 21 rfl)⟩)
  obtain ⟨w_REVOKED, ev_REVOKED⟩ := exa_v nw9
  have E_REVOKED := Exa.start ev_REVOKED nw9
  have S_REVOKED := Sta.start ev_REVOKED (Or.inr ⟨(own_w hw 3 rfl), (own_w hw 23 rfl)⟩)
  obtain ⟨w_STATUS, ev_STATUS⟩ := exa_v nw10
  have E_STATUS := Exa.start ev_STATUS nw10
  have S_STATUS := Sta.start ev_STATUS (Or.inr ⟨(own_w hw 3 rfl), (own_w hw 25 rfl)⟩)
  obtain ⟨w_ATTRIBUTES, ev_ATTRIBUTES⟩ := exa_v nw11
  have E_ATTRIBUTES := Exa.start ev_ATTRIBUTES nw11
  have S_ATTRIBUTES := Sta.start ev_ATTRIBUTES (Or.inr ⟨(own_w hw 3 rfl), (own_w hw 27 rfl)⟩)
  obtain ⟨w_DATA, ev_DATA⟩ := exa_v nw12
  have E_DATA := Exa.start ev_DATA nw12
  have S_DATA := Sta.start ev_DATA (Or.inr ⟨(own_w hw 3 rfl), (own_w hw 29 rfl)⟩)
  obtain ⟨w_UNCHANGED, ev_UNCHANGED⟩ := exa_v nw13
  have E_UNCHANGED := Exa.start ev_UNCHANGED nw13
  have S_UNCHANGED := Sta.start ev_UNCHANGED (Or.inr ⟨(own_w hw 3 rfl), (own_w hw 31 rfl)⟩)
  obtain ⟨w_READY, ev_READY⟩ := exa_v nw14
  have E_READY := Exa.start ev_READY nw14
  have S_READY := Sta.start ev_READY (Or.inr ⟨(own_w hw 3 rfl), (own_w hw 33 rfl)⟩)
  obtain ⟨w_ENTRY, ev_ENTRY⟩ := exa_v nw15
  have E_ENTRY := Exa.start ev_ENTRY nw15
  have S_ENTRY := Sta.start ev_ENTRY (Or.inr ⟨(own_w hw 3 rfl), (own_w hw 35 rfl)⟩)
  obtain ⟨w_DONE, ev_DONE⟩ := exa_v nw16
  have E_DONE := Exa.start ev_DONE nw16
  have S_DONE := Sta.start ev_DONE (Or.inr ⟨(own_w hw 3 rfl), (own_w hw 37 rfl)⟩)
  obtain ⟨w_HOLDER, ev_HOLDER⟩ := exa_v nw17
  have E_HOLDER := Exa.start ev_HOLDER nw17
  have S_HOLDER := Sta.start ev_HOLDER (Or.inr ⟨(own_w hw 3 rfl), (own_w hw 39 rfl)⟩)
  obtain ⟨w_REVOKE, ev_REVOKE⟩ := exa_v nw18
  have E_REVOKE := Exa.start ev_REVOKE nw18
  have S_REVOKE := Sta.start ev_REVOKE (Or.inr ⟨(own_w hw 3 rfl), (own_w hw 41 rfl)⟩)
  have F_STAT := own_fld ev_STAT nw19
  have F_LIST := own_fld ev_LIST nw20
  have F_ENTRY := own_fld ev_ENTRY nw21
  have F_MKDIR := own_fld ev_MKDIR nw22
  have F_HOLDER := own_fld ev_HOLDER nw23
  have F_SETSTAT := own_fld ev_SETSTAT nw24
  have F_PUBLISH := own_fld ev_PUBLISH nw25
  have F_ATTRIBUTES := own_fld ev_ATTRIBUTES nw26
  have F_STATUS := own_fld ev_STATUS nw27
  have F_HOLD := own_fld ev_HOLD nw28
  have F_FETCH := own_fld ev_FETCH nw29
  have F_READY := own_fld ev_READY nw30
  have F_REVOKE := own_fld ev_REVOKE nw31
  have F_RENAME := own_fld ev_RENAME nw32
  have F_DONE := own_fld ev_DONE nw33
  have F_REMOVE := own_fld ev_REMOVE nw34
  have F_REVOKED := own_fld ev_REVOKED nw35
  have F_DATA := own_fld ev_DATA nw36
  have F_UNCHANGED := own_fld ev_UNCHANGED nw37
  obtain ⟨n, o, h1, h2, h3, _, L, rfl, ⟨rfl, N⟩, hq⟩ := rm0 l s _ hw tables_1 i0 w_STAT w_FETCH w_PUBLISH w_LIST w_REMOVE w_MKDIR w_RENAME w_SETSTAT w_HOLD w_REVOKED w_STATUS w_ATTRIBUTES w_DATA w_UNCHANGED w_READY w_ENTRY w_DONE w_HOLDER w_REVOKE s.heap s.heap.size (Nat.le_refl _) S_STAT S_FETCH S_PUBLISH S_LIST S_REMOVE S_MKDIR S_RENAME S_SETSTAT S_HOLD S_REVOKED S_STATUS S_ATTRIBUTES S_DATA S_UNCHANGED S_READY S_ENTRY S_DONE S_HOLDER S_REVOKE E_STAT E_FETCH E_PUBLISH E_LIST E_REMOVE E_MKDIR E_RENAME E_SETSTAT E_HOLD E_REVOKED E_STATUS E_ATTRIBUTES E_DATA E_UNCHANGED E_READY E_ENTRY E_DONE E_HOLDER E_REVOKE F_STAT F_FETCH F_PUBLISH F_LIST F_REMOVE F_MKDIR F_RENAME F_SETSTAT F_HOLD F_REVOKED F_STATUS F_ATTRIBUTES F_DATA F_UNCHANGED F_READY F_ENTRY F_DONE F_HOLDER F_REVOKE p e ha hc hk s m _ below hf ((Spec.applies_iff_loose hf).mp happ).1 ⟨rfl, State.Warmed39.refl s, rfl⟩ trivial
  refine ⟨n, _, h1, h2, h3, hpost _ _ _ _ _ _ ⟨Cond.after_iff.mpr rfl, Cond.after_iff.mpr (eq_i res_at (Term.int_eval (1)) rfl), trivial⟩ ⟨hq.1, hq.2.1, (hq.2.2.sift fun y hy => Or.inr (N y hy)).mono (by decide) (by decide)⟩⟩
theorem main_1_1 : Claimed_1_1 := comes_1 fun _ _ _ _ _ _ h hF => ⟨h.1, hF⟩
theorem main_1_2 : Claimed_1_2 := comes_1 fun _ _ _ _ _ _ h hF => ⟨h.2.1, hF⟩
end Jvm.Pilot.@@N@@
namespace Jvm.Pilot.@@N@@
open Jvm Jvm.ClassFile Sem Op Lib Jvm.Free Jvm.Stand Jvm.Pilot.@@N@@.Jvm.D
/-! MADE BY PROGRAM (witnessworld.py) out of the Statement's table words and the real class files: 15 classes; the members and pool entries that the words name. The judged class is class 1, her method 1. -/
namespace start1
open Jvm.ClassFile
def u (s : String) : CpInfo := .utf8 (stringToUtf16 s)
/-- a pool by its gaps: so many unusable entries, then the entry; so many at the end -/
def gap : Nat → List CpInfo → List CpInfo
  | 0, r => r
  | n + 1, r => .unusable :: gap n r
def poolList (es : List (Nat × CpInfo)) (last : Nat) : List CpInfo := es.foldr (fun e r => gap e.1 (e.2 :: r)) (gap last [])
def pool (es : List (Nat × CpInfo)) (last : Nat) : Array CpInfo := ⟨poolList es last⟩
def fileOf (pool : Array CpInfo) (this : Nat) (attrs : Array Attribute := #[]) (ms : Array MethodInfo := #[]) (fl : Nat := 33) (sup : Nat := 0) (ifs : Array Nat := #[]) (fds : Array FieldInfo := #[]) : ClassFile where
  minorVersion := 0
  majorVersion := 65
  constantPool := pool
  accessFlags := fl
  thisClass := this
  superClass := sup
  interfaces := ifs
  fields := fds
  methods := ms
  attributes := attrs
def plain (name : String) (sup : Option ClassId) : Class where
  name := name
  kind := .ordinary
  loader := none
  accessFlags := 33
  super := sup
  interfaces := #[]
  cf := none
  fields := #[]
  methods := #[]
  instanceTypes := #[]
  staticTypes := #[]
  resolved := #[]
  callSites := []
  init := .initialized
  statics := none
  mirror := none

def pool0 : Array CpInfo := pool [(5, u "<init>"), (0, u "()V"), (1, .class_ 10), (1, u "java/lang/Object")] 113

def k0m0 : Method := { name := "<init>", desc := "()V", sig := { parameters := [], returnType := none }, accessFlags := 1, code := none }
/-- java/lang/Object -/
def k0 : Class := { plain "java/lang/Object" none with
  accessFlags := 33
  interfaces := #[]
  cf := some (fileOf pool0 8 #[] #[{ accessFlags := 1, nameIndex := 5, descriptorIndex := 6, attributes := #[] }] 33 0 #[] #[])
  fields := #[]
  methods := #[k0m0]
  instanceTypes := #[]
  staticTypes := #[]
  resolved := Array.replicate 124 none
  statics := none }

def pool1 : Array CpInfo := pool [(2, .class_ 4), (1, u "java/lang/Object"), (0, u "<init>"), (0, u "()V"), (0, .class_ 8), (0, u "com/example/anteroom/anteroom/io/Frame$Type"), (0, .fieldref 7 10), (0, .nameAndType 11 12), (0, u "STAT"), (0, u "Lcom/example/anteroom/anteroom/io/Frame$Type;"), (0, .fieldref 7 14), (0, .nameAndType 15 12), (0, u "FETCH"), (0, .fieldref 7 17), (0, .nameAndType 18 12), (0, u "PUBLISH"), (0, .fieldref 7 20), (0, .nameAndType 21 12), (0, u "LIST"), (0, .fieldref 7 23), (0, .nameAndType 24 12), (0, u "REMOVE"), (0, .fieldref 7 26), (0, .nameAndType 27 12), (0, u "MKDIR"), (0, .fieldref 7 29), (0, .nameAndType 30 12), (0, u "RENAME"), (0, .fieldref 7 32), (0, .nameAndType 33 12), (0, u "SETSTAT"), (0, .fieldref 7 35), (0, .nameAndType 36 12), (0, u "HOLD"), (0, .fieldref 7 38), (0, .nameAndType 39 12), (0, u "REVOKED"), (0, .fieldref 7 41), (0, .nameAndType 42 12), (0, u "STATUS"), (0, .fieldref 7 44), (0, .nameAndType 45 12), (0, u "ATTRIBUTES"), (0, .fieldref 7 47), (0, .nameAndType 48 12), (0, u "DATA"), (0, .fieldref 7 50), (0, .nameAndType 51 12), (0, u "UNCHANGED"), (0, .fieldref 7 53), (0, .nameAndType 54 12), (0, u "READY"), (0, .fieldref 7 56), (0, .nameAndType 57 12), (0, u "ENTRY"), (0, .fieldref 7 59), (0, .nameAndType 60 12), (0, u "DONE"), (0, .fieldref 7 62), (0, .nameAndType 63 12), (0, u "HOLDER"), (0, .fieldref 7 65), (0, .nameAndType 66 12), (0, u "REVOKE"), (0, .integer 2147483647), (0, .methodref 7 69), (0, .nameAndType 70 71), (0, u "namesPath"), (0, u "()Z"), (0, .class_ 73), (0, u "com/example/anteroom/anteroom/io/TypeNamesPathPinLaw"), (2, u "law"), (0, u "(I)Z")] 11

def k1m0 : Method := { name := "<init>", desc := "()V", sig := { parameters := [], returnType := none }, accessFlags := 2, code := none }
def k1c1 : Code := { maxStack := 4, maxLocals := 4, code := code, exceptionTable := #[], attributes := #[] }
def k1m1 : Method := { name := "law", desc := "(I)Z", sig := { parameters := [.int], returnType := some .boolean }, accessFlags := 9, code := some k1c1 }
/-- com/example/anteroom/anteroom/io/TypeNamesPathPinLaw -/
def k1 : Class := { plain "com/example/anteroom/anteroom/io/TypeNamesPathPinLaw" (some 0) with
  accessFlags := 49
  interfaces := #[]
  cf := some (fileOf pool1 72 #[] #[{ accessFlags := 2, nameIndex := 5, descriptorIndex := 6, attributes := #[] }, { accessFlags := 9, nameIndex := 76, descriptorIndex := 77, attributes := #[] }] 49 2 #[] #[])
  fields := #[]
  methods := #[k1m0, k1m1]
  instanceTypes := #[]
  staticTypes := #[]
  resolved := Array.replicate 89 none
  statics := none }

def pool2 : Array CpInfo := pool [(1, .class_ 2), (0, u "java/lang/constant/Constable"), (0, .class_ 4), (0, u "java/lang/Object")] 6

/-- java/lang/constant/Constable -/
def k2 : Class := { plain "java/lang/constant/Constable" (some 0) with
  accessFlags := 1537
  interfaces := #[]
  cf := some (fileOf pool2 1 #[] #[] 1537 3 #[] #[])
  fields := #[]
  methods := #[]
  instanceTypes := #[]
  staticTypes := #[]
  resolved := Array.replicate 11 none
  statics := none }

def pool3 : Array CpInfo := pool [(1, .class_ 2), (0, u "java/lang/Comparable"), (0, .class_ 4), (0, u "java/lang/Object")] 7

/-- java/lang/Comparable -/
def k3 : Class := { plain "java/lang/Comparable" (some 0) with
  accessFlags := 1537
  interfaces := #[]
  cf := some (fileOf pool3 1 #[] #[] 1537 3 #[] #[])
  fields := #[]
  methods := #[]
  instanceTypes := #[]
  staticTypes := #[]
  resolved := Array.replicate 12 none
  statics := none }

def pool4 : Array CpInfo := pool [(1, .class_ 2), (0, u "java/io/Serializable"), (0, .class_ 4), (0, u "java/lang/Object")] 2

/-- java/io/Serializable -/
def k4 : Class := { plain "java/io/Serializable" (some 0) with
  accessFlags := 1537
  interfaces := #[]
  cf := some (fileOf pool4 1 #[] #[] 1537 3 #[] #[])
  fields := #[]
  methods := #[]
  instanceTypes := #[]
  staticTypes := #[]
  resolved := Array.replicate 7 none
  statics := none }

def pool5 : Array CpInfo := pool [(2, .class_ 4), (1, u "java/lang/Enum"), (0, u "name"), (0, u "Ljava/lang/String;"), (2, u "ordinal"), (0, u "I"), (1, .class_ 14), (1, u "java/lang/Object"), (4, u "hash"), (86, .class_ 108), (1, u "java/lang/Enum$EnumDesc"), (2, .class_ 112), (0, u "java/lang/constant/Constable"), (0, .class_ 114), (0, u "java/lang/Comparable"), (0, .class_ 116), (0, u "java/io/Serializable")] 87

/-- java/lang/Enum -/
def k5 : Class := { plain "java/lang/Enum" (some 0) with
  accessFlags := 1057
  interfaces := #[2, 3, 4]
  cf := some (fileOf pool5 2 #[.nestMembers #[106]] #[] 1057 12 #[111, 113, 115] #[{ accessFlags := 18, nameIndex := 5, descriptorIndex := 6, attributes := #[] }, { accessFlags := 18, nameIndex := 9, descriptorIndex := 10, attributes := #[] }, { accessFlags := 2, nameIndex := 19, descriptorIndex := 10, attributes := #[] }])
  fields := #[{ name := "name", type := (.object "java/lang/String"), accessFlags := 18, slot := 0, constantValue := 0 }, { name := "ordinal", type := .int, accessFlags := 18, slot := 1, constantValue := 0 }, { name := "hash", type := .int, accessFlags := 2, slot := 2, constantValue := 0 }]
  methods := #[]
  instanceTypes := #[(.object "java/lang/String"), .int, .int]
  staticTypes := #[]
  resolved := Array.replicate 204 none
  statics := none }

def pool6 : Array CpInfo := pool [(1, .class_ 2), (0, u "com/example/anteroom/anteroom/io/Frame"), (0, .class_ 4), (0, u "com/example/anteroom/anteroom/io/Frame$Type"), (2, u "STAT"), (0, u "Lcom/example/anteroom/anteroom/io/Frame$Type;"), (2, u "FETCH"), (2, u "PUBLISH"), (2, u "LIST"), (2, u "REMOVE"), (2, u "MKDIR"), (2, u "RENAME"), (2, u "SETSTAT"), (2, u "HOLD"), (2, u "REVOKED"), (2, u "STATUS"), (2, u "ATTRIBUTES"), (2, u "DATA"), (2, u "UNCHANGED"), (2, u "READY"), (2, u "ENTRY"), (2, u "DONE"), (2, u "HOLDER"), (2, u "REVOKE"), (2, u "$VALUES"), (0, u "[Lcom/example/anteroom/anteroom/io/Frame$Type;"), (6, .class_ 75), (1, u "java/lang/Enum"), (8, u "code"), (0, u "I"), (0, .fieldref 3 87), (0, .nameAndType 88 85), (0, u "header"), (45, u "namesPath"), (0, u "()Z")] 26

def k6c0 : Code := { maxStack := 2, maxLocals := 1, code := prog_12_method_5_code, exceptionTable := #[], attributes := #[] }
def k6m0 : Method := { name := "namesPath", desc := "()Z", sig := { parameters := [], returnType := some .boolean }, accessFlags := 0, code := some k6c0 }
/-- com/example/anteroom/anteroom/io/Frame$Type -/
def k6 : Class := { plain "com/example/anteroom/anteroom/io/Frame$Type" (some 5) with
  accessFlags := 16433
  interfaces := #[]
  cf := some (fileOf pool6 3 #[.nestHost 1] #[{ accessFlags := 0, nameIndex := 134, descriptorIndex := 135, attributes := #[] }] 16433 73 #[] #[{ accessFlags := 16409, nameIndex := 7, descriptorIndex := 8, attributes := #[] }, { accessFlags := 16409, nameIndex := 11, descriptorIndex := 8, attributes := #[] }, { accessFlags := 16409, nameIndex := 14, descriptorIndex := 8, attributes := #[] }, { accessFlags := 16409, nameIndex := 17, descriptorIndex := 8, attributes := #[] }, { accessFlags := 16409, nameIndex := 20, descriptorIndex := 8, attributes := #[] }, { accessFlags := 16409, nameIndex := 23, descriptorIndex := 8, attributes := #[] }, { accessFlags := 16409, nameIndex := 26, descriptorIndex := 8, attributes := #[] }, { accessFlags := 16409, nameIndex := 29, descriptorIndex := 8, attributes := #[] }, { accessFlags := 16409, nameIndex := 32, descriptorIndex := 8, attributes := #[] }, { accessFlags := 16409, nameIndex := 35, descriptorIndex := 8, attributes := #[] }, { accessFlags := 16409, nameIndex := 38, descriptorIndex := 8, attributes := #[] }, { accessFlags := 16409, nameIndex := 41, descriptorIndex := 8, attributes := #[] }, { accessFlags := 16409, nameIndex := 44, descriptorIndex := 8, attributes := #[] }, { accessFlags := 16409, nameIndex := 47, descriptorIndex := 8, attributes := #[] }, { accessFlags := 16409, nameIndex := 50, descriptorIndex := 8, attributes := #[] }, { accessFlags := 16409, nameIndex := 53, descriptorIndex := 8, attributes := #[] }, { accessFlags := 16409, nameIndex := 56, descriptorIndex := 8, attributes := #[] }, { accessFlags := 16409, nameIndex := 59, descriptorIndex := 8, attributes := #[] }, { accessFlags := 16409, nameIndex := 62, descriptorIndex := 8, attributes := #[] }, { accessFlags := 18, nameIndex := 84, descriptorIndex := 85, attributes := #[] }, { accessFlags := 18, nameIndex := 88, descriptorIndex := 85, attributes := #[] }, { accessFlags := 4122, nameIndex := 65, descriptorIndex := 66, attributes := #[] }])
  fields := #[{ name := "STAT", type := (.object "com/example/anteroom/anteroom/io/Frame$Type"), accessFlags := 16409, slot := 0, constantValue := 0 }, { name := "FETCH", type := (.object "com/example/anteroom/anteroom/io/Frame$Type"), accessFlags := 16409, slot := 1, constantValue := 0 }, { name := "PUBLISH", type := (.object "com/example/anteroom/anteroom/io/Frame$Type"), accessFlags := 16409, slot := 2, constantValue := 0 }, { name := "LIST", type := (.object "com/example/anteroom/anteroom/io/Frame$Type"), accessFlags := 16409, slot := 3, constantValue := 0 }, { name := "REMOVE", type := (.object "com/example/anteroom/anteroom/io/Frame$Type"), accessFlags := 16409, slot := 4, constantValue := 0 }, { name := "MKDIR", type := (.object "com/example/anteroom/anteroom/io/Frame$Type"), accessFlags := 16409, slot := 5, constantValue := 0 }, { name := "RENAME", type := (.object "com/example/anteroom/anteroom/io/Frame$Type"), accessFlags := 16409, slot := 6, constantValue := 0 }, { name := "SETSTAT", type := (.object "com/example/anteroom/anteroom/io/Frame$Type"), accessFlags := 16409, slot := 7, constantValue := 0 }, { name := "HOLD", type := (.object "com/example/anteroom/anteroom/io/Frame$Type"), accessFlags := 16409, slot := 8, constantValue := 0 }, { name := "REVOKED", type := (.object "com/example/anteroom/anteroom/io/Frame$Type"), accessFlags := 16409, slot := 9, constantValue := 0 }, { name := "STATUS", type := (.object "com/example/anteroom/anteroom/io/Frame$Type"), accessFlags := 16409, slot := 10, constantValue := 0 }, { name := "ATTRIBUTES", type := (.object "com/example/anteroom/anteroom/io/Frame$Type"), accessFlags := 16409, slot := 11, constantValue := 0 }, { name := "DATA", type := (.object "com/example/anteroom/anteroom/io/Frame$Type"), accessFlags := 16409, slot := 12, constantValue := 0 }, { name := "UNCHANGED", type := (.object "com/example/anteroom/anteroom/io/Frame$Type"), accessFlags := 16409, slot := 13, constantValue := 0 }, { name := "READY", type := (.object "com/example/anteroom/anteroom/io/Frame$Type"), accessFlags := 16409, slot := 14, constantValue := 0 }, { name := "ENTRY", type := (.object "com/example/anteroom/anteroom/io/Frame$Type"), accessFlags := 16409, slot := 15, constantValue := 0 }, { name := "DONE", type := (.object "com/example/anteroom/anteroom/io/Frame$Type"), accessFlags := 16409, slot := 16, constantValue := 0 }, { name := "HOLDER", type := (.object "com/example/anteroom/anteroom/io/Frame$Type"), accessFlags := 16409, slot := 17, constantValue := 0 }, { name := "REVOKE", type := (.object "com/example/anteroom/anteroom/io/Frame$Type"), accessFlags := 16409, slot := 18, constantValue := 0 }, { name := "code", type := .int, accessFlags := 18, slot := 3, constantValue := 0 }, { name := "header", type := .int, accessFlags := 18, slot := 4, constantValue := 0 }, { name := "$VALUES", type := (.array (.object "com/example/anteroom/anteroom/io/Frame$Type")), accessFlags := 4122, slot := 19, constantValue := 0 }]
  methods := #[k6m0]
  instanceTypes := #[(.object "java/lang/String"), .int, .int, .int, .int]
  staticTypes := #[(.object "com/example/anteroom/anteroom/io/Frame$Type"), (.object "com/example/anteroom/anteroom/io/Frame$Type"), (.object "com/example/anteroom/anteroom/io/Frame$Type"), (.object "com/example/anteroom/anteroom/io/Frame$Type"), (.object "com/example/anteroom/anteroom/io/Frame$Type"), (.object "com/example/anteroom/anteroom/io/Frame$Type"), (.object "com/example/anteroom/anteroom/io/Frame$Type"), (.object "com/example/anteroom/anteroom/io/Frame$Type"), (.object "com/example/anteroom/anteroom/io/Frame$Type"), (.object "com/example/anteroom/anteroom/io/Frame$Type"), (.object "com/example/anteroom/anteroom/io/Frame$Type"), (.object "com/example/anteroom/anteroom/io/Frame$Type"), (.object "com/example/anteroom/anteroom/io/Frame$Type"), (.object "com/example/anteroom/anteroom/io/Frame$Type"), (.object "com/example/anteroom/anteroom/io/Frame$Type"), (.object "com/example/anteroom/anteroom/io/Frame$Type"), (.object "com/example/anteroom/anteroom/io/Frame$Type"), (.object "com/example/anteroom/anteroom/io/Frame$Type"), (.object "com/example/anteroom/anteroom/io/Frame$Type"), (.array (.object "com/example/anteroom/anteroom/io/Frame$Type"))]
  resolved := Array.replicate 162 none
  statics := some 0 }

def pool7 : Array CpInfo := pool [(1, u "java/lang/Cloneable"), (0, .class_ 1), (0, u "java/lang/Object"), (0, .class_ 3)] 3

/-- java/lang/Cloneable -/
def k7 : Class := { plain "java/lang/Cloneable" (some 0) with
  accessFlags := 1537
  interfaces := #[]
  cf := some (fileOf pool7 2 #[] #[] 1537 4 #[] #[])
  fields := #[]
  methods := #[]
  instanceTypes := #[]
  staticTypes := #[]
  resolved := Array.replicate 8 none
  statics := none }

/-- the primitive boolean -/
def k8 : Class := { plain "boolean" none with kind := .primitive 'Z', accessFlags := 0x411 }
/-- [Z -/
def k9 : Class := { plain "[Z" (some 0) with kind := .array 8 .boolean, interfaces := #[7, 4], accessFlags := 1041 }

/-- the primitive byte -/
def k10 : Class := { plain "byte" none with kind := .primitive 'B', accessFlags := 0x411 }
/-- [B -/
def k11 : Class := { plain "[B" (some 0) with kind := .array 10 .byte, interfaces := #[7, 4], accessFlags := 1041 }

/-- the primitive int -/
def k12 : Class := { plain "int" none with kind := .primitive 'I', accessFlags := 0x411 }
/-- [I -/
def k13 : Class := { plain "[I" (some 0) with kind := .array 12 .int, interfaces := #[7, 4], accessFlags := 1041 }

/-- [Lcom/example/anteroom/anteroom/io/Frame$Type; -/
def k14 : Class := { plain "[Lcom/example/anteroom/anteroom/io/Frame$Type;" (some 0) with kind := .array 6 (.object "com/example/anteroom/anteroom/io/Frame$Type"), interfaces := #[7, 4], accessFlags := 1041 }

def heap : Heap := #[{ cls := 6, slots := #[.ref 1, .ref 2, .ref 3, .ref 4, .ref 5, .ref 6, .ref 7, .ref 8, .ref 9, .ref 10, .ref 11, .ref 12, .ref 13, .ref 14, .ref 15, .ref 16, .ref 17, .ref 18, .ref 19, .null], vm := .statics 6 },
  { cls := 6, slots := #[.null, .int 0, .int 0, .int 1, .int (0)], vm := .none },
  { cls := 6, slots := #[.null, .int 1, .int 0, .int 2, .int (8)], vm := .none },
  { cls := 6, slots := #[.null, .int 2, .int 0, .int 3, .int (37)], vm := .none },
  { cls := 6, slots := #[.null, .int 3, .int 0, .int 4, .int (0)], vm := .none },
  { cls := 6, slots := #[.null, .int 4, .int 0, .int 5, .int (1)], vm := .none },
  { cls := 6, slots := #[.null, .int 5, .int 0, .int 6, .int (27)], vm := .none },
  { cls := 6, slots := #[.null, .int 6, .int 0, .int 7, .int (5)], vm := .none },
  { cls := 6, slots := #[.null, .int 7, .int 0, .int 8, .int (27)], vm := .none },
  { cls := 6, slots := #[.null, .int 8, .int 0, .int 9, .int (-1)], vm := .none },
  { cls := 6, slots := #[.null, .int 9, .int 0, .int 10, .int (0)], vm := .none },
  { cls := 6, slots := #[.null, .int 10, .int 0, .int 64, .int (-1)], vm := .none },
  { cls := 6, slots := #[.null, .int 11, .int 0, .int 65, .int (-1)], vm := .none },
  { cls := 6, slots := #[.null, .int 12, .int 0, .int 66, .int (-1)], vm := .none },
  { cls := 6, slots := #[.null, .int 13, .int 0, .int 67, .int (-1)], vm := .none },
  { cls := 6, slots := #[.null, .int 14, .int 0, .int 68, .int (-1)], vm := .none },
  { cls := 6, slots := #[.null, .int 15, .int 0, .int 69, .int (-1)], vm := .none },
  { cls := 6, slots := #[.null, .int 16, .int 0, .int 70, .int (-1)], vm := .none },
  { cls := 6, slots := #[.null, .int 17, .int 0, .int 71, .int (-1)], vm := .none },
  { cls := 6, slots := #[.null, .int 18, .int 0, .int 72, .int (0)], vm := .none }]
def classes : Array Class := #[k0, k1, k2, k3, k4, k5, k6, k7, k8, k9, k10, k11, k12, k13, k14]
def interned : List (Array UInt16 × Addr) := []
def slotsUsed : Nat := 115
def theMethod : MethodId := ⟨1, 1⟩
def args0 : Array Value := #[.int 5]
def aboutOver (below : List Frame) : State where
  vm := { classes := classes, interned := interned.toArray }
  heap := heap
  slotsUsed := slotsUsed
  threads := #[{ frames := .invoking theMethod args0 :: below }]
def below0 : List Frame := [.native { method := ⟨0, 0⟩, args := #[] }]
def about1 : State := aboutOver below0
def p0 : Program := .bare "" "" ""
def e0 : Env := launch0.env 0 0 0
theorem w_frames : about1.frames = Frame.invoking theMethod args0 :: below0 := rfl
set_option maxRecDepth 65536 in
theorem w_args : argsFit about1.vm theMethod args0 = true := by decide +kernel
set_option maxRecDepth 65536 in
theorem w_heap : heapFits about1 = true := by decide +kernel
set_option maxRecDepth 65536 in
theorem w_runnable : about1.curStatus? = some .runnable := by decide +kernel
set_option maxRecDepth 65536 in
theorem w_alone : about1.alone = true := by decide +kernel
set_option maxRecDepth 65536 in
theorem w_named : about1.methodNamed? x = some theMethod := by decide +kernel
set_option maxRecDepth 65536 in
theorem w_hears : about1.hears theMethod below0 = true := by decide +kernel
set_option maxRecDepth 65536 in
theorem w_ripe : about1.ripe theMethod args0 below0 = true := by decide +kernel
theorem w_running : about1.status = .running := rfl
set_option maxRecDepth 65536 in
theorem w_room : about1.hasRoom e0.platform room_1 = true :=
  launch0.hasRoom_least _ room_1 (by decide +kernel) (by decide +kernel) (by decide +kernel) (by decide +kernel) (by decide +kernel) (by decide +kernel)
theorem allAtoms_all (ts : List Jvm.Cond) (a : Array Jvm.Value) (st : Jvm.State) : (allAtoms ts).before a st = ts.all (fun c => c.before a st) := by
  induction ts with
  | nil => rfl
  | cons c t ih =>
    show (Jvm.Cond.and c (allAtoms t)).before a st = _
    rw [Jvm.Cond.before_and, ih, List.all_cons]
def words1 : List Jvm.Cond := Jvm.Cond.code x code maxLocals ret :: tables_1
/-- a 'code' word, met by the world's own term for the bytes: nothing is compared byte by byte -/
theorem code_word {y : MethodName} {bytes : ByteArray} {mx : Nat} {rt : Option FieldType} {a : Array Value} {s : State} {m : MethodId} {meth : Method} {c : Code} (h1 : s.methodNamed? y = some m) (h2 : s.vm.method? m = some meth) (h3 : meth.code = some c) (h4 : c.code = bytes)
    (h5 : (c.maxLocals == mx && c.exceptionTable.isEmpty && decide (c.maxStack ≤ mostOperands) && decide (meth.sig.returnType = rt) && !meth.locks && decide (parseMethodDescriptor y.desc = some meth.sig)) = true) : (Jvm.Cond.code y bytes mx rt).before a s = true := by
  simp only [Bool.and_eq_true, beq_iff_eq, Bool.not_eq_true', decide_eq_true_eq] at h5
  obtain ⟨⟨⟨⟨⟨g1, g2⟩, g3⟩, g4⟩, g5⟩, g6⟩ := h5
  simp [Cond.before, Cond.holds, Cond.value, h1, h2, h3, h4, g1, g2, g3, g4, g5, g6]
def isCode : Jvm.Cond → Bool
  | .code _ _ _ _ => true
  | _ => false
theorem all_split {L : List Jvm.Cond} {P : Jvm.Cond → Bool} (h1 : L.all (fun c => isCode c || P c) = true) (h2 : ∀ c ∈ L.filter isCode, P c = true) : L.all P = true := by
  refine List.all_eq_true.mpr fun c hc => ?_
  have h := List.all_eq_true.mp h1 c hc
  rcases Bool.eq_false_or_eq_true (isCode c) with hi | hi
  · exact h2 c (List.mem_filter.mpr ⟨hc, hi⟩)
  · simpa [hi] using h
set_option maxRecDepth 65536 in
theorem w_c0 : (Jvm.Cond.code x code maxLocals ret).before args0 about1 = true := code_word (m := ⟨1, 1⟩) (meth := k1m1) (c := k1c1) (by decide +kernel) rfl rfl rfl (by decide +kernel)
set_option maxRecDepth 65536 in
theorem w_c1 : (Jvm.Cond.code ({ cls := "com/example/anteroom/anteroom/io/Frame$Type", name := "namesPath", desc := "()Z" } : Jvm.MethodName) prog_12_method_5_code (1 : Nat) (Option.some Jvm.ClassFile.FieldType.boolean)).before args0 about1 = true := code_word (m := ⟨6, 0⟩) (meth := k6m0) (c := k6c0) (by decide +kernel) rfl rfl rfl (by decide +kernel)
def codes1 : List Jvm.Cond := [Jvm.Cond.code x code maxLocals ret, Jvm.Cond.code ({ cls := "com/example/anteroom/anteroom/io/Frame$Type", name := "namesPath", desc := "()Z" } : Jvm.MethodName) prog_12_method_5_code (1 : Nat) (Option.some Jvm.ClassFile.FieldType.boolean)]
set_option maxRecDepth 65536 in
theorem codes_eq : words1.filter isCode = codes1 := rfl
theorem w_codes : ∀ c ∈ words1.filter isCode, c.before args0 about1 = true := by
  rw [codes_eq]
  intro c hc
  simp only [codes1, List.mem_cons, List.not_mem_nil, or_false] at hc
  rcases hc with rfl | rfl
  · exact w_c0
  · exact w_c1
set_option maxRecDepth 65536 in
theorem w_t1 : (words1.take 24).all (fun c => isCode c || c.before args0 about1) = true := by decide +kernel
set_option maxRecDepth 65536 in
theorem w_t2 : ((words1.drop 24).take 24).all (fun c => isCode c || c.before args0 about1) = true := by decide +kernel
set_option maxRecDepth 65536 in
theorem w_t3 : ((words1.drop 24).drop 24).all (fun c => isCode c || c.before args0 about1) = true := by decide +kernel
theorem w_tables : (allAtoms (Jvm.Cond.code x code maxLocals ret :: tables_1)).before args0 about1 = true := by
  rw [allAtoms_all]
  show words1.all (fun c => c.before args0 about1) = true
  refine all_split ?_ w_codes
  rw [← List.take_append_drop 24 words1, List.all_append, w_t1, ← List.take_append_drop 24 (words1.drop 24), List.all_append, w_t2, w_t3]
  rfl
set_option maxRecDepth 65536 in
theorem w_case : (Jvm.Cond.and given_1 narrow_1).before args0 about1 = true := by decide +kernel
theorem w_applies : (headSpec (Jvm.Cond.code x code maxLocals ret :: tables_1) room_1).applies x e0.platform about1 = true :=
  (Spec.applies_iff w_frames).mpr ⟨w_running, w_runnable, w_alone, w_named, w_hears, w_ripe, w_room, w_tables⟩
theorem atStart : AtStart classFile x code maxLocals ret World_1 tables_1 room_1 Calls_1 rest_1 Pre_1 launch0 p0 e0 about1 theMethod args0 below0 :=
  ⟨lists_1, trivial, launch0.admits_env _ _ _, launch0.least_env, fairChoices_fair.cas, fairChoices_fair.clock, w_frames, w_args, w_heap, w_applies, trivial, trivial, w_case⟩
end start1
theorem witness_1 : WitnessClaimed_1 := ⟨start1.p0, start1.e0, start1.about1, start1.theMethod, start1.args0, start1.below0, start1.atStart⟩
end Jvm.Pilot.@@N@@
