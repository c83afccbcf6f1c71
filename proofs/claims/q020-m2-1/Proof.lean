import JvmDerived
import JvmDerived.Pilot.@@N@@Statement
import JvmDerived.Pilot.@@N@@Code
set_option linter.unusedVariables false
set_option linter.unusedSimpArgs false
namespace Jvm.Pilot.@@N@@
open Jvm Jvm.ClassFile Sem Op Lib Jvm.Free Jvm.Stand Jvm.LawKit Jvm.RoadKit Bundle Jvm.Pilot.@@N@@.Jvm.D
section Own
variable {p : Program} {l : Launch} {e : Env} {R : Room} {s : State} {m : MethodId} {args : Array Value} {below : List Frame} {meth : Method} {c : Code} {T : State} {locs : List Loc} {cells slots : Nat} {Z : State} {a0 : Array Value} {h : Heap} {W : Outcome → State → Prop} {B : ByteArray} {own : String} {ml : Nat} {pc pc' : Nat} {Ls : Array Slot} {st : List Value}
/-- the walk from T ends, and W holds of its end -/
def Go (p : Program) (e : Env) (below : List Frame) (W : Outcome → State → Prop) (T : State) : Prop := ∃ t o, Steps p.tables e below T t ∧ t.status = .running ∧ Ended t below o ∧ W o t
theorem Go.via {T' : State} (h : ∀ t, Steps p.tables e below T' t → Steps p.tables e below T t) (k : Go p e below W T') : Go p e below W T := by
  obtain ⟨t, o, s, r⟩ := k
  exact ⟨t, o, h t s, r⟩
def Ctx (p : Program) (s : State) (m : MethodId) (c : Code) (Z : State) (B : ByteArray) (own : String) (ml : Nat) : Prop := p.tables.exec = Jvm.exec ∧ c.code = B ∧ Z.Warmed39 s.vm ∧ s.vm.findClass own = some m.cls ∧ c.maxLocals = ml
theorem Ctx.at (K : Ctx p s m c Z B own ml) {r} (d : decode B pc = r) : decode c.code pc = r := K.2.1 ▸ d
def Con (l : Launch) (y : MethodName) (B : ByteArray) (ml : Nat) (rt : Option FieldType) (ws : List Jvm.Cond) (rm : Room) (Z : State) (as' : Array Value) (h0 : Heap) (Q : Option Value → Heap → List Loc → Prop) : Prop :=
  MetFree l y (head1 (Jvm.Cond.code y B ml rt :: ws) rm) (fun a U => a = as' ∧ Z.Warmed39 U.vm ∧ U.heap = h0) (fun _ _ _ _ _ => True) (fun _ U o U' => ∃ v L, o = .returned v ∧ Q v U'.heap L ∧ FrameEnd U o U' L rm.cells rm.slots)
/-- what a walk of a body owes at its end -/
def End (s : State) (R : Room) (Q : Option Value → Heap → List Loc → Prop) (o : Outcome) (U : State) : Prop := ∃ v L, o = .returned v ∧ Q v U.heap L ∧ FrameEnd s o U L R.cells R.slots
theorem own_enter {y : MethodName} {rt : Option FieldType} {ws : List Jvm.Cond} {rm : Room} {as' : Array Value} {h0 : Heap} {Q : Option Value → Heap → List Loc → Prop} (hpl : plainFor y = true) (hef : ∀ m, entryFrame m as' ml = mkF m 0 Ls [])
    (body : ∀ (p : Program) (e : Env) (s : State) (m : MethodId) (below : List Frame) (meth : Method) (c : Code) (T : State), Ctx p s m c Z B y.cls ml → Stand p l e rm s m as' below meth c T [] 0 0 → T.heap = h0 → meth.sig.returnType = rt → meth.locks = false → meth.name = y.name →
      Go p e below (End s rm Q) (T.setTop (mkF m 0 Ls []))) : Con l y B ml rt ws rm Z as' h0 Q := by
  refine MetFree.of_bodySF hpl hisR ?_
  intro p e s m args below meth c s₁ Bd hml0 hP hK
  obtain ⟨rfl, hZ, hh⟩ := hP
  have k := body p e s m below meth c s₁ ⟨Bd.exec, Bd.bytes, hZ, findClass_of_methodNamed Bd.named, hml0⟩ (Stand.of_body Bd) (by rw [← hh, Bd.state]; rfl) Bd.returns Bd.notSynchronized (name_of_methodNamed Bd.named Bd.method).1
  rw [← hef] at k
  exact k
theorem own_le {a b : Nat} (h : Nat.ble a b = true) : a ≤ b := Nat.le_of_ble_eq_true h
theorem own_sta_keep {h' : Heap} {C n d : String} {v : Value} (F : Sta Z h C n d v) (K : Keep h h' []) : Sta Z h' C n d v := by
  obtain ⟨cf, i, k, f, st, cell, h1, h2, h3, h4, h5, r⟩ := F
  exact ⟨cf, i, k, f, st, cell, h1, h2, h3, h4, K.2.1 _ _ h5 nin0, r⟩
theorem own_sto {h : Heap} {a y : Addr} {k : ClassId} {ty : FieldType} {n : Int32} {vs : List Value} {dv : Value} {C : String} (F : Arv Z h a k ty n vs dv) (O : Ovr Z k C) (I : Ins Z h y C true) : Sto Z h a (.ref y) := by
  obtain ⟨c, A, q, -⟩ := F
  exact Sto.ofV A q O I
theorem own_w {ts : List Jvm.Cond} (hw : ∀ d ∈ ts, d.before a0 Z = true) (i : Nat) {d : Jvm.Cond} (h : ts[i]? = some d) : d.before a0 Z = true := hw _ (List.mem_of_getElem? h)
theorem own_iloadN (K : Ctx p s m c Z B own ml) (X : Stand p l e R s m args below meth c T locs cells slots) {i : Fin 4} {v : Int32} (hd : decode B pc = .ok (.iload_n i, 1)) (hl : Ls[i.val]? = some (.val (.int v))) (hp : pc + 1 = pc') (k : Go p e below W (T.setTop (mkF m pc' Ls (.int v :: st)))) : Go p e below W (T.setTop (mkF m pc Ls st)) := by
  subst hp; exact k.via fun t k => XS.iloadN X.here K.1 rfl (K.at hd) hl k
theorem own_iload (K : Ctx p s m c Z B own ml) (X : Stand p l e R s m args below meth c T locs cells slots) {i : Nat} {v : Int32} (hd : decode B pc = .ok (.iload i, 2)) (hl : Ls[i]? = some (.val (.int v))) (hp : pc + 2 = pc') (k : Go p e below W (T.setTop (mkF m pc' Ls (.int v :: st)))) : Go p e below W (T.setTop (mkF m pc Ls st)) := by
  subst hp; exact k.via fun t k => XS.iload X.here K.1 rfl (K.at hd) hl k
theorem own_lloadN (K : Ctx p s m c Z B own ml) (X : Stand p l e R s m args below meth c T locs cells slots) {i : Fin 4} {v : Int64} (hd : decode B pc = .ok (.lload_n i, 1)) (hl : Ls[i.val]? = some (.val (.long v))) (hp : pc + 1 = pc') (k : Go p e below W (T.setTop (mkF m pc' Ls (.long v :: st)))) : Go p e below W (T.setTop (mkF m pc Ls st)) := by
  subst hp; exact k.via fun t k => XS.lloadN X.here K.1 rfl (K.at hd) hl k
theorem own_lload (K : Ctx p s m c Z B own ml) (X : Stand p l e R s m args below meth c T locs cells slots) {i : Nat} {v : Int64} (hd : decode B pc = .ok (.lload i, 2)) (hl : Ls[i]? = some (.val (.long v))) (hp : pc + 2 = pc') (k : Go p e below W (T.setTop (mkF m pc' Ls (.long v :: st)))) : Go p e below W (T.setTop (mkF m pc Ls st)) := by
  subst hp; exact k.via fun t k => XS.lload X.here K.1 rfl (K.at hd) hl k
theorem own_aloadN (K : Ctx p s m c Z B own ml) (X : Stand p l e R s m args below meth c T locs cells slots) {i : Fin 4} {v : Value} (hd : decode B pc = .ok (.aload_n i, 1)) (hl : Ls[i.val]? = some (.val v)) (hv : v.isRef = true) (hp : pc + 1 = pc') (k : Go p e below W (T.setTop (mkF m pc' Ls (v :: st)))) : Go p e below W (T.setTop (mkF m pc Ls st)) := by
  subst hp; exact k.via fun t k => XS.aloadN X.here K.1 rfl (K.at hd) hl hv k
theorem own_aload (K : Ctx p s m c Z B own ml) (X : Stand p l e R s m args below meth c T locs cells slots) {i : Nat} {v : Value} (hd : decode B pc = .ok (.aload i, 2)) (hl : Ls[i]? = some (.val v)) (hv : v.isRef = true) (hp : pc + 2 = pc') (k : Go p e below W (T.setTop (mkF m pc' Ls (v :: st)))) : Go p e below W (T.setTop (mkF m pc Ls st)) := by
  subst hp; exact k.via fun t k => XS.aload X.here K.1 rfl (K.at hd) hl hv k
theorem own_iconst (K : Ctx p s m c Z B own ml) (X : Stand p l e R s m args below meth c T locs cells slots) {i : Int} {v : Int32} (hd : decode B pc = .ok (.iconst i, 1)) (hv : Int32.ofInt i = v) (hp : pc + 1 = pc') (k : Go p e below W (T.setTop (mkF m pc' Ls (.int v :: st)))) : Go p e below W (T.setTop (mkF m pc Ls st)) := by
  subst hp hv; exact k.via fun t k => XS.iconst X.here K.1 rfl (K.at hd) k
theorem own_bipush (K : Ctx p s m c Z B own ml) (X : Stand p l e R s m args below meth c T locs cells slots) {i : Int} {v : Int32} (hd : decode B pc = .ok (.bipush i, 2)) (hv : (Int8.ofInt i).toInt32 = v) (hp : pc + 2 = pc') (k : Go p e below W (T.setTop (mkF m pc' Ls (.int v :: st)))) : Go p e below W (T.setTop (mkF m pc Ls st)) := by
  subst hp hv; exact k.via fun t k => XS.bipush X.here K.1 rfl (K.at hd) k
theorem own_sipush (K : Ctx p s m c Z B own ml) (X : Stand p l e R s m args below meth c T locs cells slots) {i : Int} {v : Int32} (hd : decode B pc = .ok (.sipush i, 3)) (hv : (Int16.ofInt i).toInt32 = v) (hp : pc + 3 = pc') (k : Go p e below W (T.setTop (mkF m pc' Ls (.int v :: st)))) : Go p e below W (T.setTop (mkF m pc Ls st)) := by
  subst hp hv; exact k.via fun t k => XS.sipush X.here K.1 rfl (K.at hd) k
theorem own_lconst (K : Ctx p s m c Z B own ml) (X : Stand p l e R s m args below meth c T locs cells slots) {i : Fin 2} {v : Int64} (hd : decode B pc = .ok (.lconst i, 1)) (hv : Int64.ofNat i = v) (hp : pc + 1 = pc') (k : Go p e below W (T.setTop (mkF m pc' Ls (.long v :: st)))) : Go p e below W (T.setTop (mkF m pc Ls st)) := by
  subst hp hv; exact k.via fun t k => XS.lconst X.here K.1 rfl (K.at hd) k
theorem own_aconst_null (K : Ctx p s m c Z B own ml) (X : Stand p l e R s m args below meth c T locs cells slots)  (hd : decode B pc = .ok (.aconst_null, 1))  (hp : pc + 1 = pc') (k : Go p e below W (T.setTop (mkF m pc' Ls (.null :: st)))) : Go p e below W (T.setTop (mkF m pc Ls st)) := by
  subst hp; exact k.via fun t k => XS.aconstNull X.here K.1 rfl (K.at hd) k
theorem own_iadd (K : Ctx p s m c Z B own ml) (X : Stand p l e R s m args below meth c T locs cells slots) {x y : Int32} (hd : decode B pc = .ok (.iadd, 1))  (hp : pc + 1 = pc') (k : Go p e below W (T.setTop (mkF m pc' Ls (.int (x + y) :: st)))) : Go p e below W (T.setTop (mkF m pc Ls (.int y :: .int x :: st))) := by
  subst hp; exact k.via fun t k => XS.iadd X.here K.1 rfl (K.at hd) rfl k
theorem own_isub (K : Ctx p s m c Z B own ml) (X : Stand p l e R s m args below meth c T locs cells slots) {x y : Int32} (hd : decode B pc = .ok (.isub, 1))  (hp : pc + 1 = pc') (k : Go p e below W (T.setTop (mkF m pc' Ls (.int (x - y) :: st)))) : Go p e below W (T.setTop (mkF m pc Ls (.int y :: .int x :: st))) := by
  subst hp; exact k.via fun t k => XS.isub X.here K.1 rfl (K.at hd) rfl k
theorem own_imul (K : Ctx p s m c Z B own ml) (X : Stand p l e R s m args below meth c T locs cells slots) {x y : Int32} (hd : decode B pc = .ok (.imul, 1))  (hp : pc + 1 = pc') (k : Go p e below W (T.setTop (mkF m pc' Ls (.int (x * y) :: st)))) : Go p e below W (T.setTop (mkF m pc Ls (.int y :: .int x :: st))) := by
  subst hp; exact k.via fun t k => XS.imul X.here K.1 rfl (K.at hd) rfl k
theorem own_iand (K : Ctx p s m c Z B own ml) (X : Stand p l e R s m args below meth c T locs cells slots) {x y : Int32} (hd : decode B pc = .ok (.iand, 1))  (hp : pc + 1 = pc') (k : Go p e below W (T.setTop (mkF m pc' Ls (.int (x &&& y) :: st)))) : Go p e below W (T.setTop (mkF m pc Ls (.int y :: .int x :: st))) := by
  subst hp; exact k.via fun t k => XS.iand X.here K.1 rfl (K.at hd) rfl k
theorem own_ior (K : Ctx p s m c Z B own ml) (X : Stand p l e R s m args below meth c T locs cells slots) {x y : Int32} (hd : decode B pc = .ok (.ior, 1))  (hp : pc + 1 = pc') (k : Go p e below W (T.setTop (mkF m pc' Ls (.int (x ||| y) :: st)))) : Go p e below W (T.setTop (mkF m pc Ls (.int y :: .int x :: st))) := by
  subst hp; exact k.via fun t k => XS.ior X.here K.1 rfl (K.at hd) rfl k
theorem own_ixor (K : Ctx p s m c Z B own ml) (X : Stand p l e R s m args below meth c T locs cells slots) {x y : Int32} (hd : decode B pc = .ok (.ixor, 1))  (hp : pc + 1 = pc') (k : Go p e below W (T.setTop (mkF m pc' Ls (.int (x ^^^ y) :: st)))) : Go p e below W (T.setTop (mkF m pc Ls (.int y :: .int x :: st))) := by
  subst hp; exact k.via fun t k => XS.ixor X.here K.1 rfl (K.at hd) rfl k
theorem own_ishl (K : Ctx p s m c Z B own ml) (X : Stand p l e R s m args below meth c T locs cells slots) {x y : Int32} (hd : decode B pc = .ok (.ishl, 1))  (hp : pc + 1 = pc') (k : Go p e below W (T.setTop (mkF m pc' Ls (.int (x <<< (y &&& 31)) :: st)))) : Go p e below W (T.setTop (mkF m pc Ls (.int y :: .int x :: st))) := by
  subst hp; exact k.via fun t k => XS.ishl X.here K.1 rfl (K.at hd) rfl k
theorem own_ishr (K : Ctx p s m c Z B own ml) (X : Stand p l e R s m args below meth c T locs cells slots) {x y : Int32} (hd : decode B pc = .ok (.ishr, 1))  (hp : pc + 1 = pc') (k : Go p e below W (T.setTop (mkF m pc' Ls (.int (x >>> (y &&& 31)) :: st)))) : Go p e below W (T.setTop (mkF m pc Ls (.int y :: .int x :: st))) := by
  subst hp; exact k.via fun t k => XS.ishr X.here K.1 rfl (K.at hd) rfl k
theorem own_iushr (K : Ctx p s m c Z B own ml) (X : Stand p l e R s m args below meth c T locs cells slots) {x y : Int32} (hd : decode B pc = .ok (.iushr, 1))  (hp : pc + 1 = pc') (k : Go p e below W (T.setTop (mkF m pc' Ls (.int (XT.ushr x y) :: st)))) : Go p e below W (T.setTop (mkF m pc Ls (.int y :: .int x :: st))) := by
  subst hp; exact k.via fun t k => XS.iushr X.here K.1 rfl (K.at hd) rfl k
theorem own_ladd (K : Ctx p s m c Z B own ml) (X : Stand p l e R s m args below meth c T locs cells slots) {x y : Int64} (hd : decode B pc = .ok (.ladd, 1))  (hp : pc + 1 = pc') (k : Go p e below W (T.setTop (mkF m pc' Ls (.long (x + y) :: st)))) : Go p e below W (T.setTop (mkF m pc Ls (.long y :: .long x :: st))) := by
  subst hp; exact k.via fun t k => XS.ladd X.here K.1 rfl (K.at hd) rfl k
theorem own_lsub (K : Ctx p s m c Z B own ml) (X : Stand p l e R s m args below meth c T locs cells slots) {x y : Int64} (hd : decode B pc = .ok (.lsub, 1))  (hp : pc + 1 = pc') (k : Go p e below W (T.setTop (mkF m pc' Ls (.long (x - y) :: st)))) : Go p e below W (T.setTop (mkF m pc Ls (.long y :: .long x :: st))) := by
  subst hp; exact k.via fun t k => XS.lsub X.here K.1 rfl (K.at hd) rfl k
theorem own_lmul (K : Ctx p s m c Z B own ml) (X : Stand p l e R s m args below meth c T locs cells slots) {x y : Int64} (hd : decode B pc = .ok (.lmul, 1))  (hp : pc + 1 = pc') (k : Go p e below W (T.setTop (mkF m pc' Ls (.long (x * y) :: st)))) : Go p e below W (T.setTop (mkF m pc Ls (.long y :: .long x :: st))) := by
  subst hp; exact k.via fun t k => XS.lmul X.here K.1 rfl (K.at hd) rfl k
theorem own_irem (K : Ctx p s m c Z B own ml) (X : Stand p l e R s m args below meth c T locs cells slots) {x y : Int32} (hd : decode B pc = .ok (.irem, 1)) (hy : y ≠ 0) (hp : pc + 1 = pc') (k : Go p e below W (T.setTop (mkF m pc' Ls (.int (x % y) :: st)))) : Go p e below W (T.setTop (mkF m pc Ls (.int y :: .int x :: st))) := by
  subst hp; exact k.via fun t k => iremM (g := mkF m pc Ls (.int y :: .int x :: st)) X K.1 rfl (K.at hd) rfl hy k
theorem own_idiv (K : Ctx p s m c Z B own ml) (X : Stand p l e R s m args below meth c T locs cells slots) {x y : Int32} (hd : decode B pc = .ok (.idiv, 1)) (hy : y ≠ 0) (hp : pc + 1 = pc') (k : Go p e below W (T.setTop (mkF m pc' Ls (.int (x / y) :: st)))) : Go p e below W (T.setTop (mkF m pc Ls (.int y :: .int x :: st))) := by
  subst hp; exact k.via fun t k => XS.idiv X.here K.1 rfl (K.at hd) rfl hy k
theorem own_lcmp (K : Ctx p s m c Z B own ml) (X : Stand p l e R s m args below meth c T locs cells slots) {x y : Int64} (hd : decode B pc = .ok (.lcmp, 1))  (hp : pc + 1 = pc') (k : Go p e below W (T.setTop (mkF m pc' Ls (.int (XT.cmpL x y) :: st)))) : Go p e below W (T.setTop (mkF m pc Ls (.long y :: .long x :: st))) := by
  subst hp; exact k.via fun t k => XS.lcmp X.here K.1 rfl (K.at hd) rfl k
theorem own_i2l (K : Ctx p s m c Z B own ml) (X : Stand p l e R s m args below meth c T locs cells slots) {x : Int32} (hd : decode B pc = .ok (.i2l, 1))  (hp : pc + 1 = pc') (k : Go p e below W (T.setTop (mkF m pc' Ls (.long x.toInt64 :: st)))) : Go p e below W (T.setTop (mkF m pc Ls (.int x :: st))) := by
  subst hp; exact k.via fun t k => XS.i2l X.here K.1 rfl (K.at hd) rfl k
theorem own_l2i (K : Ctx p s m c Z B own ml) (X : Stand p l e R s m args below meth c T locs cells slots) {x : Int64} (hd : decode B pc = .ok (.l2i, 1))  (hp : pc + 1 = pc') (k : Go p e below W (T.setTop (mkF m pc' Ls (.int x.toInt32 :: st)))) : Go p e below W (T.setTop (mkF m pc Ls (.long x :: st))) := by
  subst hp; exact k.via fun t k => XS.l2i X.here K.1 rfl (K.at hd) rfl k
theorem own_i2c (K : Ctx p s m c Z B own ml) (X : Stand p l e R s m args below meth c T locs cells slots) {x : Int32} (hd : decode B pc = .ok (.i2c, 1))  (hp : pc + 1 = pc') (k : Go p e below W (T.setTop (mkF m pc' Ls (.int x.toUInt32.toUInt16.toUInt32.toInt32 :: st)))) : Go p e below W (T.setTop (mkF m pc Ls (.int x :: st))) := by
  subst hp; exact k.via fun t k => XS.i2c X.here K.1 rfl (K.at hd) rfl k
theorem own_i2b (K : Ctx p s m c Z B own ml) (X : Stand p l e R s m args below meth c T locs cells slots) {x : Int32} (hd : decode B pc = .ok (.i2b, 1))  (hp : pc + 1 = pc') (k : Go p e below W (T.setTop (mkF m pc' Ls (.int x.toInt8.toInt32 :: st)))) : Go p e below W (T.setTop (mkF m pc Ls (.int x :: st))) := by
  subst hp; exact k.via fun t k => XS.i2b X.here K.1 rfl (K.at hd) rfl k
theorem own_dup (K : Ctx p s m c Z B own ml) (X : Stand p l e R s m args below meth c T locs cells slots) {x : Value} (hd : decode B pc = .ok (.dup, 1)) (hc : x.category = 1) (hp : pc + 1 = pc') (k : Go p e below W (T.setTop (mkF m pc' Ls (x :: x :: st)))) : Go p e below W (T.setTop (mkF m pc Ls (x :: st))) := by
  subst hp; exact k.via fun t k => XS.dup X.here K.1 rfl (K.at hd) rfl hc k
theorem own_dup_x1 (K : Ctx p s m c Z B own ml) (X : Stand p l e R s m args below meth c T locs cells slots) {x y : Value} (hd : decode B pc = .ok (.dup_x1, 1)) (hc : x.category = 1) (hc' : y.category = 1) (hp : pc + 1 = pc') (k : Go p e below W (T.setTop (mkF m pc' Ls (x :: y :: x :: st)))) : Go p e below W (T.setTop (mkF m pc Ls (x :: y :: st))) := by
  subst hp; exact k.via fun t k => XS.dupX1 X.here K.1 rfl (K.at hd) rfl hc hc' k
theorem own_dup2 (K : Ctx p s m c Z B own ml) (X : Stand p l e R s m args below meth c T locs cells slots) {x y : Value} (hd : decode B pc = .ok (.dup2, 1)) (hc : x.category = 1) (hc' : y.category = 1) (hp : pc + 1 = pc') (k : Go p e below W (T.setTop (mkF m pc' Ls (x :: y :: x :: y :: st)))) : Go p e below W (T.setTop (mkF m pc Ls (x :: y :: st))) := by
  subst hp; exact k.via fun t k => XT.dup2 X.here K.1 rfl (K.at hd) rfl hc hc' k
theorem own_dup2L (K : Ctx p s m c Z B own ml) (X : Stand p l e R s m args below meth c T locs cells slots) {x : Int64} (hd : decode B pc = .ok (.dup2, 1))  (hp : pc + 1 = pc') (k : Go p e below W (T.setTop (mkF m pc' Ls (.long x :: .long x :: st)))) : Go p e below W (T.setTop (mkF m pc Ls (.long x :: st))) := by
  subst hp; exact k.via fun t k => XT.dup2L X.here K.1 rfl (K.at hd) rfl k
theorem own_pop (K : Ctx p s m c Z B own ml) (X : Stand p l e R s m args below meth c T locs cells slots) {x : Value} (hd : decode B pc = .ok (.pop, 1)) (hc : x.category = 1) (hp : pc + 1 = pc') (k : Go p e below W (T.setTop (mkF m pc' Ls st))) : Go p e below W (T.setTop (mkF m pc Ls (x :: st))) := by
  subst hp; exact k.via fun t k => XS.pop X.here K.1 rfl (K.at hd) rfl hc k
theorem own_istoreN (K : Ctx p s m c Z B own ml) (X : Stand p l e R s m args below meth c T locs cells slots) {i : Fin 4} {x : Int32} {l' : Array Slot} (hd : decode B pc = .ok (.istore_n i, 1)) (hl : storeLocals Ls i.val (.int x) = some l') (hp : pc + 1 = pc') (k : Go p e below W (T.setTop (mkF m pc' l' st))) : Go p e below W (T.setTop (mkF m pc Ls (.int x :: st))) := by
  subst hp; exact k.via fun t k => XS.istoreN X.here K.1 rfl (K.at hd) rfl hl k
theorem own_istore (K : Ctx p s m c Z B own ml) (X : Stand p l e R s m args below meth c T locs cells slots) {i : Nat} {x : Int32} {l' : Array Slot} (hd : decode B pc = .ok (.istore i, 2)) (hl : storeLocals Ls i (.int x) = some l') (hp : pc + 2 = pc') (k : Go p e below W (T.setTop (mkF m pc' l' st))) : Go p e below W (T.setTop (mkF m pc Ls (.int x :: st))) := by
  subst hp; exact k.via fun t k => XS.istore X.here K.1 rfl (K.at hd) rfl hl k
theorem own_lstoreN (K : Ctx p s m c Z B own ml) (X : Stand p l e R s m args below meth c T locs cells slots) {i : Fin 4} {x : Int64} {l' : Array Slot} (hd : decode B pc = .ok (.lstore_n i, 1)) (hl : storeLocals Ls i.val (.long x) = some l') (hp : pc + 1 = pc') (k : Go p e below W (T.setTop (mkF m pc' l' st))) : Go p e below W (T.setTop (mkF m pc Ls (.long x :: st))) := by
  subst hp; exact k.via fun t k => XS.lstoreN X.here K.1 rfl (K.at hd) rfl hl k
theorem own_lstore (K : Ctx p s m c Z B own ml) (X : Stand p l e R s m args below meth c T locs cells slots) {i : Nat} {x : Int64} {l' : Array Slot} (hd : decode B pc = .ok (.lstore i, 2)) (hl : storeLocals Ls i (.long x) = some l') (hp : pc + 2 = pc') (k : Go p e below W (T.setTop (mkF m pc' l' st))) : Go p e below W (T.setTop (mkF m pc Ls (.long x :: st))) := by
  subst hp; exact k.via fun t k => XS.lstore X.here K.1 rfl (K.at hd) rfl hl k
theorem own_astoreN (K : Ctx p s m c Z B own ml) (X : Stand p l e R s m args below meth c T locs cells slots) {i : Fin 4} {x : Value} {l' : Array Slot} (hd : decode B pc = .ok (.astore_n i, 1)) (hv : x.isRef = true) (hl : storeLocals Ls i.val x = some l') (hp : pc + 1 = pc') (k : Go p e below W (T.setTop (mkF m pc' l' st))) : Go p e below W (T.setTop (mkF m pc Ls (x :: st))) := by
  subst hp; exact k.via fun t k => XS.astoreN X.here K.1 rfl (K.at hd) rfl hv hl k
theorem own_astore (K : Ctx p s m c Z B own ml) (X : Stand p l e R s m args below meth c T locs cells slots) {i : Nat} {x : Value} {l' : Array Slot} (hd : decode B pc = .ok (.astore i, 2)) (hv : x.isRef = true) (hl : storeLocals Ls i x = some l') (hp : pc + 2 = pc') (k : Go p e below W (T.setTop (mkF m pc' l' st))) : Go p e below W (T.setTop (mkF m pc Ls (x :: st))) := by
  subst hp; exact k.via fun t k => XS.astore X.here K.1 rfl (K.at hd) rfl hv hl k
theorem own_iinc (K : Ctx p s m c Z B own ml) (X : Stand p l e R s m args below meth c T locs cells slots) {i : Nat} {n : Int} {x v : Int32} {l' : Array Slot} (hd : decode B pc = .ok (.iinc i n, 3)) (hv : Int32.ofInt n = v) (hl : Ls[i]? = some (.val (.int x))) (hl' : storeLocals Ls i (.int (x + v)) = some l') (hp : pc + 3 = pc') (k : Go p e below W (T.setTop (mkF m pc' l' st))) : Go p e below W (T.setTop (mkF m pc Ls st)) := by
  subst hp hv; exact k.via fun t k => XS.iinc X.here K.1 rfl (K.at hd) hl hl' k
theorem own_ldcI (K : Ctx p s m c Z B own ml) (X : Stand p l e R s m args below meth c T locs cells slots) {i : Nat} {v : Int32} (hd : decode B pc = .ok (.ldc i, 2)) (w : (Jvm.Cond.constant own i v).before a0 Z = true) (hp : pc + 2 = pc') (k : Go p e below W (T.setTop (mkF m pc' Ls (.int v :: st)))) : Go p e below W (T.setTop (mkF m pc Ls st)) := by
  subst hp; exact k.via fun t k => X.ldcInt K.1 K.2.2.2.1 (mv K.2.2.1 w) (g := mkF m pc Ls st) rfl (K.at hd) t k
theorem own_ldc2J (K : Ctx p s m c Z B own ml) (X : Stand p l e R s m args below meth c T locs cells slots) {i : Nat} {v : Int64} (hd : decode B pc = .ok (.ldc2_w i, 3)) (w : (Jvm.Cond.constantLong own i v).before a0 Z = true) (hp : pc + 3 = pc') (k : Go p e below W (T.setTop (mkF m pc' Ls (.long v :: st)))) : Go p e below W (T.setTop (mkF m pc Ls st)) := by
  subst hp; exact k.via fun t k => X.ldc2Long K.1 K.2.2.2.1 (mv K.2.2.1 w) (g := mkF m pc Ls st) rfl (K.at hd) t k
theorem own_ifnullYes (K : Ctx p s m c Z B own ml) (X : Stand p l e R s m args below meth c T locs cells slots) {b : Addr} {o : Int} (hd : decode B pc = .ok (.ifnull o, 3)) (ho : 0 ≤ (pc : Int) + o) (hp : ((pc : Int) + o).toNat = pc') (k : Go p e below W (T.setTop (mkF m pc' Ls st))) : Go p e below W (T.setTop (mkF m pc Ls (.null :: st))) :=
  k.via fun t k => XS.ifnullYes X.here K.1 rfl rfl (K.at hd) rfl ho hp k
theorem own_ifnullNo (K : Ctx p s m c Z B own ml) (X : Stand p l e R s m args below meth c T locs cells slots) {b : Addr} {o : Int} (hd : decode B pc = .ok (.ifnull o, 3)) (hp : pc + 3 = pc') (k : Go p e below W (T.setTop (mkF m pc' Ls st))) : Go p e below W (T.setTop (mkF m pc Ls (.ref b :: st))) := by
  subst hp; exact k.via fun t k => XS.ifnullNo X.here K.1 rfl (K.at hd) rfl k
theorem own_ifnonnullYes (K : Ctx p s m c Z B own ml) (X : Stand p l e R s m args below meth c T locs cells slots) {b : Addr} {o : Int} (hd : decode B pc = .ok (.ifnonnull o, 3)) (ho : 0 ≤ (pc : Int) + o) (hp : ((pc : Int) + o).toNat = pc') (k : Go p e below W (T.setTop (mkF m pc' Ls st))) : Go p e below W (T.setTop (mkF m pc Ls (.ref b :: st))) :=
  k.via fun t k => XS.ifnonnullYes X.here K.1 rfl rfl (K.at hd) rfl ho hp k
theorem own_ifnonnullNo (K : Ctx p s m c Z B own ml) (X : Stand p l e R s m args below meth c T locs cells slots) {b : Addr} {o : Int} (hd : decode B pc = .ok (.ifnonnull o, 3)) (hp : pc + 3 = pc') (k : Go p e below W (T.setTop (mkF m pc' Ls st))) : Go p e below W (T.setTop (mkF m pc Ls (.null :: st))) := by
  subst hp; exact k.via fun t k => XS.ifnonnullNo X.here K.1 rfl (K.at hd) rfl k
theorem own_goto (K : Ctx p s m c Z B own ml) (X : Stand p l e R s m args below meth c T locs cells slots) {o : Int} (hd : decode B pc = .ok (.goto o, 3)) (ho : 0 ≤ (pc : Int) + o) (hp : ((pc : Int) + o).toNat = pc') (k : Go p e below W (T.setTop (mkF m pc' Ls st))) : Go p e below W (T.setTop (mkF m pc Ls st)) :=
  k.via fun t k => XS.goto X.here K.1 rfl rfl (K.at hd) ho hp k
theorem own_ifYes (K : Ctx p s m c Z B own ml) (X : Stand p l e R s m args below meth c T locs cells slots) {cd : ClassFile.Cond} {x : Int32} {o : Int} (hd : decode B pc = .ok (.ifCond cd o, 3)) (hc : if_icmp.holds cd x 0 = true) (ho : 0 ≤ (pc : Int) + o) (hp : ((pc : Int) + o).toNat = pc') (k : Go p e below W (T.setTop (mkF m pc' Ls st))) : Go p e below W (T.setTop (mkF m pc Ls (.int x :: st))) :=
  k.via fun t k => XS.ifYes X.here K.1 rfl rfl (K.at hd) rfl ((if0 _ _).trans hc) ho hp k
theorem own_ifNo (K : Ctx p s m c Z B own ml) (X : Stand p l e R s m args below meth c T locs cells slots) {cd : ClassFile.Cond} {x : Int32} {o : Int} (hd : decode B pc = .ok (.ifCond cd o, 3)) (hc : if_icmp.holds cd x 0 = false) (hp : pc + 3 = pc') (k : Go p e below W (T.setTop (mkF m pc' Ls st))) : Go p e below W (T.setTop (mkF m pc Ls (.int x :: st))) := by
  subst hp; exact k.via fun t k => XS.ifNo X.here K.1 rfl (K.at hd) rfl ((if0 _ _).trans hc) k
theorem own_icmpYes (K : Ctx p s m c Z B own ml) (X : Stand p l e R s m args below meth c T locs cells slots) {cd : ClassFile.Cond} {x y : Int32} {o : Int} (hd : decode B pc = .ok (.if_icmp cd o, 3)) (hc : if_icmp.holds cd x y = true) (ho : 0 ≤ (pc : Int) + o) (hp : ((pc : Int) + o).toNat = pc') (k : Go p e below W (T.setTop (mkF m pc' Ls st))) : Go p e below W (T.setTop (mkF m pc Ls (.int y :: .int x :: st))) :=
  k.via fun t k => XS.icmpYes X.here K.1 rfl rfl (K.at hd) rfl hc ho hp k
theorem own_icmpNo (K : Ctx p s m c Z B own ml) (X : Stand p l e R s m args below meth c T locs cells slots) {cd : ClassFile.Cond} {x y : Int32} {o : Int} (hd : decode B pc = .ok (.if_icmp cd o, 3)) (hc : if_icmp.holds cd x y = false) (hp : pc + 3 = pc') (k : Go p e below W (T.setTop (mkF m pc' Ls st))) : Go p e below W (T.setTop (mkF m pc Ls (.int y :: .int x :: st))) := by
  subst hp; exact k.via fun t k => XS.icmpNo X.here K.1 rfl (K.at hd) rfl hc k
theorem own_acmp (K : Ctx p s m c Z B own ml) (X : Stand p l e R s m args below meth c T locs cells slots) {cd : ACond} {x y : Value} {o : Int} {same : Bool} (hd : decode B pc = .ok (.if_acmp cd o, 3)) (h1 : x.isRef = true) (h2 : y.isRef = true) (hq : decide (x = y) = same) (ho : 0 ≤ (pc : Int) + o) (hp : pc' = if acV cd same = true then ((pc : Int) + o).toNat else pc + 3) (k : Go p e below W (T.setTop (mkF m pc' Ls st))) : Go p e below W (T.setTop (mkF m pc Ls (y :: x :: st))) :=
  k.via fun t k => Jvm.RoadKit.acmp (g := mkF m pc Ls (y :: x :: st)) X K.1 rfl h1 h2 rfl (K.at hd) rfl hq ho hp k
theorem own_getS (K : Ctx p s m c Z B own ml) (X : Stand p l e R s m args below meth c T locs cells slots) {R0 O n d : String} {index : Nat} (eT : T.heap = h) (w : (Jvm.Cond.fieldLink own index R0 n d).before a0 Z = true) (via : Via Z R0 O n d) {v : Value} (F : Sta Z h O n d v) (hd : decode B pc = .ok (.getstatic index, 3)) (hp : pc + 3 = pc')
    (k : ∀ T', Stand p l e R s m args below meth c T' locs cells slots → T'.heap = h → Go p e below W (T'.setTop (mkF m pc' Ls (v :: st)))) : Go p e below W (T.setTop (mkF m pc Ls st)) := by
  subst hp
  obtain ⟨T', X', e', q⟩ := getS X K.1 K.2.2.1 K.2.2.2.1 (host := "") w via eT F (g := mkF m pc Ls st) rfl (K.at hd)
  exact (k T' X' e').via q
theorem own_getSN (K : Ctx p s m c Z B own ml) (X : Stand p l e R s m args below meth c T locs cells slots) {R0 O n d host : String} {index : Nat} (eT : T.heap = h) (w : (Jvm.Cond.fieldLinkNest own index R0 n d host).before a0 Z = true) (via : Via Z R0 O n d) {v : Value} (F : Sta Z h O n d v) (hd : decode B pc = .ok (.getstatic index, 3)) (hp : pc + 3 = pc')
    (k : ∀ T', Stand p l e R s m args below meth c T' locs cells slots → T'.heap = h → Go p e below W (T'.setTop (mkF m pc' Ls (v :: st)))) : Go p e below W (T.setTop (mkF m pc Ls st)) := by
  subst hp
  obtain ⟨T', X', e', q⟩ := getS2 X K.1 K.2.2.1 K.2.2.2.1 (Or.inr w) via eT F (g := mkF m pc Ls st) rfl (K.at hd)
  exact (k T' X' e').via q
theorem own_getF (K : Ctx p s m c Z B own ml) (X : Stand p l e R s m args below meth c T locs cells slots) {R0 O n d : String} {index : Nat} {a : Addr} (eT : T.heap = h) (w : (Jvm.Cond.fieldLink own index R0 n d).before a0 Z = true) (via : Via Z R0 O n d) {v : Value} (F : Fld Z h a O n d v) (hd : decode B pc = .ok (.getfield index, 3)) (hp : pc + 3 = pc')
    (k : ∀ T', Stand p l e R s m args below meth c T' locs cells slots → T'.heap = h → Go p e below W (T'.setTop (mkF m pc' Ls (v :: st)))) : Go p e below W (T.setTop (mkF m pc Ls (.ref a :: st))) := by
  subst hp
  obtain ⟨T', X', e', q⟩ := getF X K.1 K.2.2.1 K.2.2.2.1 (host := "") (Or.inl w) via eT F (g := mkF m pc Ls (.ref a :: st)) rfl rfl (K.at hd)
  exact (k T' X' e').via q
theorem own_putF (K : Ctx p s m c Z B own ml) (X : Stand p l e R s m args below meth c T locs cells slots) {R0 O n d C : String} {index kk : Nat} {ty : FieldType} {a : Addr} {v v' old : Value} (eT : T.heap = h) (w : (Jvm.Cond.fieldLink own index R0 n d).before a0 Z = true) (via : Via Z R0 O n d) (F : Fld Z h a O n d old) (E : Exa Z h a C)
    (L : (Jvm.Cond.lays C O n d).before a0 Z = true ∨ ((Jvm.Cond.laysFinal C O n d).before a0 Z = true ∧ own = O ∧ meth.name = "<init>")) (wi : (Jvm.Cond.instantiable C kk).before a0 Z = true) (hty : parseFieldDescriptor d = some ty) (hn : narrow ty v = v') (hf : fits ty v' = true) (hd : decode B pc = .ok (.putfield index, 3)) (hp : pc + 3 = pc')
    (k : ∀ T' h', Stand p l e R s m args below meth c T' (locs ++ [⟨a, Jvm.RoadKit.slotOf Z O n d⟩]) cells slots → T'.heap = h' → Wr h h' a (Jvm.RoadKit.slotOf Z O n d) v' → Go p e below W (T'.setTop (mkF m pc' Ls st))) : Go p e below W (T.setTop (mkF m pc Ls (v :: .ref a :: st))) := by
  subst hp
  obtain ⟨T', h', X', e', W', q⟩ := putFN X K.1 K.2.2.1 K.2.2.2.1 w via eT F E L wi hty hn hf (g := mkF m pc Ls (v :: .ref a :: st)) rfl rfl (K.at hd)
  exact (k T' h' X' e' W').via q
theorem own_new (K : Ctx p s m c Z B own ml) (X : Stand p l e R s m args below meth c T locs cells slots) {C : String} {index n : Nat} (eT : T.heap = h) (w : (Jvm.Cond.classLink own index C).before a0 Z = true) (wi : (Jvm.Cond.instantiable C n).before a0 Z = true) (wz : (Jvm.Cond.initialized C).before a0 Z = true) (hd : decode B pc = .ok (.new index, 3)) (hc : cells + 1 ≤ R.cells) (hl : slots + n ≤ R.slots) (hp : pc + 3 = pc')
    (k : ∀ T' h' a, Stand p l e R s m args below meth c T' locs (cells + 1) (slots + n) → T'.heap = h' → a = h.size → Ext h h' → Exa Z h' a C → (∀ {O nm d : String} {ty : FieldType}, Laid Z a0 C O nm d → parseFieldDescriptor d = some ty → Fld Z h' a O nm d (defaultValue ty)) → Go p e below W (T'.setTop (mkF m pc' Ls (.ref a :: st)))) : Go p e below W (T.setTop (mkF m pc Ls st)) := by
  subst hp
  obtain ⟨T', h', X', e', E', A', D', -, q⟩ := newO X K.1 K.2.2.1 K.2.2.2.1 w wi wz eT (g := mkF m pc Ls st) rfl (K.at hd) hc hl
  exact (k T' h' _ X' e' rfl E' A' D').via q
theorem own_initO (K : Ctx p s m c Z B own ml) (X : Stand p l e R s m args below meth c T locs cells slots) {idx : Nat} {a : Addr} (eT : T.heap = h) (w1 : (Jvm.Cond.methodLink own idx Lib.objectInit).before a0 Z = true) (w2 : (Jvm.Cond.instanceMethod Lib.objectInit).before a0 Z = true) (w3 : (Jvm.Cond.code Lib.objectInit ⟨#[0xb1]⟩ 1 none).before a0 Z = true)
    (hd : decode B pc = .ok (.invokespecial idx, 3)) (hsz : Ls.size = ml) (hf : 1 ≤ R.frames) (hl : (st.map fun v => v.category).sum + 12 ≤ R.locals) (hp : pc + 3 = pc') (k : ∀ T', Stand p l e R s m args below meth c T' locs cells slots → T'.heap = h → Go p e below W (T'.setTop (mkF m pc' Ls st))) : Go p e below W (T.setTop (mkF m pc Ls (.ref a :: st))) := by
  subst hp
  obtain ⟨T', X', e', q⟩ := initO X K.1 K.2.2.1 K.2.2.2.1 w1 w2 w3 eT (g := mkF m pc Ls (.ref a :: st)) rfl (hsz.trans K.2.2.2.2.symm) rfl (K.at hd) hf (W := (st.map fun v => v.category).sum) (by show 2 * 0 + _ ≤ _; omega) hl
  exact (k T' X' e').via q
theorem own_callS (K : Ctx p s m c Z B own ml) (X : Stand p l e R s m args below meth c T locs cells slots) {y : MethodName} {By : ByteArray} {mly index : Nat} {rty r : Option FieldType} {ps : List FieldType} {rmy : Room} {Q : Option Value → Heap → List Loc → Prop} {argsL rest : List Value} (eT : T.heap = h)
    (w1 : (Jvm.Cond.methodLink own index y).before a0 Z = true) (w2 : (Jvm.Cond.static y).before a0 Z = true) (w3 : (Jvm.Cond.initialized y.cls).before a0 Z = true) (w4 : (Jvm.Cond.code y By mly rty).before a0 Z = true) (hM : Con l y By mly rty [] rmy Z argsL.toArray h Q)
    (hd : decode B pc = .ok (.invokestatic index, 3)) (hpd : parseMethodDescriptor y.desc = some ⟨ps, r⟩) (hlen : argsL.length = ps.length) (hst : st = argsL.reverse ++ rest) (hsz : Ls.size = ml) (hy : y.cls ≠ "java/lang/invoke/MethodHandle" ∧ y.cls ≠ "java/lang/invoke/VarHandle")
    (hf : rmy.frames + 1 ≤ R.frames) (hl : (rest.map fun v => v.category).sum + (mly + 11) + rmy.locals ≤ R.locals) (hc : cells + rmy.cells ≤ R.cells) (hs : slots + rmy.slots ≤ R.slots) (hp : pc + 3 = pc')
    (k : ∀ v T' L, Stand p l e R s m args below meth c T' (locs ++ L) (cells + rmy.cells) (slots + rmy.slots) → Q v T'.heap L → Go p e below W (T'.setTop (mkF m pc' Ls (v.toList ++ rest)))) : Go p e below W (T.setTop (mkF m pc Ls st)) := by
  subst hp hst
  obtain ⟨v, _, ⟨T1, L1, k1, n1⟩, -, X1, ⟨Lc, hQ, l1, y1, z1⟩, q⟩ := Jvm.LawKit.callS X K.1 (y := y) K.2.2.2.1 (mvT K.2.2.1 w1) (mvT K.2.2.1 w2) (mvT K.2.2.1 w3) (mvT K.2.2.1 w4) hy (backOf (W := (rest.map fun v => v.category).sum) hM K.2.2.1 w4 w3 hf hl) (g := mkF m pc Ls (argsL.reverse ++ rest)) rfl (hsz.trans K.2.2.2.2.symm) (argsL := argsL) (rest := rest) (lenOf hpd hlen) rfl (by show 2 * 0 + _ ≤ _; omega) (K.at hd) (fun _ _ => ⟨rfl, eT, hc, hs⟩)
  dsimp only [Pt.U, Pt.locs, Pt.cells, Pt.slots] at X1 l1 y1 z1 q hQ
  subst l1 y1 z1
  exact (k v T1 Lc X1 hQ).via q
theorem own_callV (K : Ctx p s m c Z B own ml) (X : Stand p l e R s m args below meth c T locs cells slots) {y z : MethodName} {C : String} {By : ByteArray} {mly index : Nat} {rty r : Option FieldType} {ps : List FieldType} {rmy : Room} {Q : Option Value → Heap → List Loc → Prop} {argsL rest : List Value} {b : Addr} (eT : T.heap = h)
    (w1 : (Jvm.Cond.methodLink own index y).before a0 Z = true) (w2 : (Jvm.Cond.declares y).before a0 Z = true) (nf : NotFace s y) (w3 : (Jvm.Cond.selects C y z).before a0 Z = true) (w4 : (Jvm.Cond.instanceMethod z).before a0 Z = true) (w5 : (Jvm.Cond.code z By mly rty).before a0 Z = true) (w6 : (Jvm.Cond.initialized z.cls).before a0 Z = true) (E : Exa Z h b C) (hM : Con l z By mly rty [] rmy Z (.ref b :: argsL).toArray h Q)
    (hd : decode B pc = .ok (.invokevirtual index, 3)) (hpd : parseMethodDescriptor y.desc = some ⟨ps, r⟩) (hlen : argsL.length = ps.length) (hst : st = argsL.reverse ++ .ref b :: rest) (hsz : Ls.size = ml) (hy : y.cls ≠ "java/lang/invoke/MethodHandle" ∧ y.cls ≠ "java/lang/invoke/VarHandle")
    (hf : rmy.frames + 1 ≤ R.frames) (hl : (rest.map fun v => v.category).sum + (mly + 11) + rmy.locals ≤ R.locals) (hc : cells + rmy.cells ≤ R.cells) (hs : slots + rmy.slots ≤ R.slots) (hp : pc + 3 = pc')
    (k : ∀ v T' L, Stand p l e R s m args below meth c T' (locs ++ L) (cells + rmy.cells) (slots + rmy.slots) → Q v T'.heap L → Go p e below W (T'.setTop (mkF m pc' Ls (v.toList ++ rest)))) : Go p e below W (T.setTop (mkF m pc Ls st)) := by
  subst hp hst
  obtain ⟨cq, kq, qa, qb, qc⟩ := isOf K.2.2.1 eT E
  obtain ⟨v, _, ⟨T1, L1, k1, n1⟩, -, X1, ⟨Lc, hQ, l1, y1, z1⟩, q⟩ := X.virtualBack K.1 (y := y) (z := z) K.2.2.2.1 (mvT K.2.2.1 w1) (mvT K.2.2.1 w2) nf (mvT K.2.2.1 w3) (mvT K.2.2.1 w4) hy (backOf (W := (rest.map fun v => v.category).sum) hM K.2.2.1 w5 w6 hf hl) qa qc (g := mkF m pc Ls (argsL.reverse ++ .ref b :: rest)) rfl (hsz.trans K.2.2.2.2.symm) (Steps.refl _) (argsL := argsL) (rest := rest) (lenOf hpd hlen) rfl (by show 2 * 0 + _ ≤ _; omega) (K.at hd) (fun _ _ => ⟨rfl, eT, hc, hs⟩)
  dsimp only [Pt.U, Pt.locs, Pt.cells, Pt.slots] at X1 l1 y1 z1 q hQ
  subst l1 y1 z1
  exact (k v T1 Lc X1 hQ).via fun t k => q.trans k
theorem own_callI (K : Ctx p s m c Z B own ml) (X : Stand p l e R s m args below meth c T locs cells slots) {y : MethodName} {By : ByteArray} {mly index : Nat} {r : Option FieldType} {ps : List FieldType} {rmy : Room} {Q : Option Value → Heap → List Loc → Prop} {argsL rest : List Value} {b : Addr} (eT : T.heap = h) (hy1 : y.name = "<init>")
    (w1 : (Jvm.Cond.methodLink own index y).before a0 Z = true) (w4 : (Jvm.Cond.instanceMethod y).before a0 Z = true) (w5 : (Jvm.Cond.code y By mly none).before a0 Z = true) (w6 : (Jvm.Cond.initialized y.cls).before a0 Z = true) (hM : Con l y By mly none [] rmy Z (.ref b :: argsL).toArray h Q)
    (hd : decode B pc = .ok (.invokespecial index, 3)) (hpd : parseMethodDescriptor y.desc = some ⟨ps, r⟩) (hlen : argsL.length = ps.length) (hst : st = argsL.reverse ++ .ref b :: rest) (hsz : Ls.size = ml) (hy : y.cls ≠ "java/lang/invoke/MethodHandle" ∧ y.cls ≠ "java/lang/invoke/VarHandle")
    (hf : rmy.frames + 1 ≤ R.frames) (hl : (rest.map fun v => v.category).sum + (mly + 11) + rmy.locals ≤ R.locals) (hc : cells + rmy.cells ≤ R.cells) (hs : slots + rmy.slots ≤ R.slots) (hp : pc + 3 = pc')
    (k : ∀ v T' L, Stand p l e R s m args below meth c T' (locs ++ L) (cells + rmy.cells) (slots + rmy.slots) → Q v T'.heap L → Go p e below W (T'.setTop (mkF m pc' Ls (v.toList ++ rest)))) : Go p e below W (T.setTop (mkF m pc Ls st)) := by
  subst hp hst
  obtain ⟨v, _, ⟨T1, L1, k1, n1⟩, -, X1, ⟨Lc, hQ, l1, y1, z1⟩, q⟩ := X.specialBack K.1 (y := y) hy1 K.2.2.2.1 (mvT K.2.2.1 w1) (mvT K.2.2.1 w4) (mvT K.2.2.1 w5) hy (backOf (W := (rest.map fun v => v.category).sum) hM K.2.2.1 w5 w6 hf hl) (g := mkF m pc Ls (argsL.reverse ++ .ref b :: rest)) rfl (hsz.trans K.2.2.2.2.symm) (Steps.refl _) (a := b) (argsL := argsL) (rest := rest) (lenOf hpd hlen) rfl (by show 2 * 0 + _ ≤ _; omega) (K.at hd) (fun _ _ => ⟨rfl, eT, hc, hs⟩)
  dsimp only [Pt.U, Pt.locs, Pt.cells, Pt.slots] at X1 l1 y1 z1 q hQ
  subst l1 y1 z1
  exact (k v T1 Lc X1 hQ).via fun t k => q.trans k
theorem own_ret {Q : Option Value → Heap → List Loc → Prop} {g : JFrame} (X : Stand p l e R s m args below meth c T locs cells slots) (hlk : meth.locks = false) {v : Option Value} (hv : meth.sig.returnType = none → v = none)
    (hstep : ∀ fs, (∀ (f : JFrame) (acts : List Action), f.method = m → f.locked = none → f.entered = [] → (doReturn e (T.setTop f) acts v).1 = T.setFrames fs) → Steps p.tables e below (T.setTop g) (T.setFrames fs)) (hc : cells ≤ R.cells) (hs : slots ≤ R.slots) (hq : Q v T.heap locs) : Go p e below (End s R Q) (T.setTop g) := by
  obtain ⟨fs, hr, hrun, hended, hW, hsame⟩ := X.leave hv hlk
  exact ⟨_, _, hstep fs hr, hrun, hended, v, locs, rfl, hq, ⟨_, rfl⟩, hW, hsame.mono hc hs⟩
theorem own_retI {Q : Option Value → Heap → List Loc → Prop} (K : Ctx p s m c Z B own ml) (X : Stand p l e R s m args below meth c T locs cells slots) (hret : meth.sig.returnType = some .int) (hlk : meth.locks = false) {z : Int32} (hd : decode B pc = .ok (.ireturn, 1)) (hc : cells ≤ R.cells) (hs : slots ≤ R.slots) (hq : Q (some (.int z)) T.heap locs) : Go p e below (End s R Q) (T.setTop (mkF m pc Ls (.int z :: st))) :=
  own_ret X hlk (fun h => by rw [hret] at h; cases h) (fun fs hr => retOut X K.1 hret rfl (Or.inl ⟨rfl, Or.inl rfl, _, rfl⟩) (K.at hd) hr) hc hs hq
theorem own_retN {Q : Option Value → Heap → List Loc → Prop} (K : Ctx p s m c Z B own ml) (X : Stand p l e R s m args below meth c T locs cells slots) {t : FieldType} (hret : meth.sig.returnType = some t) (hlk : meth.locks = false) {z z' : Int32} (ht : t = .boolean ∨ t = .byte ∨ t = .char ∨ t = .short) (hz : nar t z = z') (hd : decode B pc = .ok (.ireturn, 1)) (hc : cells ≤ R.cells) (hs : slots ≤ R.slots) (hq : Q (some (.int z')) T.heap locs) : Go p e below (End s R Q) (T.setTop (mkF m pc Ls (.int z :: st))) := by
  subst hz
  exact own_ret X hlk (fun h => by rw [hret] at h; cases h) (fun fs hr => retN X K.1 hret ht (K.at hd) hr) hc hs hq
theorem own_retJ {Q : Option Value → Heap → List Loc → Prop} (K : Ctx p s m c Z B own ml) (X : Stand p l e R s m args below meth c T locs cells slots) (hret : meth.sig.returnType = some .long) (hlk : meth.locks = false) {z : Int64} (hd : decode B pc = .ok (.lreturn, 1)) (hc : cells ≤ R.cells) (hs : slots ≤ R.slots) (hq : Q (some (.long z)) T.heap locs) : Go p e below (End s R Q) (T.setTop (mkF m pc Ls (.long z :: st))) :=
  own_ret X hlk (fun h => by rw [hret] at h; cases h) (fun fs hr => retOut X K.1 hret rfl (Or.inr (Or.inl ⟨rfl, rfl, _, rfl⟩)) (K.at hd) hr) hc hs hq
theorem own_retA {Q : Option Value → Heap → List Loc → Prop} (K : Ctx p s m c Z B own ml) (X : Stand p l e R s m args below meth c T locs cells slots) {t : FieldType} (hret : meth.sig.returnType = some t) (ht : t.isReference = true) (hlk : meth.locks = false) {w : Value} (hw : w.isRef = true) (hd : decode B pc = .ok (.areturn, 1)) (hc : cells ≤ R.cells) (hs : slots ≤ R.slots) (hq : Q (some w) T.heap locs) : Go p e below (End s R Q) (T.setTop (mkF m pc Ls (w :: st))) := by
  have hn : narrow t w = w := by cases t <;> first | (cases ht; done) | (cases w <;> first | rfl | (cases hw; done))
  exact own_ret X hlk (fun h => by rw [hret] at h; cases h) (fun fs hr => retOut X K.1 hret hn (Or.inr (Or.inr (Or.inr (Or.inr ⟨rfl, ht, hw⟩)))) (K.at hd) hr) hc hs hq
theorem own_retV {Q : Option Value → Heap → List Loc → Prop} (K : Ctx p s m c Z B own ml) (X : Stand p l e R s m args below meth c T locs cells slots) (hret : meth.sig.returnType = none) (hlk : meth.locks = false) (hd : decode B pc = .ok (.return_, 1)) (hc : cells ≤ R.cells) (hs : slots ≤ R.slots) (hq : Q none T.heap locs) : Go p e below (End s R Q) (T.setTop (mkF m pc Ls [])) :=
  own_ret X hlk (fun _ => rfl) (fun fs hr => X.returnOut K.1 hret (K.at hd) hr) hc hs hq
end Own

section OwnArr
variable {p : Program} {l : Launch} {e : Env} {R : Room} {s : State} {m : MethodId} {args : Array Value} {below : List Frame} {meth : Method} {c : Code} {T : State} {locs : List Loc} {cells slots : Nat} {Z : State} {a0 : Array Value} {h : Heap} {W : Outcome → State → Prop} {B : ByteArray} {own : String} {ml : Nat} {pc pc' : Nat} {Ls : Array Slot} {st : List Value} {a : Addr} {kc : ClassId} {ty : FieldType} {n j : Int32} {vs : List Value} {dv : Value}
theorem own_iaload (K : Ctx p s m c Z B own ml) (X : Stand p l e R s m args below meth c T locs cells slots) {v : Value} (eT : T.heap = h) (F : Arv Z h a kc .int n vs dv) (hj : ¬ j < 0 ∧ j < n) (hv : vs.getD j.toNatClampNeg dv = v) (hd : decode B pc = .ok (.iaload, 1)) (hp : pc + 1 = pc') (k : Go p e below W (T.setTop (mkF m pc' Ls (v :: st)))) : Go p e below W (T.setTop (mkF m pc Ls (.int j :: .ref a :: st))) := by
  subst hp
  obtain ⟨cl, A, q1, S, q3, H, G⟩ := F
  exact k.via fun t k => X.iaload K.1 (j := j) (v := v) (by rw [eT]; exact A.1) (State.isArrayOf_alike K.2.2.1.alike A.2.1) A.2.2 (inb_of S hj) (H.at (inb_of S hj) hv) (g := mkF m pc Ls (.int j :: .ref a :: st)) rfl rfl (K.at hd) t k
theorem own_laload (K : Ctx p s m c Z B own ml) (X : Stand p l e R s m args below meth c T locs cells slots) {v : Value} (eT : T.heap = h) (F : Arv Z h a kc .long n vs dv) (hj : ¬ j < 0 ∧ j < n) (hv : vs.getD j.toNatClampNeg dv = v) (hd : decode B pc = .ok (.laload, 1)) (hp : pc + 1 = pc') (k : Go p e below W (T.setTop (mkF m pc' Ls (v :: st)))) : Go p e below W (T.setTop (mkF m pc Ls (.int j :: .ref a :: st))) := by
  subst hp
  obtain ⟨cl, A, q1, S, q3, H, G⟩ := F
  exact k.via fun t k => X.laload K.1 (j := j) (v := v) (by rw [eT]; exact A.1) (State.isArrayOf_alike K.2.2.1.alike A.2.1) A.2.2 (inb_of S hj) (H.at (inb_of S hj) hv) (g := mkF m pc Ls (.int j :: .ref a :: st)) rfl rfl (K.at hd) t k
theorem own_baload (K : Ctx p s m c Z B own ml) (X : Stand p l e R s m args below meth c T locs cells slots) {v : Value} (eT : T.heap = h) (F : Arv Z h a kc .byte n vs dv) (hj : ¬ j < 0 ∧ j < n) (hv : vs.getD j.toNatClampNeg dv = v) (hd : decode B pc = .ok (.baload, 1)) (hp : pc + 1 = pc') (k : Go p e below W (T.setTop (mkF m pc' Ls (v :: st)))) : Go p e below W (T.setTop (mkF m pc Ls (.int j :: .ref a :: st))) := by
  subst hp
  obtain ⟨cl, A, q1, S, q3, H, G⟩ := F
  exact k.via fun t k => X.baloadBytes K.1 (j := j) (v := v) (by rw [eT]; exact A.1) (State.isArrayOf_alike K.2.2.1.alike A.2.1) A.2.2 (inb_of S hj) (H.at (inb_of S hj) hv) (g := mkF m pc Ls (.int j :: .ref a :: st)) rfl rfl (K.at hd) t k
theorem own_zaload (K : Ctx p s m c Z B own ml) (X : Stand p l e R s m args below meth c T locs cells slots) {v : Value} (eT : T.heap = h) (F : Arv Z h a kc .boolean n vs dv) (hj : ¬ j < 0 ∧ j < n) (hv : vs.getD j.toNatClampNeg dv = v) (hd : decode B pc = .ok (.baload, 1)) (hp : pc + 1 = pc') (k : Go p e below W (T.setTop (mkF m pc' Ls (v :: st)))) : Go p e below W (T.setTop (mkF m pc Ls (.int j :: .ref a :: st))) := by
  subst hp
  obtain ⟨cl, A, q1, S, q3, H, G⟩ := F
  exact k.via fun t k => X.baloadBooleans K.1 (j := j) (v := v) (by rw [eT]; exact A.1) (State.isArrayOf_alike K.2.2.1.alike A.2.1) A.2.2 (inb_of S hj) (H.at (inb_of S hj) hv) (g := mkF m pc Ls (.int j :: .ref a :: st)) rfl rfl (K.at hd) t k
theorem own_caload (K : Ctx p s m c Z B own ml) (X : Stand p l e R s m args below meth c T locs cells slots) {v : Value} (eT : T.heap = h) (F : Arv Z h a kc .char n vs dv) (hj : ¬ j < 0 ∧ j < n) (hv : vs.getD j.toNatClampNeg dv = v) (hd : decode B pc = .ok (.caload, 1)) (hp : pc + 1 = pc') (k : Go p e below W (T.setTop (mkF m pc' Ls (v :: st)))) : Go p e below W (T.setTop (mkF m pc Ls (.int j :: .ref a :: st))) := by
  subst hp
  obtain ⟨cl, A, q1, S, q3, H, G⟩ := F
  exact k.via fun t k => X.caload K.1 (j := j) (v := v) (by rw [eT]; exact A.1) (State.isArrayOf_alike K.2.2.1.alike A.2.1) A.2.2 (inb_of S hj) (H.at (inb_of S hj) hv) (g := mkF m pc Ls (.int j :: .ref a :: st)) rfl rfl (K.at hd) t k
theorem own_aaload (K : Ctx p s m c Z B own ml) (X : Stand p l e R s m args below meth c T locs cells slots) {v : Value} (eT : T.heap = h) (F : Arv Z h a kc ty n vs dv) (hr : ty.isReference = true) (hj : ¬ j < 0 ∧ j < n) (hv : vs.getD j.toNatClampNeg dv = v) (hd : decode B pc = .ok (.aaload, 1)) (hp : pc + 1 = pc') (k : Go p e below W (T.setTop (mkF m pc' Ls (v :: st)))) : Go p e below W (T.setTop (mkF m pc Ls (.int j :: .ref a :: st))) := by
  subst hp
  obtain ⟨cl, A, q1, S, q3, H, G⟩ := F
  exact k.via fun t k => X.aaload K.1 (j := j) (v := v) (by rw [eT]; exact A.1) (State.isArrayOf_alike K.2.2.1.alike A.2.1) hr A.2.2 (inb_of S hj) (H.at (inb_of S hj) hv) (g := mkF m pc Ls (.int j :: .ref a :: st)) rfl rfl (K.at hd) t k
theorem own_alen (K : Ctx p s m c Z B own ml) (X : Stand p l e R s m args below meth c T locs cells slots) (eT : T.heap = h) (F : Arv Z h a kc ty n vs dv) (hd : decode B pc = .ok (.arraylength, 1)) (hp : pc + 1 = pc') (k : Go p e below W (T.setTop (mkF m pc' Ls (.int n :: st)))) : Go p e below W (T.setTop (mkF m pc Ls (.ref a :: st))) := by
  subst hp
  obtain ⟨cl, A, q1, S, q3, H, G⟩ := F
  refine k.via fun t k => X.arraylength K.1 (by rw [eT]; exact A.1) (State.isArrayOf_alike K.2.2.1.alike A.2.1) (g := mkF m pc Ls (.ref a :: st)) rfl rfl (K.at hd) t ?_
  rw [len_of S q3]
  exact k
theorem own_iastore (K : Ctx p s m c Z B own ml) (X : Stand p l e R s m args below meth c T locs cells slots) {x : Int32} {i : Nat} {vs' : List Value} (eT : T.heap = h) (F : Arv Z h a kc .int n vs dv) (hj : ¬ j < 0 ∧ j < n) (hi : j.toNatClampNeg = i) (hl : i < vs.length) (hvs : vs.set i (.int x) = vs') (hd : decode B pc = .ok (.iastore, 1)) (hp : pc + 1 = pc')
    (k : ∀ T' h', Stand p l e R s m args below meth c T' (locs ++ [⟨a, j.toNatClampNeg⟩]) cells slots → T'.heap = h' → Wr h h' a j.toNatClampNeg (.int x) → Arv Z h' a kc .int n vs' dv → Go p e below W (T'.setTop (mkF m pc' Ls st))) : Go p e below W (T.setTop (mkF m pc Ls (.int x :: .int j :: .ref a :: st))) := by
  subst hp hvs
  obtain ⟨cl, A, q1, S, q3, H, G⟩ := F
  obtain ⟨T', h', X', e', W', q⟩ := stI X K.1 K.2.2.1 eT A (inb_of S hj) (g := mkF m pc Ls (.int x :: .int j :: .ref a :: st)) rfl rfl (K.at hd)
  exact (k T' h' X' e' W' (Arv.set A q1 S q3 H G rfl W' i hi hl)).via q
theorem own_lastore (K : Ctx p s m c Z B own ml) (X : Stand p l e R s m args below meth c T locs cells slots) {x : Int64} {i : Nat} {vs' : List Value} (eT : T.heap = h) (F : Arv Z h a kc .long n vs dv) (hj : ¬ j < 0 ∧ j < n) (hi : j.toNatClampNeg = i) (hl : i < vs.length) (hvs : vs.set i (.long x) = vs') (hd : decode B pc = .ok (.lastore, 1)) (hp : pc + 1 = pc')
    (k : ∀ T' h', Stand p l e R s m args below meth c T' (locs ++ [⟨a, j.toNatClampNeg⟩]) cells slots → T'.heap = h' → Wr h h' a j.toNatClampNeg (.long x) → Arv Z h' a kc .long n vs' dv → Go p e below W (T'.setTop (mkF m pc' Ls st))) : Go p e below W (T.setTop (mkF m pc Ls (.long x :: .int j :: .ref a :: st))) := by
  subst hp hvs
  obtain ⟨cl, A, q1, S, q3, H, G⟩ := F
  obtain ⟨T', h', X', e', W', q⟩ := stJ X K.1 K.2.2.1 eT A (inb_of S hj) (g := mkF m pc Ls (.long x :: .int j :: .ref a :: st)) rfl rfl (K.at hd)
  exact (k T' h' X' e' W' (Arv.set A q1 S q3 H G rfl W' i hi hl)).via q
theorem own_bastore (K : Ctx p s m c Z B own ml) (X : Stand p l e R s m args below meth c T locs cells slots) {x : Int32} {i : Nat} {vs' : List Value} (eT : T.heap = h) (F : Arv Z h a kc .byte n vs dv) (hj : ¬ j < 0 ∧ j < n) (hi : j.toNatClampNeg = i) (hl : i < vs.length) (hvs : vs.set i (.int (nar .byte x)) = vs') (hd : decode B pc = .ok (.bastore, 1)) (hp : pc + 1 = pc')
    (k : ∀ T' h', Stand p l e R s m args below meth c T' (locs ++ [⟨a, j.toNatClampNeg⟩]) cells slots → T'.heap = h' → Wr h h' a j.toNatClampNeg (.int (nar .byte x)) → Arv Z h' a kc .byte n vs' dv → Go p e below W (T'.setTop (mkF m pc' Ls st))) : Go p e below W (T.setTop (mkF m pc Ls (.int x :: .int j :: .ref a :: st))) := by
  subst hp hvs
  obtain ⟨cl, A, q1, S, q3, H, G⟩ := F
  obtain ⟨T', h', X', e', W', q⟩ := stB X K.1 K.2.2.1 eT A (inb_of S hj) (g := mkF m pc Ls (.int x :: .int j :: .ref a :: st)) rfl rfl (K.at hd)
  exact (k T' h' X' e' W' (Arv.set A q1 S q3 H G (fits_nar_byte x) W' i hi hl)).via q
theorem own_zastore (K : Ctx p s m c Z B own ml) (X : Stand p l e R s m args below meth c T locs cells slots) {x : Int32} {i : Nat} {vs' : List Value} (eT : T.heap = h) (F : Arv Z h a kc .boolean n vs dv) (hj : ¬ j < 0 ∧ j < n) (hi : j.toNatClampNeg = i) (hl : i < vs.length) (hvs : vs.set i (.int (nar .boolean x)) = vs') (hd : decode B pc = .ok (.bastore, 1)) (hp : pc + 1 = pc')
    (k : ∀ T' h', Stand p l e R s m args below meth c T' (locs ++ [⟨a, j.toNatClampNeg⟩]) cells slots → T'.heap = h' → Wr h h' a j.toNatClampNeg (.int (nar .boolean x)) → Arv Z h' a kc .boolean n vs' dv → Go p e below W (T'.setTop (mkF m pc' Ls st))) : Go p e below W (T.setTop (mkF m pc Ls (.int x :: .int j :: .ref a :: st))) := by
  subst hp hvs
  obtain ⟨cl, A, q1, S, q3, H, G⟩ := F
  obtain ⟨T', h', X', e', W', q⟩ := stZ X K.1 K.2.2.1 eT A (inb_of S hj) (g := mkF m pc Ls (.int x :: .int j :: .ref a :: st)) rfl rfl (K.at hd)
  exact (k T' h' X' e' W' (Arv.set A q1 S q3 H G (fits_nar_bool x) W' i hi hl)).via q
theorem own_aastore (K : Ctx p s m c Z B own ml) (X : Stand p l e R s m args below meth c T locs cells slots) {x : Value} {i : Nat} {vs' : List Value} (eT : T.heap = h) (F : Arv Z h a kc ty n vs dv) (hr : ty.isReference = true) (hf : fits ty x = true) (O : Sto Z h a x) (hj : ¬ j < 0 ∧ j < n) (hi : j.toNatClampNeg = i) (hl : i < vs.length) (hvs : vs.set i x = vs') (hd : decode B pc = .ok (.aastore, 1)) (hp : pc + 1 = pc')
    (k : ∀ T' h', Stand p l e R s m args below meth c T' (locs ++ [⟨a, j.toNatClampNeg⟩]) cells slots → T'.heap = h' → Wr h h' a j.toNatClampNeg x → Arv Z h' a kc ty n vs' dv → Go p e below W (T'.setTop (mkF m pc' Ls st))) : Go p e below W (T.setTop (mkF m pc Ls (x :: .int j :: .ref a :: st))) := by
  subst hp hvs
  obtain ⟨cl, A, q1, S, q3, H, G⟩ := F
  obtain ⟨T', h', X', e', W', q⟩ := stR X K.1 K.2.2.1 eT A (inb_of S hj) hr O (g := mkF m pc Ls (x :: .int j :: .ref a :: st)) rfl rfl (K.at hd)
  exact (k T' h' X' e' W' (Arv.set A q1 S q3 H G hf W' i hi hl)).via q
theorem own_newP (K : Ctx p s m c Z B own ml) (X : Stand p l e R s m args below meth c T locs cells slots) {aty : ArrayType} {cap N : Nat} (eT : T.heap = h) (w : (Jvm.Cond.arrayClass (newarray.typeOf aty)).before a0 Z = true) (hn : ¬ n < 0) (hcap : n.toNatClampNeg ≤ cap) (hb : cap * 8 ≤ 536870912) (hc : cells + 1 ≤ R.cells) (hl : slots + cap ≤ R.slots) (hd : decode B pc = .ok (.newarray aty, 2)) (hp : pc + 2 = pc')
    (k : ∀ T' h' b kA, Stand p l e R s m args below meth c T' locs (cells + 1) (slots + cap) → T'.heap = h' → b = h.size → Ext h h' → Arv Z h' b kA (newarray.typeOf aty) n (List.replicate N (defaultValue (newarray.typeOf aty))) (defaultValue (newarray.typeOf aty)) → Go p e below W (T'.setTop (mkF m pc' Ls (.ref b :: st)))) : Go p e below W (T.setTop (mkF m pc Ls (.int n :: st))) := by
  subst hp
  obtain ⟨T', h', kA, X', e', E', A', q⟩ := newP X K.1 K.2.2.1 w eT (g := mkF m pc Ls (.int n :: st)) rfl (K.at hd) rfl hn hcap hb hc hl
  exact (k T' h' _ kA X' e' rfl E' ((Arv.new A' hn).pad (pad_rep [] _ N))).via q
theorem own_newR (K : Ctx p s m c Z B own ml) (X : Stand p l e R s m args below meth c T locs cells slots) {C : String} {index cap N : Nat} (eT : T.heap = h) (w1 : (Jvm.Cond.classLink own index C).before a0 Z = true) (w2 : (Jvm.Cond.arrayOver (.object C)).before a0 Z = true) (hn : ¬ n < 0) (hcap : n.toNatClampNeg ≤ cap) (hb : cap * 8 ≤ 536870912) (hc : cells + 1 ≤ R.cells) (hl : slots + cap ≤ R.slots) (hd : decode B pc = .ok (.anewarray index, 3)) (hp : pc + 3 = pc')
    (k : ∀ T' h' b kA, Stand p l e R s m args below meth c T' locs (cells + 1) (slots + cap) → T'.heap = h' → b = h.size → Ext h h' → Arv Z h' b kA (.object C) n (List.replicate N .null) .null → Ovr Z kA C → Go p e below W (T'.setTop (mkF m pc' Ls (.ref b :: st)))) : Go p e below W (T.setTop (mkF m pc Ls (.int n :: st))) := by
  subst hp
  obtain ⟨T', h', kA, X', e', E', A', O', q⟩ := newR X K.1 K.2.2.1 K.2.2.2.1 w1 w2 eT (g := mkF m pc Ls (.int n :: st)) rfl (K.at hd) rfl hn hcap hb hc hl
  exact (k T' h' _ kA X' e' rfl E' ((Arv.new A' hn).pad (pad_rep [] _ N)) O').via q
theorem own_clone (K : Ctx p s m c Z B own ml) (X : Stand p l e R s m args below meth c T locs cells slots) {ad : String} {index cap : Nat} (eT : T.heap = h) (w1 : (Jvm.Cond.methodLink own index ⟨ad, "clone", "()Ljava/lang/Object;"⟩).before a0 Z = true) (w2 : (Jvm.Cond.sameMethod ad "java/lang/Object" "clone" "()Ljava/lang/Object;").before a0 Z = true) (w3 : (Jvm.Cond.native ⟨"java/lang/Object", "clone", "()Ljava/lang/Object;"⟩).before a0 Z = true) (w4 : (Jvm.Cond.instanceMethod ⟨"java/lang/Object", "clone", "()Ljava/lang/Object;"⟩).before a0 Z = true) (w5 : (Jvm.Cond.selects ad ⟨ad, "clone", "()Ljava/lang/Object;"⟩ ⟨"java/lang/Object", "clone", "()Ljava/lang/Object;"⟩).before a0 Z = true) (w6 : (Jvm.Cond.castable ad "java/lang/Cloneable").before a0 Z = true)
    (F : Arv Z h a kc ty n vs dv) (E : Exa Z h a ad) (hd : decode B pc = .ok (.invokevirtual index, 3)) (hsz : Ls.size = ml) (hf : 1 ≤ R.frames) (hl : (st.map fun v => v.category).sum + 14 ≤ R.locals) (hcap : n.toNatClampNeg ≤ cap) (hc : cells + 1 ≤ R.cells) (hsl : slots + cap ≤ R.slots) (hp : pc + 3 = pc')
    (k : ∀ T' h' b, Stand p l e R s m args below meth c T' locs (cells + 1) (slots + cap) → T'.heap = h' → b = h.size → Ext h h' → Arv Z h' b kc ty n vs dv → Exa Z h' b ad → Go p e below W (T'.setTop (mkF m pc' Ls (.ref b :: st)))) : Go p e below W (T.setTop (mkF m pc Ls (.ref a :: st))) := by
  subst hp
  obtain ⟨T', h', X', e', E', A', O', q⟩ := cloneH X K.1 K.2.2.1 K.2.2.2.1 w1 w2 w3 w4 w5 w6 eT F.arh E (g := mkF m pc Ls (.ref a :: st)) rfl (hsz.trans K.2.2.2.2.symm) rfl (K.at hd) hf (W := (st.map fun v => v.category).sum) (by show 2 * 0 + _ ≤ _; omega) hl hcap hc hsl
  exact (k T' h' _ X' e' rfl E' A' O').via q
theorem own_cast (K : Ctx p s m c Z B own ml) (X : Stand p l e R s m args below meth c T locs cells slots) {C : String} {index : Nat} (eT : T.heap = h) (w : (Jvm.Cond.classLink own index C).before a0 Z = true) (F : Ins Z h a C true) (hd : decode B pc = .ok (.checkcast index, 3)) (hp : pc + 3 = pc') (k : ∀ T', Stand p l e R s m args below meth c T' locs cells slots → T'.heap = h → Go p e below W (T'.setTop (mkF m pc' Ls (.ref a :: st)))) : Go p e below W (T.setTop (mkF m pc Ls (.ref a :: st))) := by
  subst hp
  obtain ⟨T', X', e', q⟩ := castY X K.1 K.2.2.1 K.2.2.2.1 w eT F (g := mkF m pc Ls (.ref a :: st)) rfl rfl (K.at hd)
  exact (k T' X' e').via q
end OwnArr
theorem own_fld {s : State} {args : Array Value} {t : Term} {w : Addr} {C n d : String} {k : Int32} (ev : t.eval args s none [] s = some (.ref w)) (h : (Jvm.Cond.eq (Term.field t C n d) (Term.int k)).value args s none s [] = some true) : Fld s s.heap w C n d (.int k) := by
  obtain ⟨x, y, h1, h2, hk, -⟩ := cmp_v (Or.inl h)
  have h3 : y = .int k := (Option.some.inj ((Term.int_eval k).symm.trans h2)).symm
  subst h3
  have h4 := Fld.start ((fld_at ev).symm.trans h1)
  cases x with
  | int z =>
    have h5 : z = k := by simpa [Cond.value, h1, h2] using h
    subst h5; exact h4
  | _ => simp [Cond.value, h1, h2] at h
theorem own_elem {s : State} {args : Array Value} {t u : Term} {a w : Addr} {j : Int32} {i : Nat} {c : Cell} (ev : t.eval args s none [] s = some (.ref a)) (h : (Jvm.Cond.eq (Term.elem t (Term.int j)) u).value args s none s [] = some true) (eu : u.eval args s none [] s = some (.ref w)) (hc : s.heap[a]? = some c) (hj : j.toNatClampNeg = i := by rfl) : c.slots[i]? = some (.ref w) := by
  obtain ⟨x, y, h1, h2, hk, -⟩ := cmp_v (Or.inl h)
  cases eu.symm.trans h2
  obtain ⟨-, h3⟩ := elem_in h1 ev (Term.int_eval j) hc
  rw [hj] at h3
  cases x with
  | ref z =>
    have h5 : z = w := by simpa [Cond.value, h1, h2] using h
    subst h5; exact h3
  | null => simp [Cond.value, h1, h2] at h
  | _ => simp [Cond.value, h1, h2] at h
theorem own_arr {s : State} {args : Array Value} {t : Term} {a : Addr} {C : String} {z : Int32} {vs : List Value} (hf : Fit s) (ev : t.eval args s none [] s = some (.ref a)) (hA : (Jvm.Cond.arrayOf t (.object C)).value args s none s [] = some true) (hL : (Jvm.Cond.eq (Term.length t) (Term.int z)).value args s none s [] = some true) (hz : ¬ z < 0) (hl : z.toNatClampNeg = vs.length) (H : ∀ c : Cell, s.heap[a]? = some c → HasL c 0 vs) : ∃ k, Arv s s.heap a k (.object C) z vs .null := by
  obtain ⟨c, A⟩ := Arr.start ev hA
  obtain ⟨x, y, h1, h2, hk, -⟩ := cmp_v (Or.inl hL)
  have h3 : y = .int z := (Option.some.inj ((Term.int_eval z).symm.trans h2)).symm
  subst h3
  have hAt : s.arrayAt? a = some c := A.fin (Vm.Alike.refl _)
  have h4 : c.slots.size < 2147483648 ∧ x = .int c.slots.size.toInt32 := by
    have h5 : (Term.length t).eval args s none [] s = (if c.slots.size < 2147483648 then some (.int c.slots.size.toInt32) else none) := by simp [Term.eval, ev, hAt]
    rw [h5] at h1
    by_cases hn : c.slots.size < 2147483648
    · rw [if_pos hn] at h1; exact ⟨hn, (Option.some.inj h1).symm⟩
    · rw [if_neg hn] at h1; cases h1
  obtain ⟨h5, rfl⟩ := h4
  have h6 : c.slots.size.toInt32 = z := by simpa [Cond.value, h1, Term.int_eval] using hL
  exact ⟨c.cls, Arv.start hf A h5 h6 hz hl (H c A.1)⟩
def own_cs : List Int32 := [(1 : Int32), (2 : Int32), (3 : Int32), (4 : Int32), (5 : Int32), (6 : Int32), (7 : Int32), (8 : Int32)]
theorem own_nat {i : Nat} (h : i < 2147483648) : (Int32.ofNat i).toNatClampNeg = i := Int32.toNatClampNeg_ofNat_of_lt h
theorem own_nn {i : Nat} (h : i < 2147483648) : ¬ Int32.ofNat i < 0 := XT.nlt32 (a := i) (b := 0) h (Nat.zero_le _)
theorem own_succ {i : Nat} : Int32.ofNat i + 1 = Int32.ofNat (i + 1) := (Int32.ofNat_add i 1).symm
theorem own_st5 {a b c d : Value} {o4 : Slot} {w : Addr} (h : One o4) : storeLocals #[.val a, .val b, .val c, .val d, o4] 4 (.ref w) = some #[.val a, .val b, .val c, .val d, .val (.ref w)] := by
  rcases h with rfl | ⟨w, rfl, hw⟩
  · rfl
  · cases w <;> first | rfl | (simp [Value.category] at hw)
theorem own_rng (p : Int32) : ∃ j : Nat, j < 8 ∧ (p &&& (2147483647 : Int32)) % (8 : Int32) + (1 : Int32) = Int32.ofNat (j + 1) := by
  have h1 := c_and p 2147483647 (by decide)
  have h2 := (c_irem (p &&& 2147483647) 8 8 (by decide)).1 h1.1
  have h3 := c_iadd ((p &&& 2147483647) % 8) 1
  have h4 := rng32 ((p &&& 2147483647) % 8 + 1)
  have h5 : (1 : Int32).toInt = 1 := by decide
  refine ⟨((p &&& 2147483647) % 8).toInt.toNat, by omega, ?_⟩
  rw [← Int32.toInt_inj, Int32.toInt_ofNat_of_lt (by omega)]
  omega
theorem d1_0 : decode method_3_code 0 = .ok (.iload_n 0, 1) := by decide +kernel
theorem d1_1 : decode method_3_code 1 = .ok (.iconst 1, 1) := by decide +kernel
theorem d1_2 : decode method_3_code 2 = .ok (.if_icmp .ne 7, 3) := by decide +kernel
theorem d1_5 : decode method_3_code 5 = .ok (.getstatic 19, 3) := by decide +kernel
theorem d1_8 : decode method_3_code 8 = .ok (.areturn, 1) := by decide +kernel
theorem d1_9 : decode method_3_code 9 = .ok (.iload_n 0, 1) := by decide +kernel
theorem d1_10 : decode method_3_code 10 = .ok (.iconst 2, 1) := by decide +kernel
theorem d1_11 : decode method_3_code 11 = .ok (.if_icmp .ne 7, 3) := by decide +kernel
theorem d1_14 : decode method_3_code 14 = .ok (.getstatic 23, 3) := by decide +kernel
theorem d1_17 : decode method_3_code 17 = .ok (.areturn, 1) := by decide +kernel
theorem d1_18 : decode method_3_code 18 = .ok (.iload_n 0, 1) := by decide +kernel
theorem d1_19 : decode method_3_code 19 = .ok (.iconst 3, 1) := by decide +kernel
theorem d1_20 : decode method_3_code 20 = .ok (.if_icmp .ne 7, 3) := by decide +kernel
theorem d1_23 : decode method_3_code 23 = .ok (.getstatic 26, 3) := by decide +kernel
theorem d1_26 : decode method_3_code 26 = .ok (.areturn, 1) := by decide +kernel
theorem d1_27 : decode method_3_code 27 = .ok (.iload_n 0, 1) := by decide +kernel
theorem d1_28 : decode method_3_code 28 = .ok (.iconst 4, 1) := by decide +kernel
theorem d1_29 : decode method_3_code 29 = .ok (.if_icmp .ne 7, 3) := by decide +kernel
theorem d1_32 : decode method_3_code 32 = .ok (.getstatic 29, 3) := by decide +kernel
theorem d1_35 : decode method_3_code 35 = .ok (.areturn, 1) := by decide +kernel
theorem d1_36 : decode method_3_code 36 = .ok (.iload_n 0, 1) := by decide +kernel
theorem d1_37 : decode method_3_code 37 = .ok (.iconst 5, 1) := by decide +kernel
theorem d1_38 : decode method_3_code 38 = .ok (.if_icmp .ne 7, 3) := by decide +kernel
theorem d1_41 : decode method_3_code 41 = .ok (.getstatic 32, 3) := by decide +kernel
theorem d1_44 : decode method_3_code 44 = .ok (.areturn, 1) := by decide +kernel
theorem d1_45 : decode method_3_code 45 = .ok (.iload_n 0, 1) := by decide +kernel
theorem d1_46 : decode method_3_code 46 = .ok (.bipush 6, 2) := by decide +kernel
theorem d1_48 : decode method_3_code 48 = .ok (.if_icmp .ne 7, 3) := by decide +kernel
theorem d1_51 : decode method_3_code 51 = .ok (.getstatic 35, 3) := by decide +kernel
theorem d1_54 : decode method_3_code 54 = .ok (.areturn, 1) := by decide +kernel
theorem d1_55 : decode method_3_code 55 = .ok (.iload_n 0, 1) := by decide +kernel
theorem d1_56 : decode method_3_code 56 = .ok (.bipush 7, 2) := by decide +kernel
theorem d1_58 : decode method_3_code 58 = .ok (.if_icmp .ne 7, 3) := by decide +kernel
theorem d1_61 : decode method_3_code 61 = .ok (.getstatic 38, 3) := by decide +kernel
theorem d1_64 : decode method_3_code 64 = .ok (.areturn, 1) := by decide +kernel
theorem d1_65 : decode method_3_code 65 = .ok (.getstatic 41, 3) := by decide +kernel
theorem d1_68 : decode method_3_code 68 = .ok (.areturn, 1) := by decide +kernel
theorem d2_0 : decode prog_11_method_4_code 0 = .ok (.invokestatic 59, 3) := by decide +kernel
theorem d2_3 : decode prog_11_method_4_code 3 = .ok (.astore_n 1, 1) := by decide +kernel
theorem d2_4 : decode prog_11_method_4_code 4 = .ok (.aload_n 1, 1) := by decide +kernel
theorem d2_5 : decode prog_11_method_4_code 5 = .ok (.arraylength, 1) := by decide +kernel
theorem d2_6 : decode prog_11_method_4_code 6 = .ok (.istore_n 2, 1) := by decide +kernel
theorem d2_7 : decode prog_11_method_4_code 7 = .ok (.iconst 0, 1) := by decide +kernel
theorem d2_8 : decode prog_11_method_4_code 8 = .ok (.istore_n 3, 1) := by decide +kernel
theorem d2_9 : decode prog_11_method_4_code 9 = .ok (.iload_n 3, 1) := by decide +kernel
theorem d2_10 : decode prog_11_method_4_code 10 = .ok (.iload_n 2, 1) := by decide +kernel
theorem d2_11 : decode prog_11_method_4_code 11 = .ok (.if_icmp .ge 26, 3) := by decide +kernel
theorem d2_14 : decode prog_11_method_4_code 14 = .ok (.aload_n 1, 1) := by decide +kernel
theorem d2_15 : decode prog_11_method_4_code 15 = .ok (.iload_n 3, 1) := by decide +kernel
theorem d2_16 : decode prog_11_method_4_code 16 = .ok (.aaload, 1) := by decide +kernel
theorem d2_17 : decode prog_11_method_4_code 17 = .ok (.astore 4, 2) := by decide +kernel
theorem d2_19 : decode prog_11_method_4_code 19 = .ok (.aload 4, 2) := by decide +kernel
theorem d2_21 : decode prog_11_method_4_code 21 = .ok (.getfield 47, 3) := by decide +kernel
theorem d2_24 : decode prog_11_method_4_code 24 = .ok (.iload_n 0, 1) := by decide +kernel
theorem d2_25 : decode prog_11_method_4_code 25 = .ok (.if_icmp .ne 6, 3) := by decide +kernel
theorem d2_28 : decode prog_11_method_4_code 28 = .ok (.aload 4, 2) := by decide +kernel
theorem d2_30 : decode prog_11_method_4_code 30 = .ok (.areturn, 1) := by decide +kernel
theorem d2_31 : decode prog_11_method_4_code 31 = .ok (.iinc 3 1, 3) := by decide +kernel
theorem d2_34 : decode prog_11_method_4_code 34 = .ok (.goto (-25), 3) := by decide +kernel
theorem d3_0 : decode prog_11_method_1_code 0 = .ok (.getstatic 28, 3) := by decide +kernel
theorem d3_3 : decode prog_11_method_1_code 3 = .ok (.invokevirtual 32, 3) := by decide +kernel
theorem d3_6 : decode prog_11_method_1_code 6 = .ok (.checkcast 33, 3) := by decide +kernel
theorem d3_9 : decode prog_11_method_1_code 9 = .ok (.areturn, 1) := by decide +kernel
theorem pd_0 : parseMethodDescriptor "()[Lcom/example/anteroom/anteroom/io/Frame$Status;" = some ⟨[], some (.array (.object "com/example/anteroom/anteroom/io/Frame$Status"))⟩ := by decide +kernel
theorem pd_1 : parseMethodDescriptor "(I)Lcom/example/anteroom/anteroom/io/Frame$Status;" = some ⟨[.int], some (.object "com/example/anteroom/anteroom/io/Frame$Status")⟩ := by decide +kernel
set_option maxRecDepth 65536 in
set_option maxHeartbeats 40000000 in
theorem rmW (l : Launch) (Z : State) (a0 : Array Value) (hw : ∀ d ∈ tables_1, d.before a0 Z = true) (ws : List Jvm.Cond) (w_VALUES : Addr) (kA : ClassId) (vs : List Value) (h0 : Heap) (n0 : Nat) (S_VALUES : Sta Z h0 "com/example/anteroom/anteroom/io/Frame$Status" "$VALUES" "[Lcom/example/anteroom/anteroom/io/Frame$Status;" (.ref w_VALUES)) (V1 : Arv Z h0 w_VALUES kA (.object "com/example/anteroom/anteroom/io/Frame$Status") (8 : Int32) vs .null) (E1 : Exa Z h0 w_VALUES "[Lcom/example/anteroom/anteroom/io/Frame$Status;") :
    Con l (⟨"com/example/anteroom/anteroom/io/Frame$Status", "values", "()[Lcom/example/anteroom/anteroom/io/Frame$Status;"⟩ : MethodName) prog_11_method_1_code 0 (some (.array (.object "com/example/anteroom/anteroom/io/Frame$Status"))) ws ({ frames := 1, cells := 1, slots := 8, locals := 14 } : Room) Z #[] h0 (fun v h L => v = some (.ref h0.size) ∧ Fr n0 L ∧ Ext h0 h ∧ Arv Z h h0.size kA (.object "com/example/anteroom/anteroom/io/Frame$Status") (8 : Int32) vs .null) := by
  refine own_enter (Ls := #[]) (by first | (simp [plainFor, plainName, overriddenIn]; done) | decide +kernel) (fun m => by first | (simp [entryFrame, mkF, argsToLocals, Value.category, maxLocals]; done) | rfl) fun p e s m below meth c T0 K X0 e0 hrt hlk hnm => ?_
  have N0 := Fr.nil n0
  have KB0 := Keep.refl h0 []
  refine own_getS (pc' := 3) K X0 e0 (own_w hw 14 rfl) Via.refl S_VALUES d3_0 rfl fun T1 X1 e1 => ?_
  refine own_clone (pc' := 6) (cap := 8) K X1 e1 (own_w hw 16 rfl) (own_w hw 17 rfl) (own_w hw 21 rfl) (own_w hw 19 rfl) (own_w hw 20 rfl) (own_w hw 22 rfl) V1 E1 d3_3 rfl (own_le rfl) (own_le rfl) (by decide) (own_le rfl) (own_le rfl) rfl fun T2 h2 b2 X2 e2 g2 E2 V2 A2 => ?_
  refine own_cast (pc' := 9) K X2 e2 (own_w hw 31 rfl) (Ins.self A2) d3_6 rfl fun T3 X3 e3 => ?_
  exact own_retA K X3 hrt rfl hlk rfl d3_9 (own_le rfl) (own_le rfl) (by (try rw [e3]); exact ⟨by rw [g2], N0, E2, g2 ▸ V2⟩)
set_option maxRecDepth 65536 in
set_option maxHeartbeats 40000000 in
theorem rmO (l : Launch) (Z : State) (a0 : Array Value) (hw : ∀ d ∈ tables_1, d.before a0 Z = true) (ws : List Jvm.Cond) (c1 : Int32) (j : Nat) (r w_VALUES : Addr) (kA : ClassId) (vs : List Value) (h0 : Heap) (n0 : Nat) (hj : j < 8) (S_VALUES : Sta Z h0 "com/example/anteroom/anteroom/io/Frame$Status" "$VALUES" "[Lcom/example/anteroom/anteroom/io/Frame$Status;" (.ref w_VALUES)) (V1 : Arv Z h0 w_VALUES kA (.object "com/example/anteroom/anteroom/io/Frame$Status") (8 : Int32) vs .null) (E1 : Exa Z h0 w_VALUES "[Lcom/example/anteroom/anteroom/io/Frame$Status;") (hF : ∀ i, i ≤ j → ∃ w ci, vs.getD i .null = .ref w ∧ Fld Z h0 w "com/example/anteroom/anteroom/io/Frame$Status" "code" "I" (.int ci) ∧ (ci = c1 ↔ i = j)) (hr : vs.getD j .null = .ref r) :
    Con l (⟨"com/example/anteroom/anteroom/io/Frame$Status", "of", "(I)Lcom/example/anteroom/anteroom/io/Frame$Status;"⟩ : MethodName) prog_11_method_4_code 5 (some (.object "com/example/anteroom/anteroom/io/Frame$Status")) ws ({ frames := 2, cells := 1, slots := 8, locals := 25 } : Room) Z #[(.int c1)] h0 (fun v h L => v = some (.ref r) ∧ Fr n0 L ∧ Ext h0 h) := by
  refine own_enter (Ls := #[.val (.int c1), .unset, .unset, .unset, .unset]) (by first | (simp [plainFor, plainName, overriddenIn]; done) | decide +kernel) (fun m => by first | (simp [entryFrame, mkF, argsToLocals, Value.category, maxLocals]; done) | rfl) fun p e s m below meth c T0 K X0 e0 hrt hlk hnm => ?_
  have N0 := Fr.nil n0
  have KB0 := Keep.refl h0 []
  refine own_callS (pc' := 3) (argsL := []) (rest := []) K X0 e0 (own_w hw 11 rfl) (own_w hw 12 rfl) (own_w hw 6 rfl) (own_w hw 13 rfl) (rmW l Z a0 hw [] w_VALUES kA vs h0 n0 S_VALUES V1 E1) d2_0 pd_0 rfl rfl rfl (by decide) (own_le rfl) (own_le rfl) (own_le rfl) (own_le rfl) rfl fun v1 T1 L1 X1 hQ1 => ?_
  obtain ⟨h1, e1⟩ : ∃ h, T1.heap = h := ⟨_, rfl⟩
  rw [e1] at hQ1
  obtain ⟨rfl, N1q, E1, V1⟩ := hQ1
  have N1 := Fr.app N0 N1q
  show Go p e below _ (T1.setTop (mkF m 3 #[.val (.int c1), .unset, .unset, .unset, .unset] [(.ref h0.size)]))
  obtain ⟨b, gb⟩ : ∃ b, b = h0.size := ⟨_, rfl⟩
  rw [← gb] at V1
  rw [← gb]
  show Go p e below _ (T1.setTop (mkF m 3 #[.val (.int c1), .unset, .unset, .unset, .unset] [(.ref b)]))
  have Fj : ∀ i, i ≤ j → ∃ w ci, vs.getD i .null = .ref w ∧ Fld Z h1 w "com/example/anteroom/anteroom/io/Frame$Status" "code" "I" (.int ci) ∧ (ci = c1 ↔ i = j) := fun i hi => by
    obtain ⟨w, ci, q1, q2, q3⟩ := hF i hi
    exact ⟨w, ci, q1, q2.ext E1, q3⟩
  refine own_astoreN (l' := #[.val (.int c1), .val (.ref b), .unset, .unset, .unset]) (pc' := 4) K X1 d2_3 rfl rfl rfl ?_
  refine own_aloadN (pc' := 5) K X1 d2_4 rfl rfl rfl ?_
  refine own_alen (pc' := 6) K X1 e1 V1 d2_5 rfl ?_
  refine own_istoreN (l' := #[.val (.int c1), .val (.ref b), .val (.int (8 : Int32)), .unset, .unset]) (pc' := 7) K X1 d2_6 rfl rfl ?_
  refine own_iconst (v := (0 : Int32)) (pc' := 8) K X1 d2_7 rfl rfl ?_
  refine own_istoreN (l' := #[.val (.int c1), .val (.ref b), .val (.int (8 : Int32)), .val (.int (0 : Int32)), .unset]) (pc' := 9) K X1 d2_8 rfl rfl ?_
  have loop : ∀ (d i : Nat) (T : State) (o4 : Slot), i + d = j → One o4 → Stand p l e ({ frames := 2, cells := 1, slots := 8, locals := 25 } : Room) s m #[(.int c1)] below meth c T ([] ++ L1) (0 + 1) (0 + 8) → T.heap = h1 → Go p e below (End s ({ frames := 2, cells := 1, slots := 8, locals := 25 } : Room) (fun v h L => v = some (.ref r) ∧ Fr n0 L ∧ Ext h0 h)) (T.setTop (mkF m 9 #[.val (.int c1), .val (.ref b), .val (.int (8 : Int32)), .val (.int (Int32.ofNat i)), o4] [])) := by
    intro d
    induction d with
    | zero =>
      intro i T o4 hd ho X eT
      obtain ⟨w', ci, q1, q2, q3⟩ := Fj i (by omega)
      have hi : i < 8 := by omega
      refine own_iloadN (pc' := 10) K X d2_9 rfl rfl ?_
      refine own_iloadN (pc' := 11) K X d2_10 rfl rfl ?_
      refine own_icmpNo (pc' := 14) K X d2_11 (tlt (XT.lt32 (by decide) hi : Int32.ofNat i < Int32.ofNat 8)).2.1 rfl ?_
      refine own_aloadN (pc' := 15) K X d2_14 rfl rfl rfl ?_
      refine own_iloadN (pc' := 16) K X d2_15 rfl rfl ?_
      refine own_aaload (pc' := 17) (v := .ref w') K X eT V1 rfl ⟨own_nn (by omega), XT.lt32 (by decide) hi⟩ (by rw [own_nat (by omega)]; exact q1) d2_16 rfl ?_
      refine own_astore (pc' := 19) (l' := #[.val (.int c1), .val (.ref b), .val (.int (8 : Int32)), .val (.int (Int32.ofNat i)), .val (.ref w')]) K X d2_17 rfl (own_st5 ho) rfl ?_
      refine own_aload (pc' := 21) K X d2_19 rfl rfl rfl ?_
      refine own_getF (pc' := 24) K X eT (own_w hw 33 rfl) Via.refl q2 d2_21 rfl fun T201 X201 e201 => ?_
      refine own_iloadN (pc' := 25) K X201 d2_24 rfl rfl ?_
      refine own_icmpNo (pc' := 28) K X201 d2_25 (teq (q3.mpr (by omega))).2 rfl ?_
      refine own_aload (pc' := 30) K X201 d2_28 rfl rfl rfl ?_
      obtain rfl : w' = r := Value.ref.inj (q1.symm.trans ((show i = j by omega) ▸ hr))
      exact own_retA K X201 hrt rfl hlk rfl d2_30 (own_le rfl) (own_le rfl) (by (try rw [e201]); exact ⟨rfl, N1, E1⟩)
    | succ d ih =>
      intro i T o4 hd ho X eT
      obtain ⟨w', ci, q1, q2, q3⟩ := Fj i (by omega)
      have hi : i < 8 := by omega
      refine own_iloadN (pc' := 10) K X d2_9 rfl rfl ?_
      refine own_iloadN (pc' := 11) K X d2_10 rfl rfl ?_
      refine own_icmpNo (pc' := 14) K X d2_11 (tlt (XT.lt32 (by decide) hi : Int32.ofNat i < Int32.ofNat 8)).2.1 rfl ?_
      refine own_aloadN (pc' := 15) K X d2_14 rfl rfl rfl ?_
      refine own_iloadN (pc' := 16) K X d2_15 rfl rfl ?_
      refine own_aaload (pc' := 17) (v := .ref w') K X eT V1 rfl ⟨own_nn (by omega), XT.lt32 (by decide) hi⟩ (by rw [own_nat (by omega)]; exact q1) d2_16 rfl ?_
      refine own_astore (pc' := 19) (l' := #[.val (.int c1), .val (.ref b), .val (.int (8 : Int32)), .val (.int (Int32.ofNat i)), .val (.ref w')]) K X d2_17 rfl (own_st5 ho) rfl ?_
      refine own_aload (pc' := 21) K X d2_19 rfl rfl rfl ?_
      refine own_getF (pc' := 24) K X eT (own_w hw 33 rfl) Via.refl q2 d2_21 rfl fun T301 X301 e301 => ?_
      refine own_iloadN (pc' := 25) K X301 d2_24 rfl rfl ?_
      refine own_icmpYes (pc' := 31) K X301 d2_25 (feq (fun q => absurd (q3.mp q) (by omega))).2 (by decide) (by decide) ?_
      refine own_iinc (v := (1 : Int32)) (l' := #[.val (.int c1), .val (.ref b), .val (.int (8 : Int32)), .val (.int ((Int32.ofNat i) + (1 : Int32))), .val (.ref w')]) (pc' := 34) K X301 d2_31 rfl rfl rfl rfl ?_
      refine own_goto (pc' := 9) K X301 d2_34 (by decide) (by decide) ?_
      rw [own_succ]
      exact ih (i + 1) _ _ (by omega) (One.val rfl) X301 e301
  exact loop j 0 T1 .unset (by omega) One.u X1 e1
set_option maxRecDepth 65536 in
set_option maxHeartbeats 40000000 in
theorem rmE (l : Launch) (Z : State) (a0 : Array Value) (hw : ∀ d ∈ tables_1, d.before a0 Z = true) (ws : List Jvm.Cond) (c1 : Int32) (w_NO_SUCH_FILE w_PERMISSION_DENIED w_FAILURE w_BAD_REQUEST w_ALREADY_EXISTS w_NOT_EMPTY w_NOT_A_DIRECTORY w_IS_A_DIRECTORY r : Addr) (h0 : Heap) (n0 : Nat) (S_NO_SUCH_FILE : Sta Z h0 "com/example/anteroom/anteroom/io/Frame$Status" "NO_SUCH_FILE" "Lcom/example/anteroom/anteroom/io/Frame$Status;" (.ref w_NO_SUCH_FILE)) (S_PERMISSION_DENIED : Sta Z h0 "com/example/anteroom/anteroom/io/Frame$Status" "PERMISSION_DENIED" "Lcom/example/anteroom/anteroom/io/Frame$Status;" (.ref w_PERMISSION_DENIED)) (S_FAILURE : Sta Z h0 "com/example/anteroom/anteroom/io/Frame$Status" "FAILURE" "Lcom/example/anteroom/anteroom/io/Frame$Status;" (.ref w_FAILURE)) (S_BAD_REQUEST : Sta Z h0 "com/example/anteroom/anteroom/io/Frame$Status" "BAD_REQUEST" "Lcom/example/anteroom/anteroom/io/Frame$Status;" (.ref w_BAD_REQUEST)) (S_ALREADY_EXISTS : Sta Z h0 "com/example/anteroom/anteroom/io/Frame$Status" "ALREADY_EXISTS" "Lcom/example/anteroom/anteroom/io/Frame$Status;" (.ref w_ALREADY_EXISTS)) (S_NOT_EMPTY : Sta Z h0 "com/example/anteroom/anteroom/io/Frame$Status" "NOT_EMPTY" "Lcom/example/anteroom/anteroom/io/Frame$Status;" (.ref w_NOT_EMPTY)) (S_NOT_A_DIRECTORY : Sta Z h0 "com/example/anteroom/anteroom/io/Frame$Status" "NOT_A_DIRECTORY" "Lcom/example/anteroom/anteroom/io/Frame$Status;" (.ref w_NOT_A_DIRECTORY)) (S_IS_A_DIRECTORY : Sta Z h0 "com/example/anteroom/anteroom/io/Frame$Status" "IS_A_DIRECTORY" "Lcom/example/anteroom/anteroom/io/Frame$Status;" (.ref w_IS_A_DIRECTORY)) (hr : r = if c1 = 1 then w_NO_SUCH_FILE else if c1 = 2 then w_PERMISSION_DENIED else if c1 = 3 then w_FAILURE else if c1 = 4 then w_BAD_REQUEST else if c1 = 5 then w_ALREADY_EXISTS else if c1 = 6 then w_NOT_EMPTY else if c1 = 7 then w_NOT_A_DIRECTORY else w_IS_A_DIRECTORY) :
    Con l (⟨"com/example/anteroom/anteroom/io/StatusOfPinLaw", "expected", "(I)Lcom/example/anteroom/anteroom/io/Frame$Status;"⟩ : MethodName) method_3_code 1 (some (.object "com/example/anteroom/anteroom/io/Frame$Status")) ws ({ frames := 0, cells := 0, slots := 0, locals := 0 } : Room) Z #[(.int c1)] h0 (fun v h L => v = some (.ref r) ∧ Fr n0 L ∧ h = h0) := by
  refine own_enter (Ls := #[.val (.int c1)]) (by first | (simp [plainFor, plainName, overriddenIn]; done) | decide +kernel) (fun m => by first | (simp [entryFrame, mkF, argsToLocals, Value.category, maxLocals]; done) | rfl) fun p e s m below meth c T0 K X0 e0 hrt hlk hnm => ?_
  have N0 := Fr.nil n0
  have KB0 := Keep.refl h0 []
  refine own_iloadN (pc' := 1) K X0 d1_0 rfl rfl ?_
  refine own_iconst (v := (1 : Int32)) (pc' := 2) K X0 d1_1 rfl rfl ?_
  by_cases q0 : c1 = (1 : Int32)
  · refine own_icmpNo (pc' := 5) K X0 d1_2 (teq q0).2 rfl ?_
    refine own_getS (pc' := 8) K X0 e0 (own_w hw 5 rfl) Via.refl S_NO_SUCH_FILE d1_5 rfl fun T1 X1 e1 => ?_
    exact own_retA K X1 hrt rfl hlk rfl d1_8 (own_le rfl) (own_le rfl) (by (try rw [e1]); exact ⟨by rw [hr, if_pos q0], N0, rfl⟩)
  · refine own_icmpYes (pc' := 9) K X0 d1_2 (feq q0).2 (by decide) (by decide) ?_
    refine own_iloadN (pc' := 10) K X0 d1_9 rfl rfl ?_
    refine own_iconst (v := (2 : Int32)) (pc' := 11) K X0 d1_10 rfl rfl ?_
    by_cases q1 : c1 = (2 : Int32)
    · refine own_icmpNo (pc' := 14) K X0 d1_11 (teq q1).2 rfl ?_
      refine own_getS (pc' := 17) K X0 e0 (own_w hw 39 rfl) Via.refl S_PERMISSION_DENIED d1_14 rfl fun T2 X2 e2 => ?_
      exact own_retA K X2 hrt rfl hlk rfl d1_17 (own_le rfl) (own_le rfl) (by (try rw [e2]); exact ⟨by rw [hr, if_neg q0, if_pos q1], N0, rfl⟩)
    · refine own_icmpYes (pc' := 18) K X0 d1_11 (feq q1).2 (by decide) (by decide) ?_
      refine own_iloadN (pc' := 19) K X0 d1_18 rfl rfl ?_
      refine own_iconst (v := (3 : Int32)) (pc' := 20) K X0 d1_19 rfl rfl ?_
      by_cases q2 : c1 = (3 : Int32)
      · refine own_icmpNo (pc' := 23) K X0 d1_20 (teq q2).2 rfl ?_
        refine own_getS (pc' := 26) K X0 e0 (own_w hw 38 rfl) Via.refl S_FAILURE d1_23 rfl fun T3 X3 e3 => ?_
        exact own_retA K X3 hrt rfl hlk rfl d1_26 (own_le rfl) (own_le rfl) (by (try rw [e3]); exact ⟨by rw [hr, if_neg q0, if_neg q1, if_pos q2], N0, rfl⟩)
      · refine own_icmpYes (pc' := 27) K X0 d1_20 (feq q2).2 (by decide) (by decide) ?_
        refine own_iloadN (pc' := 28) K X0 d1_27 rfl rfl ?_
        refine own_iconst (v := (4 : Int32)) (pc' := 29) K X0 d1_28 rfl rfl ?_
        by_cases q3 : c1 = (4 : Int32)
        · refine own_icmpNo (pc' := 32) K X0 d1_29 (teq q3).2 rfl ?_
          refine own_getS (pc' := 35) K X0 e0 (own_w hw 35 rfl) Via.refl S_BAD_REQUEST d1_32 rfl fun T4 X4 e4 => ?_
          exact own_retA K X4 hrt rfl hlk rfl d1_35 (own_le rfl) (own_le rfl) (by (try rw [e4]); exact ⟨by rw [hr, if_neg q0, if_neg q1, if_neg q2, if_pos q3], N0, rfl⟩)
        · refine own_icmpYes (pc' := 36) K X0 d1_29 (feq q3).2 (by decide) (by decide) ?_
          refine own_iloadN (pc' := 37) K X0 d1_36 rfl rfl ?_
          refine own_iconst (v := (5 : Int32)) (pc' := 38) K X0 d1_37 rfl rfl ?_
          by_cases q4 : c1 = (5 : Int32)
          · refine own_icmpNo (pc' := 41) K X0 d1_38 (teq q4).2 rfl ?_
            refine own_getS (pc' := 44) K X0 e0 (own_w hw 40 rfl) Via.refl S_ALREADY_EXISTS d1_41 rfl fun T5 X5 e5 => ?_
            exact own_retA K X5 hrt rfl hlk rfl d1_44 (own_le rfl) (own_le rfl) (by (try rw [e5]); exact ⟨by rw [hr, if_neg q0, if_neg q1, if_neg q2, if_neg q3, if_pos q4], N0, rfl⟩)
          · refine own_icmpYes (pc' := 45) K X0 d1_38 (feq q4).2 (by decide) (by decide) ?_
            refine own_iloadN (pc' := 46) K X0 d1_45 rfl rfl ?_
            refine own_bipush (v := (6 : Int32)) (pc' := 48) K X0 d1_46 rfl rfl ?_
            by_cases q5 : c1 = (6 : Int32)
            · refine own_icmpNo (pc' := 51) K X0 d1_48 (teq q5).2 rfl ?_
              refine own_getS (pc' := 54) K X0 e0 (own_w hw 41 rfl) Via.refl S_NOT_EMPTY d1_51 rfl fun T6 X6 e6 => ?_
              exact own_retA K X6 hrt rfl hlk rfl d1_54 (own_le rfl) (own_le rfl) (by (try rw [e6]); exact ⟨by rw [hr, if_neg q0, if_neg q1, if_neg q2, if_neg q3, if_neg q4, if_pos q5], N0, rfl⟩)
            · refine own_icmpYes (pc' := 55) K X0 d1_48 (feq q5).2 (by decide) (by decide) ?_
              refine own_iloadN (pc' := 56) K X0 d1_55 rfl rfl ?_
              refine own_bipush (v := (7 : Int32)) (pc' := 58) K X0 d1_56 rfl rfl ?_
              by_cases q6 : c1 = (7 : Int32)
              · refine own_icmpNo (pc' := 61) K X0 d1_58 (teq q6).2 rfl ?_
                refine own_getS (pc' := 64) K X0 e0 (own_w hw 36 rfl) Via.refl S_NOT_A_DIRECTORY d1_61 rfl fun T7 X7 e7 => ?_
                exact own_retA K X7 hrt rfl hlk rfl d1_64 (own_le rfl) (own_le rfl) (by (try rw [e7]); exact ⟨by rw [hr, if_neg q0, if_neg q1, if_neg q2, if_neg q3, if_neg q4, if_neg q5, if_pos q6], N0, rfl⟩)
              · refine own_icmpYes (pc' := 65) K X0 d1_58 (feq q6).2 (by decide) (by decide) ?_
                refine own_getS (pc' := 68) K X0 e0 (own_w hw 37 rfl) Via.refl S_IS_A_DIRECTORY d1_65 rfl fun T8 X8 e8 => ?_
                exact own_retA K X8 hrt rfl hlk rfl d1_68 (own_le rfl) (own_le rfl) (by (try rw [e8]); exact ⟨by rw [hr, if_neg q0, if_neg q1, if_neg q2, if_neg q3, if_neg q4, if_neg q5, if_neg q6], N0, rfl⟩)
set_option maxRecDepth 65536 in
set_option maxHeartbeats 40000000 in
theorem rm0 (l : Launch) (Z : State) (a0 : Array Value) (hw : ∀ d ∈ tables_1, d.before a0 Z = true) (ws : List Jvm.Cond) (p1 : Int32) (w_NO_SUCH_FILE w_PERMISSION_DENIED w_FAILURE w_BAD_REQUEST w_ALREADY_EXISTS w_NOT_EMPTY w_NOT_A_DIRECTORY w_IS_A_DIRECTORY w_VALUES : Addr) (kA : ClassId) (vs : List Value) (h0 : Heap) (n0 : Nat) (S_NO_SUCH_FILE : Sta Z h0 "com/example/anteroom/anteroom/io/Frame$Status" "NO_SUCH_FILE" "Lcom/example/anteroom/anteroom/io/Frame$Status;" (.ref w_NO_SUCH_FILE)) (S_PERMISSION_DENIED : Sta Z h0 "com/example/anteroom/anteroom/io/Frame$Status" "PERMISSION_DENIED" "Lcom/example/anteroom/anteroom/io/Frame$Status;" (.ref w_PERMISSION_DENIED)) (S_FAILURE : Sta Z h0 "com/example/anteroom/anteroom/io/Frame$Status" "FAILURE" "Lcom/example/anteroom/anteroom/io/Frame$Status;" (.ref w_FAILURE)) (S_BAD_REQUEST : Sta Z h0 "com/example/anteroom/anteroom/io/Frame$Status" "BAD_REQUEST" "Lcom/example/anteroom/anteroom/io/Frame$Status;" (.ref w_BAD_REQUEST)) (S_ALREADY_EXISTS : Sta Z h0 "com/example/anteroom/anteroom/io/Frame$Status" "ALREADY_EXISTS" "Lcom/example/anteroom/anteroom/io/Frame$Status;" (.ref w_ALREADY_EXISTS)) (S_NOT_EMPTY : Sta Z h0 "com/example/anteroom/anteroom/io/Frame$Status" "NOT_EMPTY" "Lcom/example/anteroom/anteroom/io/Frame$Status;" (.ref w_NOT_EMPTY)) (S_NOT_A_DIRECTORY : Sta Z h0 "com/example/anteroom/anteroom/io/Frame$Status" "NOT_A_DIRECTORY" "Lcom/example/anteroom/anteroom/io/Frame$Status;" (.ref w_NOT_A_DIRECTORY)) (S_IS_A_DIRECTORY : Sta Z h0 "com/example/anteroom/anteroom/io/Frame$Status" "IS_A_DIRECTORY" "Lcom/example/anteroom/anteroom/io/Frame$Status;" (.ref w_IS_A_DIRECTORY)) (S_VALUES : Sta Z h0 "com/example/anteroom/anteroom/io/Frame$Status" "$VALUES" "[Lcom/example/anteroom/anteroom/io/Frame$Status;" (.ref w_VALUES)) (V1 : Arv Z h0 w_VALUES kA (.object "com/example/anteroom/anteroom/io/Frame$Status") (8 : Int32) vs .null) (E1 : Exa Z h0 w_VALUES "[Lcom/example/anteroom/anteroom/io/Frame$Status;") (hpick : ∃ (r : Addr) (c : Int32) (j : Nat), j < 8 ∧ (r = if ((p1 &&& (2147483647 : Int32)) % (8 : Int32) + (1 : Int32)) = 1 then w_NO_SUCH_FILE else if ((p1 &&& (2147483647 : Int32)) % (8 : Int32) + (1 : Int32)) = 2 then w_PERMISSION_DENIED else if ((p1 &&& (2147483647 : Int32)) % (8 : Int32) + (1 : Int32)) = 3 then w_FAILURE else if ((p1 &&& (2147483647 : Int32)) % (8 : Int32) + (1 : Int32)) = 4 then w_BAD_REQUEST else if ((p1 &&& (2147483647 : Int32)) % (8 : Int32) + (1 : Int32)) = 5 then w_ALREADY_EXISTS else if ((p1 &&& (2147483647 : Int32)) % (8 : Int32) + (1 : Int32)) = 6 then w_NOT_EMPTY else if ((p1 &&& (2147483647 : Int32)) % (8 : Int32) + (1 : Int32)) = 7 then w_NOT_A_DIRECTORY else w_IS_A_DIRECTORY) ∧ (∀ i, i ≤ j → ∃ w ci, vs.getD i .null = .ref w ∧ Fld Z h0 w "com/example/anteroom/anteroom/io/Frame$Status" "code" "I" (.int ci) ∧ (ci = c ↔ i = j)) ∧ vs.getD j .null = .ref r ∧ Exa Z h0 r "com/example/anteroom/anteroom/io/Frame$Status" ∧ c = ((p1 &&& (2147483647 : Int32)) % (8 : Int32) + (1 : Int32))) :
    Con l x code maxLocals ret ws room_1 Z #[(.int p1)] h0 (fun v h L => v = some (.int 1) ∧ Fr n0 L) := by
  refine own_enter (Ls := #[.val (.int p1), .unset, .unset, .unset]) (by first | (simp [plainFor, plainName, overriddenIn]; done) | decide +kernel) (fun m => by first | (simp [entryFrame, mkF, argsToLocals, Value.category, maxLocals]; done) | rfl) fun p e s m below meth c T0 K X0 e0 hrt hlk hnm => ?_
  have N0 := Fr.nil n0
  have KB0 := Keep.refl h0 []
  obtain ⟨r, c, j, hj, hr, hF, hv, hE, hK⟩ := hpick
  refine own_iloadN (pc' := 1) K X0 at_0 rfl rfl ?_
  refine own_ldcI (pc' := 3) K X0 at_1 (own_w hw 0 rfl) rfl ?_
  refine own_iand (pc' := 4) K X0 at_3 rfl ?_
  refine own_bipush (v := (8 : Int32)) (pc' := 6) K X0 at_4 rfl rfl ?_
  refine own_irem (pc' := 7) K X0 at_6 (by decide) rfl ?_
  refine own_iconst (v := (1 : Int32)) (pc' := 8) K X0 at_7 rfl rfl ?_
  refine own_iadd (pc' := 9) K X0 at_8 rfl ?_
  refine own_istoreN (l' := #[.val (.int p1), .val (.int (((p1 &&& (2147483647 : Int32)) % (8 : Int32)) + (1 : Int32))), .unset, .unset]) (pc' := 10) K X0 at_9 rfl rfl ?_
  refine own_iloadN (pc' := 11) K X0 at_10 rfl rfl ?_
  refine own_callS (pc' := 14) (argsL := [(.int (((p1 &&& (2147483647 : Int32)) % (8 : Int32)) + (1 : Int32)))]) (rest := []) K X0 e0 (own_w hw 1 rfl) (own_w hw 2 rfl) (own_w hw 3 rfl) (own_w hw 4 rfl) (rmE l Z a0 hw [] ((p1 &&& (2147483647 : Int32)) % (8 : Int32) + (1 : Int32)) w_NO_SUCH_FILE w_PERMISSION_DENIED w_FAILURE w_BAD_REQUEST w_ALREADY_EXISTS w_NOT_EMPTY w_NOT_A_DIRECTORY w_IS_A_DIRECTORY r h0 n0 S_NO_SUCH_FILE S_PERMISSION_DENIED S_FAILURE S_BAD_REQUEST S_ALREADY_EXISTS S_NOT_EMPTY S_NOT_A_DIRECTORY S_IS_A_DIRECTORY hr) at_11 pd_1 rfl rfl rfl (by decide) (own_le rfl) (own_le rfl) (own_le rfl) (own_le rfl) rfl fun v1 T1 L1 X1 hQ1 => ?_
  obtain ⟨rfl, N1q, e1⟩ := hQ1
  have N1 := Fr.app N0 N1q
  show Go p e below _ (T1.setTop (mkF m 14 #[.val (.int p1), .val (.int (((p1 &&& (2147483647 : Int32)) % (8 : Int32)) + (1 : Int32))), .unset, .unset] [(.ref r)]))
  refine own_astoreN (l' := #[.val (.int p1), .val (.int (((p1 &&& (2147483647 : Int32)) % (8 : Int32)) + (1 : Int32))), .val (.ref r), .unset]) (pc' := 15) K X1 at_14 rfl rfl rfl ?_
  refine own_iloadN (pc' := 16) K X1 at_15 rfl rfl ?_
  refine own_callS (pc' := 19) (argsL := [(.int (((p1 &&& (2147483647 : Int32)) % (8 : Int32)) + (1 : Int32)))]) (rest := []) K X1 e1 (own_w hw 8 rfl) (own_w hw 9 rfl) (own_w hw 6 rfl) (own_w hw 10 rfl) (rmO l Z a0 hw [] ((p1 &&& (2147483647 : Int32)) % (8 : Int32) + (1 : Int32)) j r w_VALUES kA vs h0 n0 hj S_VALUES V1 E1 (hK ▸ hF) hv) at_16 pd_1 rfl rfl rfl (by decide) (own_le rfl) (own_le rfl) (own_le rfl) (own_le rfl) rfl fun v2 T2 L2 X2 hQ2 => ?_
  obtain ⟨h2, e2⟩ : ∃ h, T2.heap = h := ⟨_, rfl⟩
  rw [e2] at hQ2
  obtain ⟨rfl, N2q, E2⟩ := hQ2
  have N2 := Fr.app N1 N2q
  show Go p e below _ (T2.setTop (mkF m 19 #[.val (.int p1), .val (.int (((p1 &&& (2147483647 : Int32)) % (8 : Int32)) + (1 : Int32))), .val (.ref r), .unset] [(.ref r)]))
  refine own_astoreN (l' := #[.val (.int p1), .val (.int (((p1 &&& (2147483647 : Int32)) % (8 : Int32)) + (1 : Int32))), .val (.ref r), .val (.ref r)]) (pc' := 20) K X2 at_19 rfl rfl rfl ?_
  refine own_aloadN (pc' := 21) K X2 at_20 rfl rfl rfl ?_
  refine own_aloadN (pc' := 22) K X2 at_21 rfl rfl rfl ?_
  refine own_acmp (pc' := 25) (same := true) K X2 at_22 rfl rfl (decide_eq_true rfl) (by decide) (by decide) ?_
  refine own_iconst (v := (1 : Int32)) (pc' := 26) K X2 at_25 rfl rfl ?_
  refine own_goto (pc' := 30) K X2 at_26 (by decide) (by decide) ?_
  exact own_retN (t := .boolean) (z' := (1 : Int32)) K X2 hrt hlk (by simp) rfl at_30 (own_le rfl) (own_le rfl) (by (try rw [e2]); exact ⟨rfl, N2⟩)
set_option maxRecDepth 65536 in
set_option maxHeartbeats 40000000 in
theorem comes_1 {Post : Tables → Env → Array Value → State → Outcome → State → Prop} (hpost : ∀ tb e args s v u, (limb_1_1.after args s (.returned v) u = true ∧ limb_1_2.after args s (.returned v) u = true ∧ True) → FrameEnd s (.returned v) u (Jvm.fieldLocs frame_1_writes args s ++ Jvm.arrayLocs frame_1_arrays args s ++ Jvm.staticLocs frame_1_statics s) 16 128 → Post tb e args s (.returned v) u) :
    ArmFor flags0 classFile x code maxLocals ret World_1 tables_1 room_1 Calls_1 rest_1 Pre_1 Post := by
  intro l hfl _ _ p e ha hc hk s m args below hf hA hF happ hP
  obtain ⟨hcalls, hrest, hpre⟩ := hP
  obtain ⟨-, -, -, hnamed, -, -, -, hat⟩ := (Spec.applies_iff hf).mp happ
  obtain ⟨hg, hn⟩ := and_e (Cond.before_iff.mp (show (Jvm.Cond.and given_1 narrow_1).before args s = true from hpre))
  obtain ⟨gc, g0⟩ := and_e hg
  have gi0 := g0
  obtain ⟨w0, rfl⟩ : ∃ w0 : Value, args = #[w0] := by
    have hs : args.size = 1 := by simpa [Cond.value, given_1] using gc
    obtain ⟨L⟩ := args
    match L, hs with
    | [w0], _ => exact ⟨w0, rfl⟩
  have hw := fun d (hd : d ∈ tables_1) => atoms_spec (ws := Jvm.Cond.code x code maxLocals ret :: tables_1) hat d (List.mem_cons_of_mem _ hd)
  have hfit : Fit s := fun {y c} hc i hi => by
    obtain ⟨ha, rfl⟩ := Array.getElem?_eq_some_iff.mp hc
    have q := List.all_eq_true.mp ((Array.all_eq_true_iff_forall_mem.mp hF) _ (Array.getElem_mem ha)) i (List.mem_range.mpr hi)
    simpa [Array.getElem?_eq_getElem hi] using q
  obtain ⟨i0, ei0⟩ := is_v gi0
  obtain rfl : w0 = (.int i0) := Option.some.inj ei0
  obtain ⟨nw0, hn0⟩ := and_e hn
  obtain ⟨nw1, hn1⟩ := and_e hn0
  obtain ⟨nw2, hn2⟩ := and_e hn1
  obtain ⟨nw3, hn3⟩ := and_e hn2
  obtain ⟨nw4, hn4⟩ := and_e hn3
  obtain ⟨nw5, hn5⟩ := and_e hn4
  obtain ⟨nw6, hn6⟩ := and_e hn5
  obtain ⟨nw7, hn7⟩ := and_e hn6
  obtain ⟨nw8, hn8⟩ := and_e hn7
  obtain ⟨nw9, hn9⟩ := and_e hn8
  obtain ⟨nw10, hn10⟩ := and_e hn9
  obtain ⟨nw11, hn11⟩ := and_e hn10
  obtain ⟨nw12, hn12⟩ := and_e hn11
  obtain ⟨nw13, hn13⟩ := and_e hn12
  obtain ⟨nw14, hn14⟩ := and_e hn13
  obtain ⟨nw15, hn15⟩ := and_e hn14
  obtain ⟨nw16, hn16⟩ := and_e hn15
  obtain ⟨nw17, hn17⟩ := and_e hn16
  obtain ⟨nw18, hn18⟩ := and_e hn17
  obtain ⟨nw19, hn19⟩ := and_e hn18
  obtain ⟨nw20, hn20⟩ := and_e hn19
  obtain ⟨nw21, hn21⟩ := and_e hn20
  obtain ⟨nw22, hn22⟩ := and_e hn21
  obtain ⟨nw23, hn23⟩ := and_e hn22
  obtain ⟨nw24, hn24⟩ := and_e hn23
  obtain ⟨nw25, hn25⟩ := and_e hn24
  have nw26 := hn25
  obtain ⟨w_NO_SUCH_FILE, ev_NO_SUCH_FILE⟩ := exa_v nw0
  have E_NO_SUCH_FILE := Exa.start ev_NO_SUCH_FILE nw0
  have S_NO_SUCH_FILE := Sta.start ev_NO_SUCH_FILE (Or.inr ⟨(own_w hw 6 rfl), (own_w hw 7 rfl)⟩)
  obtain ⟨w_VALUES, ev_VALUES⟩ := exa_v nw2
  have E_VALUES := Exa.start ev_VALUES nw2
  have S_VALUES := Sta.start ev_VALUES (Or.inr ⟨(own_w hw 6 rfl), (own_w hw 15 rfl)⟩)
  obtain ⟨w_PERMISSION_DENIED, ev_PERMISSION_DENIED⟩ := exa_v nw5
  have E_PERMISSION_DENIED := Exa.start ev_PERMISSION_DENIED nw5
  have S_PERMISSION_DENIED := Sta.start ev_PERMISSION_DENIED (Or.inr ⟨(own_w hw 6 rfl), (own_w hw 23 rfl)⟩)
  obtain ⟨w_FAILURE, ev_FAILURE⟩ := exa_v nw7
  have E_FAILURE := Exa.start ev_FAILURE nw7
  have S_FAILURE := Sta.start ev_FAILURE (Or.inr ⟨(own_w hw 6 rfl), (own_w hw 24 rfl)⟩)
  obtain ⟨w_BAD_REQUEST, ev_BAD_REQUEST⟩ := exa_v nw9
  have E_BAD_REQUEST := Exa.start ev_BAD_REQUEST nw9
  have S_BAD_REQUEST := Sta.start ev_BAD_REQUEST (Or.inr ⟨(own_w hw 6 rfl), (own_w hw 25 rfl)⟩)
  obtain ⟨w_ALREADY_EXISTS, ev_ALREADY_EXISTS⟩ := exa_v nw11
  have E_ALREADY_EXISTS := Exa.start ev_ALREADY_EXISTS nw11
  have S_ALREADY_EXISTS := Sta.start ev_ALREADY_EXISTS (Or.inr ⟨(own_w hw 6 rfl), (own_w hw 26 rfl)⟩)
  obtain ⟨w_NOT_EMPTY, ev_NOT_EMPTY⟩ := exa_v nw13
  have E_NOT_EMPTY := Exa.start ev_NOT_EMPTY nw13
  have S_NOT_EMPTY := Sta.start ev_NOT_EMPTY (Or.inr ⟨(own_w hw 6 rfl), (own_w hw 27 rfl)⟩)
  obtain ⟨w_NOT_A_DIRECTORY, ev_NOT_A_DIRECTORY⟩ := exa_v nw15
  have E_NOT_A_DIRECTORY := Exa.start ev_NOT_A_DIRECTORY nw15
  have S_NOT_A_DIRECTORY := Sta.start ev_NOT_A_DIRECTORY (Or.inr ⟨(own_w hw 6 rfl), (own_w hw 28 rfl)⟩)
  obtain ⟨w_IS_A_DIRECTORY, ev_IS_A_DIRECTORY⟩ := exa_v nw17
  have E_IS_A_DIRECTORY := Exa.start ev_IS_A_DIRECTORY nw17
  have S_IS_A_DIRECTORY := Sta.start ev_IS_A_DIRECTORY (Or.inr ⟨(own_w hw 6 rfl), (own_w hw 29 rfl)⟩)
  have F_NO_SUCH_FILE := own_fld ev_NO_SUCH_FILE nw19
  have F_PERMISSION_DENIED := own_fld ev_PERMISSION_DENIED nw20
  have F_FAILURE := own_fld ev_FAILURE nw21
  have F_BAD_REQUEST := own_fld ev_BAD_REQUEST nw22
  have F_ALREADY_EXISTS := own_fld ev_ALREADY_EXISTS nw23
  have F_NOT_EMPTY := own_fld ev_NOT_EMPTY nw24
  have F_NOT_A_DIRECTORY := own_fld ev_NOT_A_DIRECTORY nw25
  have F_IS_A_DIRECTORY := own_fld ev_IS_A_DIRECTORY nw26
  obtain ⟨kA, V1⟩ := own_arr hfit ev_VALUES nw1 nw3 (vs := [.ref w_NO_SUCH_FILE, .ref w_PERMISSION_DENIED, .ref w_FAILURE, .ref w_BAD_REQUEST, .ref w_ALREADY_EXISTS, .ref w_NOT_EMPTY, .ref w_NOT_A_DIRECTORY, .ref w_IS_A_DIRECTORY]) (by decide) rfl (fun c hc => ⟨own_elem ev_VALUES nw4 ev_NO_SUCH_FILE hc (by decide), own_elem ev_VALUES nw6 ev_PERMISSION_DENIED hc (by decide), own_elem ev_VALUES nw8 ev_FAILURE hc (by decide), own_elem ev_VALUES nw10 ev_BAD_REQUEST hc (by decide), own_elem ev_VALUES nw12 ev_ALREADY_EXISTS hc (by decide), own_elem ev_VALUES nw14 ev_NOT_EMPTY hc (by decide), own_elem ev_VALUES nw16 ev_NOT_A_DIRECTORY hc (by decide), own_elem ev_VALUES nw18 ev_IS_A_DIRECTORY hc (by decide), trivial⟩)
  have hpick : ∃ (r : Addr) (c : Int32) (j : Nat), j < 8 ∧ (r = if ((i0 &&& (2147483647 : Int32)) % (8 : Int32) + (1 : Int32)) = 1 then w_NO_SUCH_FILE else if ((i0 &&& (2147483647 : Int32)) % (8 : Int32) + (1 : Int32)) = 2 then w_PERMISSION_DENIED else if ((i0 &&& (2147483647 : Int32)) % (8 : Int32) + (1 : Int32)) = 3 then w_FAILURE else if ((i0 &&& (2147483647 : Int32)) % (8 : Int32) + (1 : Int32)) = 4 then w_BAD_REQUEST else if ((i0 &&& (2147483647 : Int32)) % (8 : Int32) + (1 : Int32)) = 5 then w_ALREADY_EXISTS else if ((i0 &&& (2147483647 : Int32)) % (8 : Int32) + (1 : Int32)) = 6 then w_NOT_EMPTY else if ((i0 &&& (2147483647 : Int32)) % (8 : Int32) + (1 : Int32)) = 7 then w_NOT_A_DIRECTORY else w_IS_A_DIRECTORY) ∧ (∀ i, i ≤ j → ∃ w ci, ([.ref w_NO_SUCH_FILE, .ref w_PERMISSION_DENIED, .ref w_FAILURE, .ref w_BAD_REQUEST, .ref w_ALREADY_EXISTS, .ref w_NOT_EMPTY, .ref w_NOT_A_DIRECTORY, .ref w_IS_A_DIRECTORY] : List Value).getD i .null = .ref w ∧ Fld s s.heap w "com/example/anteroom/anteroom/io/Frame$Status" "code" "I" (.int ci) ∧ (ci = c ↔ i = j)) ∧ ([.ref w_NO_SUCH_FILE, .ref w_PERMISSION_DENIED, .ref w_FAILURE, .ref w_BAD_REQUEST, .ref w_ALREADY_EXISTS, .ref w_NOT_EMPTY, .ref w_NOT_A_DIRECTORY, .ref w_IS_A_DIRECTORY] : List Value).getD j .null = .ref r ∧ Exa s s.heap r "com/example/anteroom/anteroom/io/Frame$Status" ∧ c = ((i0 &&& (2147483647 : Int32)) % (8 : Int32) + (1 : Int32)) := by
    obtain ⟨j, hj, hj2⟩ := own_rng i0
    rcases (by omega : j = 0 ∨ j = 1 ∨ j = 2 ∨ j = 3 ∨ j = 4 ∨ j = 5 ∨ j = 6 ∨ j = 7) with rfl | rfl | rfl | rfl | rfl | rfl | rfl | rfl
    · refine ⟨w_NO_SUCH_FILE, 1, 0, by decide, by rw [hj2]; rfl, ?_, rfl, E_NO_SUCH_FILE, by rw [hj2]; rfl⟩
      intro i hi
      rcases (by omega : i = 0) with rfl
      · exact ⟨_, _, rfl, F_NO_SUCH_FILE, by decide⟩
    · refine ⟨w_PERMISSION_DENIED, 2, 1, by decide, by rw [hj2]; rfl, ?_, rfl, E_PERMISSION_DENIED, by rw [hj2]; rfl⟩
      intro i hi
      rcases (by omega : i = 0 ∨ i = 1) with rfl | rfl
      · exact ⟨_, _, rfl, F_NO_SUCH_FILE, by decide⟩
      · exact ⟨_, _, rfl, F_PERMISSION_DENIED, by decide⟩
    · refine ⟨w_FAILURE, 3, 2, by decide, by rw [hj2]; rfl, ?_, rfl, E_FAILURE, by rw [hj2]; rfl⟩
      intro i hi
      rcases (by omega : i = 0 ∨ i = 1 ∨ i = 2) with rfl | rfl | rfl
      · exact ⟨_, _, rfl, F_NO_SUCH_FILE, by decide⟩
      · exact ⟨_, _, rfl, F_PERMISSION_DENIED, by decide⟩
      · exact ⟨_, _, rfl, F_FAILURE, by decide⟩
    · refine ⟨w_BAD_REQUEST, 4, 3, by decide, by rw [hj2]; rfl, ?_, rfl, E_BAD_REQUEST, by rw [hj2]; rfl⟩
      intro i hi
      rcases (by omega : i = 0 ∨ i = 1 ∨ i = 2 ∨ i = 3) with rfl | rfl | rfl | rfl
      · exact ⟨_, _, rfl, F_NO_SUCH_FILE, by decide⟩
      · exact ⟨_, _, rfl, F_PERMISSION_DENIED, by decide⟩
      · exact ⟨_, _, rfl, F_FAILURE, by decide⟩
      · exact ⟨_, _, rfl, F_BAD_REQUEST, by decide⟩
    · refine ⟨w_ALREADY_EXISTS, 5, 4, by decide, by rw [hj2]; rfl, ?_, rfl, E_ALREADY_EXISTS, by rw [hj2]; rfl⟩
      intro i hi
      rcases (by omega : i = 0 ∨ i = 1 ∨ i = 2 ∨ i = 3 ∨ i = 4) with rfl | rfl | rfl | rfl | rfl
      · exact ⟨_, _, rfl, F_NO_SUCH_FILE, by decide⟩
      · exact ⟨_, _, rfl, F_PERMISSION_DENIED, by decide⟩
      · exact ⟨_, _, rfl, F_FAILURE, by decide⟩
      · exact ⟨_, _, rfl, F_BAD_REQUEST, by decide⟩
      · exact ⟨_, _, rfl, F_ALREADY_EXISTS, by decide⟩
    · refine ⟨w_NOT_EMPTY, 6, 5, by decide, by rw [hj2]; rfl, ?_, rfl, E_NOT_EMPTY, by rw [hj2]; rfl⟩
      intro i hi
      rcases (by omega : i = 0 ∨ i = 1 ∨ i = 2 ∨ i = 3 ∨ i = 4 ∨ i = 5) with rfl | rfl | rfl | rfl | rfl | rfl
      · exact ⟨_, _, rfl, F_NO_SUCH_FILE, by decide⟩
      · exact ⟨_, _, rfl, F_PERMISSION_DENIED, by decide⟩
      · exact ⟨_, _, rfl, F_FAILURE, by decide⟩
      · exact ⟨_, _, rfl, F_BAD_REQUEST, by decide⟩
      · exact ⟨_, _, rfl, F_ALREADY_EXISTS, by decide⟩
      · exact ⟨_, _, rfl, F_NOT_EMPTY, by decide⟩
    · refine ⟨w_NOT_A_DIRECTORY, 7, 6, by decide, by rw [hj2]; rfl, ?_, rfl, E_NOT_A_DIRECTORY, by rw [hj2]; rfl⟩
      intro i hi
      rcases (by omega : i = 0 ∨ i = 1 ∨ i = 2 ∨ i = 3 ∨ i = 4 ∨ i = 5 ∨ i = 6) with rfl | rfl | rfl | rfl | rfl | rfl | rfl
      · exact ⟨_, _, rfl, F_NO_SUCH_FILE, by decide⟩
      · exact ⟨_, _, rfl, F_PERMISSION_DENIED, by decide⟩
      · exact ⟨_, _, rfl, F_FAILURE, by decide⟩
      · exact ⟨_, _, rfl, F_BAD_REQUEST, by decide⟩
      · exact ⟨_, _, rfl, F_ALREADY_EXISTS, by decide⟩
      · exact ⟨_, _, rfl, F_NOT_EMPTY, by decide⟩
      · exact ⟨_, _, rfl, F_NOT_A_DIRECTORY, by decide⟩
    · refine ⟨w_IS_A_DIRECTORY, 8, 7, by decide, by rw [hj2]; rfl, ?_, rfl, E_IS_A_DIRECTORY, by rw [hj2]; rfl⟩
      intro i hi
      rcases (by omega : i = 0 ∨ i = 1 ∨ i = 2 ∨ i = 3 ∨ i = 4 ∨ i = 5 ∨ i = 6 ∨ i = 7) with rfl | rfl | rfl | rfl | rfl | rfl | rfl | rfl
      · exact ⟨_, _, rfl, F_NO_SUCH_FILE, by decide⟩
      · exact ⟨_, _, rfl, F_PERMISSION_DENIED, by decide⟩
      · exact ⟨_, _, rfl, F_FAILURE, by decide⟩
      · exact ⟨_, _, rfl, F_BAD_REQUEST, by decide⟩
      · exact ⟨_, _, rfl, F_ALREADY_EXISTS, by decide⟩
      · exact ⟨_, _, rfl, F_NOT_EMPTY, by decide⟩
      · exact ⟨_, _, rfl, F_NOT_A_DIRECTORY, by decide⟩
      · exact ⟨_, _, rfl, F_IS_A_DIRECTORY, by decide⟩
  obtain ⟨n, o, h1, h2, h3, _, L, rfl, ⟨rfl, N⟩, hq⟩ := rm0 l s _ hw tables_1 i0 w_NO_SUCH_FILE w_PERMISSION_DENIED w_FAILURE w_BAD_REQUEST w_ALREADY_EXISTS w_NOT_EMPTY w_NOT_A_DIRECTORY w_IS_A_DIRECTORY w_VALUES kA [.ref w_NO_SUCH_FILE, .ref w_PERMISSION_DENIED, .ref w_FAILURE, .ref w_BAD_REQUEST, .ref w_ALREADY_EXISTS, .ref w_NOT_EMPTY, .ref w_NOT_A_DIRECTORY, .ref w_IS_A_DIRECTORY] s.heap s.heap.size S_NO_SUCH_FILE S_PERMISSION_DENIED S_FAILURE S_BAD_REQUEST S_ALREADY_EXISTS S_NOT_EMPTY S_NOT_A_DIRECTORY S_IS_A_DIRECTORY S_VALUES V1 E_VALUES hpick p e ha hc hk s m _ below hf ((Spec.applies_iff_loose hf).mp happ).1 ⟨rfl, State.Warmed39.refl s, rfl⟩ trivial
  refine ⟨n, _, h1, h2, h3, hpost _ _ _ _ _ _ ⟨Cond.after_iff.mpr rfl, Cond.after_iff.mpr (eq_i res_at (Term.int_eval (1)) rfl), trivial⟩ ⟨hq.1, hq.2.1, (hq.2.2.sift fun y hy => Or.inr (N y hy)).mono (by decide) (by decide)⟩⟩
theorem main_1_1 : Claimed_1_1 := comes_1 fun _ _ _ _ _ _ h hF => ⟨h.1, hF⟩
theorem main_1_2 : Claimed_1_2 := comes_1 fun _ _ _ _ _ _ h hF => ⟨h.2.1, hF⟩
end Jvm.Pilot.@@N@@
namespace Jvm.Pilot.@@N@@
open Jvm Jvm.ClassFile Sem Op Lib Jvm.Free Jvm.Stand Jvm.Pilot.@@N@@.Jvm.D
/-! MADE BY PROGRAM (witnessworld.py) out of the Statement's table words and the real class files: 13 classes; the members and pool entries that the words name. The judged class is class 1, her method 1. -/
namespace start1
open Jvm.ClassFile
def u (s : String) : CpInfo := .utf8 (stringToUtf16 s)
/-- a pool by its gaps: so many unusable entries, then the entry; so many at the end -/
def gap : Nat → List CpInfo → List CpInfo
  | 0, r => r
  | n + 1, r => .unusable :: gap n r
def poolList (es : List (Nat × CpInfo)) (last : Nat) : List CpInfo := es.foldr (fun e r => gap e.1 (e.2 :: r)) (gap last [])
def pool (es : List (Nat × CpInfo)) (last : Nat) : Array CpInfo := ⟨poolList es last⟩
def fileOf (pool : Array CpInfo) (this : Nat) (attrs : Array Attribute := #[]) (ms : Array MethodInfo := #[]) (fl : Nat := 33) (sup : Nat := 0) (ifs : Array Nat := #[]) (fds : Array FieldInfo := #[]) : ClassFile where
  minorVersion := 0
  majorVersion := 65
  constantPool := pool
  accessFlags := fl
  thisClass := this
  superClass := sup
  interfaces := ifs
  fields := fds
  methods := ms
  attributes := attrs
def plain (name : String) (sup : Option ClassId) : Class where
  name := name
  kind := .ordinary
  loader := none
  accessFlags := 33
  super := sup
  interfaces := #[]
  cf := none
  fields := #[]
  methods := #[]
  instanceTypes := #[]
  staticTypes := #[]
  resolved := #[]
  callSites := []
  init := .initialized
  statics := none
  mirror := none

def pool0 : Array CpInfo := pool [(5, u "<init>"), (0, u "()V"), (1, .class_ 10), (1, u "java/lang/Object"), (85, u "clone"), (0, u "()Ljava/lang/Object;")] 26

def k0m0 : Method := { name := "<init>", desc := "()V", sig := { parameters := [], returnType := none }, accessFlags := 1, code := none }
def k0m1 : Method := { name := "clone", desc := "()Ljava/lang/Object;", sig := { parameters := [], returnType := some (.object "java/lang/Object") }, accessFlags := 260, code := none }
/-- java/lang/Object -/
def k0 : Class := { plain "java/lang/Object" none with
  accessFlags := 33
  interfaces := #[]
  cf := some (fileOf pool0 8 #[] #[{ accessFlags := 1, nameIndex := 5, descriptorIndex := 6, attributes := #[] }, { accessFlags := 260, nameIndex := 96, descriptorIndex := 97, attributes := #[] }] 33 0 #[] #[])
  fields := #[]
  methods := #[k0m0, k0m1]
  instanceTypes := #[]
  staticTypes := #[]
  resolved := Array.replicate 124 none
  statics := none }

def pool1 : Array CpInfo := pool [(2, .class_ 4), (1, u "java/lang/Object"), (0, u "<init>"), (0, u "()V"), (0, .integer 2147483647), (0, .methodref 9 10), (0, .class_ 11), (0, .nameAndType 12 13), (0, u "com/example/anteroom/anteroom/io/StatusOfPinLaw"), (0, u "expected"), (0, u "(I)Lcom/example/anteroom/anteroom/io/Frame$Status;"), (0, .methodref 15 16), (0, .class_ 17), (0, .nameAndType 18 13), (0, u "com/example/anteroom/anteroom/io/Frame$Status"), (0, u "of"), (0, .fieldref 15 20), (0, .nameAndType 21 22), (0, u "NO_SUCH_FILE"), (0, u "Lcom/example/anteroom/anteroom/io/Frame$Status;"), (0, .fieldref 15 24), (0, .nameAndType 25 22), (0, u "PERMISSION_DENIED"), (0, .fieldref 15 27), (0, .nameAndType 28 22), (0, u "FAILURE"), (0, .fieldref 15 30), (0, .nameAndType 31 22), (0, u "BAD_REQUEST"), (0, .fieldref 15 33), (0, .nameAndType 34 22), (0, u "ALREADY_EXISTS"), (0, .fieldref 15 36), (0, .nameAndType 37 22), (0, u "NOT_EMPTY"), (0, .fieldref 15 39), (0, .nameAndType 40 22), (0, u "NOT_A_DIRECTORY"), (0, .fieldref 15 42), (0, .nameAndType 43 22), (0, u "IS_A_DIRECTORY"), (2, u "law"), (0, u "(I)Z")] 10

def k1m0 : Method := { name := "<init>", desc := "()V", sig := { parameters := [], returnType := none }, accessFlags := 1, code := none }
def k1c1 : Code := { maxStack := 2, maxLocals := 4, code := code, exceptionTable := #[], attributes := #[] }
def k1m1 : Method := { name := "law", desc := "(I)Z", sig := { parameters := [.int], returnType := some .boolean }, accessFlags := 9, code := some k1c1 }
def k1c2 : Code := { maxStack := 2, maxLocals := 1, code := method_3_code, exceptionTable := #[], attributes := #[] }
def k1m2 : Method := { name := "expected", desc := "(I)Lcom/example/anteroom/anteroom/io/Frame$Status;", sig := { parameters := [.int], returnType := some (.object "com/example/anteroom/anteroom/io/Frame$Status") }, accessFlags := 10, code := some k1c2 }
/-- com/example/anteroom/anteroom/io/StatusOfPinLaw -/
def k1 : Class := { plain "com/example/anteroom/anteroom/io/StatusOfPinLaw" (some 0) with
  accessFlags := 49
  interfaces := #[]
  cf := some (fileOf pool1 9 #[] #[{ accessFlags := 1, nameIndex := 5, descriptorIndex := 6, attributes := #[] }, { accessFlags := 9, nameIndex := 46, descriptorIndex := 47, attributes := #[] }, { accessFlags := 10, nameIndex := 12, descriptorIndex := 13, attributes := #[] }] 49 2 #[] #[])
  fields := #[]
  methods := #[k1m0, k1m1, k1m2]
  instanceTypes := #[]
  staticTypes := #[]
  resolved := Array.replicate 58 none
  statics := none }

def pool2 : Array CpInfo := pool [(1, .class_ 2), (0, u "java/lang/constant/Constable"), (0, .class_ 4), (0, u "java/lang/Object")] 6

/-- java/lang/constant/Constable -/
def k2 : Class := { plain "java/lang/constant/Constable" (some 0) with
  accessFlags := 1537
  interfaces := #[]
  cf := some (fileOf pool2 1 #[] #[] 1537 3 #[] #[])
  fields := #[]
  methods := #[]
  instanceTypes := #[]
  staticTypes := #[]
  resolved := Array.replicate 11 none
  statics := none }

def pool3 : Array CpInfo := pool [(1, .class_ 2), (0, u "java/lang/Comparable"), (0, .class_ 4), (0, u "java/lang/Object")] 7

/-- java/lang/Comparable -/
def k3 : Class := { plain "java/lang/Comparable" (some 0) with
  accessFlags := 1537
  interfaces := #[]
  cf := some (fileOf pool3 1 #[] #[] 1537 3 #[] #[])
  fields := #[]
  methods := #[]
  instanceTypes := #[]
  staticTypes := #[]
  resolved := Array.replicate 12 none
  statics := none }

def pool4 : Array CpInfo := pool [(1, .class_ 2), (0, u "java/io/Serializable"), (0, .class_ 4), (0, u "java/lang/Object")] 2

/-- java/io/Serializable -/
def k4 : Class := { plain "java/io/Serializable" (some 0) with
  accessFlags := 1537
  interfaces := #[]
  cf := some (fileOf pool4 1 #[] #[] 1537 3 #[] #[])
  fields := #[]
  methods := #[]
  instanceTypes := #[]
  staticTypes := #[]
  resolved := Array.replicate 7 none
  statics := none }

def pool5 : Array CpInfo := pool [(2, .class_ 4), (1, u "java/lang/Enum"), (0, u "name"), (0, u "Ljava/lang/String;"), (2, u "ordinal"), (0, u "I"), (1, .class_ 14), (1, u "java/lang/Object"), (4, u "hash"), (86, .class_ 108), (1, u "java/lang/Enum$EnumDesc"), (2, .class_ 112), (0, u "java/lang/constant/Constable"), (0, .class_ 114), (0, u "java/lang/Comparable"), (0, .class_ 116), (0, u "java/io/Serializable")] 87

/-- java/lang/Enum -/
def k5 : Class := { plain "java/lang/Enum" (some 0) with
  accessFlags := 1057
  interfaces := #[2, 3, 4]
  cf := some (fileOf pool5 2 #[.nestMembers #[106]] #[] 1057 12 #[111, 113, 115] #[{ accessFlags := 18, nameIndex := 5, descriptorIndex := 6, attributes := #[] }, { accessFlags := 18, nameIndex := 9, descriptorIndex := 10, attributes := #[] }, { accessFlags := 2, nameIndex := 19, descriptorIndex := 10, attributes := #[] }])
  fields := #[{ name := "name", type := (.object "java/lang/String"), accessFlags := 18, slot := 0, constantValue := 0 }, { name := "ordinal", type := .int, accessFlags := 18, slot := 1, constantValue := 0 }, { name := "hash", type := .int, accessFlags := 2, slot := 2, constantValue := 0 }]
  methods := #[]
  instanceTypes := #[(.object "java/lang/String"), .int, .int]
  staticTypes := #[]
  resolved := Array.replicate 204 none
  statics := none }

def pool6 : Array CpInfo := pool [(1, .class_ 2), (0, u "com/example/anteroom/anteroom/io/Frame$Status"), (2, u "NO_SUCH_FILE"), (0, u "Lcom/example/anteroom/anteroom/io/Frame$Status;"), (2, u "PERMISSION_DENIED"), (2, u "FAILURE"), (2, u "BAD_REQUEST"), (2, u "ALREADY_EXISTS"), (2, u "NOT_EMPTY"), (2, u "NOT_A_DIRECTORY"), (2, u "IS_A_DIRECTORY"), (0, .fieldref 1 29), (0, .nameAndType 30 31), (0, u "$VALUES"), (0, u "[Lcom/example/anteroom/anteroom/io/Frame$Status;"), (0, .methodref 33 34), (0, .class_ 31), (0, .nameAndType 35 36), (0, u "clone"), (0, u "()Ljava/lang/Object;"), (1, .class_ 40), (1, u "java/lang/Enum"), (6, .fieldref 1 48), (0, .nameAndType 49 50), (0, u "code"), (0, u "I"), (2, u "reports"), (0, u "Ljava/lang/Class;"), (2, u "raise"), (0, u "Ljava/util/function/BiFunction;"), (0, .methodref 1 60), (0, .nameAndType 61 62), (0, u "values"), (0, u "()[Lcom/example/anteroom/anteroom/io/Frame$Status;"), (73, u "of"), (0, u "(I)Lcom/example/anteroom/anteroom/io/Frame$Status;"), (17, .class_ 156), (0, u "com/example/anteroom/anteroom/io/Frame")] 49

def k6c0 : Code := { maxStack := 1, maxLocals := 0, code := prog_11_method_1_code, exceptionTable := #[], attributes := #[] }
def k6m0 : Method := { name := "values", desc := "()[Lcom/example/anteroom/anteroom/io/Frame$Status;", sig := { parameters := [], returnType := some (.array (.object "com/example/anteroom/anteroom/io/Frame$Status")) }, accessFlags := 9, code := some k6c0 }
def k6c1 : Code := { maxStack := 3, maxLocals := 5, code := prog_11_method_4_code, exceptionTable := #[], attributes := #[] }
def k6m1 : Method := { name := "of", desc := "(I)Lcom/example/anteroom/anteroom/io/Frame$Status;", sig := { parameters := [.int], returnType := some (.object "com/example/anteroom/anteroom/io/Frame$Status") }, accessFlags := 8, code := some k6c1 }
/-- com/example/anteroom/anteroom/io/Frame$Status -/
def k6 : Class := { plain "com/example/anteroom/anteroom/io/Frame$Status" (some 5) with
  accessFlags := 16433
  interfaces := #[]
  cf := some (fileOf pool6 1 #[.nestHost 155] #[{ accessFlags := 9, nameIndex := 61, descriptorIndex := 62, attributes := #[] }, { accessFlags := 8, nameIndex := 136, descriptorIndex := 137, attributes := #[] }] 16433 38 #[] #[{ accessFlags := 16409, nameIndex := 5, descriptorIndex := 6, attributes := #[] }, { accessFlags := 16409, nameIndex := 9, descriptorIndex := 6, attributes := #[] }, { accessFlags := 16409, nameIndex := 12, descriptorIndex := 6, attributes := #[] }, { accessFlags := 16409, nameIndex := 15, descriptorIndex := 6, attributes := #[] }, { accessFlags := 16409, nameIndex := 18, descriptorIndex := 6, attributes := #[] }, { accessFlags := 16409, nameIndex := 21, descriptorIndex := 6, attributes := #[] }, { accessFlags := 16409, nameIndex := 24, descriptorIndex := 6, attributes := #[] }, { accessFlags := 16409, nameIndex := 27, descriptorIndex := 6, attributes := #[] }, { accessFlags := 18, nameIndex := 49, descriptorIndex := 50, attributes := #[] }, { accessFlags := 18, nameIndex := 53, descriptorIndex := 54, attributes := #[] }, { accessFlags := 18, nameIndex := 57, descriptorIndex := 58, attributes := #[] }, { accessFlags := 4122, nameIndex := 30, descriptorIndex := 31, attributes := #[] }])
  fields := #[{ name := "NO_SUCH_FILE", type := (.object "com/example/anteroom/anteroom/io/Frame$Status"), accessFlags := 16409, slot := 0, constantValue := 0 }, { name := "PERMISSION_DENIED", type := (.object "com/example/anteroom/anteroom/io/Frame$Status"), accessFlags := 16409, slot := 1, constantValue := 0 }, { name := "FAILURE", type := (.object "com/example/anteroom/anteroom/io/Frame$Status"), accessFlags := 16409, slot := 2, constantValue := 0 }, { name := "BAD_REQUEST", type := (.object "com/example/anteroom/anteroom/io/Frame$Status"), accessFlags := 16409, slot := 3, constantValue := 0 }, { name := "ALREADY_EXISTS", type := (.object "com/example/anteroom/anteroom/io/Frame$Status"), accessFlags := 16409, slot := 4, constantValue := 0 }, { name := "NOT_EMPTY", type := (.object "com/example/anteroom/anteroom/io/Frame$Status"), accessFlags := 16409, slot := 5, constantValue := 0 }, { name := "NOT_A_DIRECTORY", type := (.object "com/example/anteroom/anteroom/io/Frame$Status"), accessFlags := 16409, slot := 6, constantValue := 0 }, { name := "IS_A_DIRECTORY", type := (.object "com/example/anteroom/anteroom/io/Frame$Status"), accessFlags := 16409, slot := 7, constantValue := 0 }, { name := "code", type := .int, accessFlags := 18, slot := 3, constantValue := 0 }, { name := "reports", type := (.object "java/lang/Class"), accessFlags := 18, slot := 4, constantValue := 0 }, { name := "raise", type := (.object "java/util/function/BiFunction"), accessFlags := 18, slot := 5, constantValue := 0 }, { name := "$VALUES", type := (.array (.object "com/example/anteroom/anteroom/io/Frame$Status")), accessFlags := 4122, slot := 8, constantValue := 0 }]
  methods := #[k6m0, k6m1]
  instanceTypes := #[(.object "java/lang/String"), .int, .int, .int, (.object "java/lang/Class"), (.object "java/util/function/BiFunction")]
  staticTypes := #[(.object "com/example/anteroom/anteroom/io/Frame$Status"), (.object "com/example/anteroom/anteroom/io/Frame$Status"), (.object "com/example/anteroom/anteroom/io/Frame$Status"), (.object "com/example/anteroom/anteroom/io/Frame$Status"), (.object "com/example/anteroom/anteroom/io/Frame$Status"), (.object "com/example/anteroom/anteroom/io/Frame$Status"), (.object "com/example/anteroom/anteroom/io/Frame$Status"), (.object "com/example/anteroom/anteroom/io/Frame$Status"), (.array (.object "com/example/anteroom/anteroom/io/Frame$Status"))]
  resolved := Array.replicate 206 none
  statics := some 0 }

def pool7 : Array CpInfo := pool [(1, .class_ 2), (0, u "java/lang/Cloneable"), (0, .class_ 4), (0, u "java/lang/Object")] 2

/-- java/lang/Cloneable -/
def k7 : Class := { plain "java/lang/Cloneable" (some 0) with
  accessFlags := 1537
  interfaces := #[]
  cf := some (fileOf pool7 1 #[] #[] 1537 3 #[] #[])
  fields := #[]
  methods := #[]
  instanceTypes := #[]
  staticTypes := #[]
  resolved := Array.replicate 7 none
  statics := none }

/-- the primitive byte -/
def k8 : Class := { plain "byte" none with kind := .primitive 'B', accessFlags := 0x411 }
/-- [B -/
def k9 : Class := { plain "[B" (some 0) with kind := .array 8 .byte, interfaces := #[7, 4], accessFlags := 1041 }

/-- the primitive int -/
def k10 : Class := { plain "int" none with kind := .primitive 'I', accessFlags := 0x411 }
/-- [I -/
def k11 : Class := { plain "[I" (some 0) with kind := .array 10 .int, interfaces := #[7, 4], accessFlags := 1041 }

/-- [Lcom/example/anteroom/anteroom/io/Frame$Status; -/
def k12 : Class := { plain "[Lcom/example/anteroom/anteroom/io/Frame$Status;" (some 0) with kind := .array 6 (.object "com/example/anteroom/anteroom/io/Frame$Status"), interfaces := #[7, 4], accessFlags := 1041 }

def heap : Heap := #[{ cls := 6, slots := #[.ref 2, .ref 3, .ref 4, .ref 5, .ref 6, .ref 7, .ref 8, .ref 9, .ref 1], vm := .statics 6 },
  { cls := 12, slots := #[.ref 2, .ref 3, .ref 4, .ref 5, .ref 6, .ref 7, .ref 8, .ref 9], vm := .none },
  { cls := 6, slots := #[.null, .int 0, .int 0, .int 1, .null, .null], vm := .none },
  { cls := 6, slots := #[.null, .int 1, .int 0, .int 2, .null, .null], vm := .none },
  { cls := 6, slots := #[.null, .int 2, .int 0, .int 3, .null, .null], vm := .none },
  { cls := 6, slots := #[.null, .int 3, .int 0, .int 4, .null, .null], vm := .none },
  { cls := 6, slots := #[.null, .int 4, .int 0, .int 5, .null, .null], vm := .none },
  { cls := 6, slots := #[.null, .int 5, .int 0, .int 6, .null, .null], vm := .none },
  { cls := 6, slots := #[.null, .int 6, .int 0, .int 7, .null, .null], vm := .none },
  { cls := 6, slots := #[.null, .int 7, .int 0, .int 8, .null, .null], vm := .none }]
def classes : Array Class := #[k0, k1, k2, k3, k4, k5, k6, k7, k8, k9, k10, k11, k12]
def interned : List (Array UInt16 × Addr) := []
def slotsUsed : Nat := 65
def theMethod : MethodId := ⟨1, 1⟩
def args0 : Array Value := #[.int 5]
def aboutOver (below : List Frame) : State where
  vm := { classes := classes, interned := interned.toArray }
  heap := heap
  slotsUsed := slotsUsed
  threads := #[{ frames := .invoking theMethod args0 :: below }]
def below0 : List Frame := [.native { method := ⟨0, 0⟩, args := #[] }]
def about1 : State := aboutOver below0
def p0 : Program := .bare "" "" ""
def e0 : Env := launch0.env 0 0 0
theorem w_frames : about1.frames = Frame.invoking theMethod args0 :: below0 := rfl
set_option maxRecDepth 65536 in
theorem w_args : argsFit about1.vm theMethod args0 = true := by decide +kernel
set_option maxRecDepth 65536 in
theorem w_heap : heapFits about1 = true := by decide +kernel
set_option maxRecDepth 65536 in
theorem w_runnable : about1.curStatus? = some .runnable := by decide +kernel
set_option maxRecDepth 65536 in
theorem w_alone : about1.alone = true := by decide +kernel
set_option maxRecDepth 65536 in
theorem w_named : about1.methodNamed? x = some theMethod := by decide +kernel
set_option maxRecDepth 65536 in
theorem w_hears : about1.hears theMethod below0 = true := by decide +kernel
set_option maxRecDepth 65536 in
theorem w_ripe : about1.ripe theMethod args0 below0 = true := by decide +kernel
theorem w_running : about1.status = .running := rfl
set_option maxRecDepth 65536 in
theorem w_room : about1.hasRoom e0.platform room_1 = true :=
  launch0.hasRoom_least _ room_1 (by decide +kernel) (by decide +kernel) (by decide +kernel) (by decide +kernel) (by decide +kernel) (by decide +kernel)
theorem allAtoms_all (ts : List Jvm.Cond) (a : Array Jvm.Value) (st : Jvm.State) : (allAtoms ts).before a st = ts.all (fun c => c.before a st) := by
  induction ts with
  | nil => rfl
  | cons c t ih =>
    show (Jvm.Cond.and c (allAtoms t)).before a st = _
    rw [Jvm.Cond.before_and, ih, List.all_cons]
def words1 : List Jvm.Cond := Jvm.Cond.code x code maxLocals ret :: tables_1
/-- a 'code' word, met by the world's own term for the bytes: nothing is compared byte by byte -/
theorem code_word {y : MethodName} {bytes : ByteArray} {mx : Nat} {rt : Option FieldType} {a : Array Value} {s : State} {m : MethodId} {meth : Method} {c : Code} (h1 : s.methodNamed? y = some m) (h2 : s.vm.method? m = some meth) (h3 : meth.code = some c) (h4 : c.code = bytes)
    (h5 : (c.maxLocals == mx && c.exceptionTable.isEmpty && decide (c.maxStack ≤ mostOperands) && decide (meth.sig.returnType = rt) && !meth.locks && decide (parseMethodDescriptor y.desc = some meth.sig)) = true) : (Jvm.Cond.code y bytes mx rt).before a s = true := by
  simp only [Bool.and_eq_true, beq_iff_eq, Bool.not_eq_true', decide_eq_true_eq] at h5
  obtain ⟨⟨⟨⟨⟨g1, g2⟩, g3⟩, g4⟩, g5⟩, g6⟩ := h5
  simp [Cond.before, Cond.holds, Cond.value, h1, h2, h3, h4, g1, g2, g3, g4, g5, g6]
def isCode : Jvm.Cond → Bool
  | .code _ _ _ _ => true
  | _ => false
theorem all_split {L : List Jvm.Cond} {P : Jvm.Cond → Bool} (h1 : L.all (fun c => isCode c || P c) = true) (h2 : ∀ c ∈ L.filter isCode, P c = true) : L.all P = true := by
  refine List.all_eq_true.mpr fun c hc => ?_
  have h := List.all_eq_true.mp h1 c hc
  rcases Bool.eq_false_or_eq_true (isCode c) with hi | hi
  · exact h2 c (List.mem_filter.mpr ⟨hc, hi⟩)
  · simpa [hi] using h
set_option maxRecDepth 65536 in
theorem w_c0 : (Jvm.Cond.code x code maxLocals ret).before args0 about1 = true := code_word (m := ⟨1, 1⟩) (meth := k1m1) (c := k1c1) (by decide +kernel) rfl rfl rfl (by decide +kernel)
set_option maxRecDepth 65536 in
theorem w_c1 : (Jvm.Cond.code ({ cls := "com/example/anteroom/anteroom/io/StatusOfPinLaw", name := "expected", desc := "(I)Lcom/example/anteroom/anteroom/io/Frame$Status;" } : Jvm.MethodName) method_3_code (1 : Nat) (Option.some (Jvm.ClassFile.FieldType.object "com/example/anteroom/anteroom/io/Frame$Status"))).before args0 about1 = true := code_word (m := ⟨1, 2⟩) (meth := k1m2) (c := k1c2) (by decide +kernel) rfl rfl rfl (by decide +kernel)
set_option maxRecDepth 65536 in
theorem w_c2 : (Jvm.Cond.code ({ cls := "com/example/anteroom/anteroom/io/Frame$Status", name := "of", desc := "(I)Lcom/example/anteroom/anteroom/io/Frame$Status;" } : Jvm.MethodName) prog_11_method_4_code (5 : Nat) (Option.some (Jvm.ClassFile.FieldType.object "com/example/anteroom/anteroom/io/Frame$Status"))).before args0 about1 = true := code_word (m := ⟨6, 1⟩) (meth := k6m1) (c := k6c1) (by decide +kernel) rfl rfl rfl (by decide +kernel)
set_option maxRecDepth 65536 in
theorem w_c3 : (Jvm.Cond.code ({ cls := "com/example/anteroom/anteroom/io/Frame$Status", name := "values", desc := "()[Lcom/example/anteroom/anteroom/io/Frame$Status;" } : Jvm.MethodName) prog_11_method_1_code (0 : Nat) (Option.some (Jvm.ClassFile.FieldType.array (Jvm.ClassFile.FieldType.object "com/example/anteroom/anteroom/io/Frame$Status")))).before args0 about1 = true := code_word (m := ⟨6, 0⟩) (meth := k6m0) (c := k6c0) (by decide +kernel) rfl rfl rfl (by decide +kernel)
def codes1 : List Jvm.Cond := [Jvm.Cond.code x code maxLocals ret, Jvm.Cond.code ({ cls := "com/example/anteroom/anteroom/io/StatusOfPinLaw", name := "expected", desc := "(I)Lcom/example/anteroom/anteroom/io/Frame$Status;" } : Jvm.MethodName) method_3_code (1 : Nat) (Option.some (Jvm.ClassFile.FieldType.object "com/example/anteroom/anteroom/io/Frame$Status")), Jvm.Cond.code ({ cls := "com/example/anteroom/anteroom/io/Frame$Status", name := "of", desc := "(I)Lcom/example/anteroom/anteroom/io/Frame$Status;" } : Jvm.MethodName) prog_11_method_4_code (5 : Nat) (Option.some (Jvm.ClassFile.FieldType.object "com/example/anteroom/anteroom/io/Frame$Status")), Jvm.Cond.code ({ cls := "com/example/anteroom/anteroom/io/Frame$Status", name := "values", desc := "()[Lcom/example/anteroom/anteroom/io/Frame$Status;" } : Jvm.MethodName) prog_11_method_1_code (0 : Nat) (Option.some (Jvm.ClassFile.FieldType.array (Jvm.ClassFile.FieldType.object "com/example/anteroom/anteroom/io/Frame$Status")))]
set_option maxRecDepth 65536 in
theorem codes_eq : words1.filter isCode = codes1 := rfl
theorem w_codes : ∀ c ∈ words1.filter isCode, c.before args0 about1 = true := by
  rw [codes_eq]
  intro c hc
  simp only [codes1, List.mem_cons, List.not_mem_nil, or_false] at hc
  rcases hc with rfl | rfl | rfl | rfl
  · exact w_c0
  · exact w_c1
  · exact w_c2
  · exact w_c3
set_option maxRecDepth 65536 in
theorem w_t1 : (words1.take 24).all (fun c => isCode c || c.before args0 about1) = true := by decide +kernel
set_option maxRecDepth 65536 in
theorem w_t2 : (words1.drop 24).all (fun c => isCode c || c.before args0 about1) = true := by decide +kernel
theorem w_tables : (allAtoms (Jvm.Cond.code x code maxLocals ret :: tables_1)).before args0 about1 = true := by
  rw [allAtoms_all]
  show words1.all (fun c => c.before args0 about1) = true
  refine all_split ?_ w_codes
  rw [← List.take_append_drop 24 words1, List.all_append, w_t1, w_t2]
  rfl
set_option maxRecDepth 65536 in
theorem w_case : (Jvm.Cond.and given_1 narrow_1).before args0 about1 = true := by decide +kernel
theorem w_applies : (headSpec (Jvm.Cond.code x code maxLocals ret :: tables_1) room_1).applies x e0.platform about1 = true :=
  (Spec.applies_iff w_frames).mpr ⟨w_running, w_runnable, w_alone, w_named, w_hears, w_ripe, w_room, w_tables⟩
theorem atStart : AtStart classFile x code maxLocals ret World_1 tables_1 room_1 Calls_1 rest_1 Pre_1 launch0 p0 e0 about1 theMethod args0 below0 :=
  ⟨lists_1, trivial, launch0.admits_env _ _ _, launch0.least_env, fairChoices_fair.cas, fairChoices_fair.clock, w_frames, w_args, w_heap, w_applies, trivial, trivial, w_case⟩
end start1
theorem witness_1 : WitnessClaimed_1 := ⟨start1.p0, start1.e0, start1.about1, start1.theMethod, start1.args0, start1.below0, start1.atStart⟩
end Jvm.Pilot.@@N@@
