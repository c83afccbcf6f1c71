import JvmDerived
import JvmDerived.Pilot.@@N@@Statement
import JvmDerived.Pilot.@@N@@Code
set_option linter.unusedVariables false
set_option linter.unusedSimpArgs false
namespace Jvm.Pilot.@@N@@
open Jvm Jvm.ClassFile Sem Op Lib Jvm.Free Jvm.Stand Jvm.LawKit Jvm.RoadKit Bundle Jvm.Pilot.@@N@@.Jvm.D
section Own
variable {p : Program} {l : Launch} {e : Env} {R : Room} {s : State} {m : MethodId} {args : Array Value} {below : List Frame} {meth : Method} {c : Code} {T : State} {locs : List Loc} {cells slots : Nat} {Z : State} {a0 : Array Value} {h : Heap} {W : Outcome → State → Prop} {B : ByteArray} {own : String} {ml : Nat} {pc pc' : Nat} {Ls : Array Slot} {st : List Value}
/-- the walk from T ends, and W holds of its end -/
def Go (p : Program) (e : Env) (below : List Frame) (W : Outcome → State → Prop) (T : State) : Prop := ∃ t o, Steps p.tables e below T t ∧ t.status = .running ∧ Ended t below o ∧ W o t
theorem Go.via {T' : State} (h : ∀ t, Steps p.tables e below T' t → Steps p.tables e below T t) (k : Go p e below W T') : Go p e below W T := by
  obtain ⟨t, o, s, r⟩ := k
  exact ⟨t, o, h t s, r⟩
def Ctx (p : Program) (s : State) (m : MethodId) (c : Code) (Z : State) (B : ByteArray) (own : String) (ml : Nat) : Prop := p.tables.exec = Jvm.exec ∧ c.code = B ∧ Z.Warmed39 s.vm ∧ s.vm.findClass own = some m.cls ∧ c.maxLocals = ml
theorem Ctx.at (K : Ctx p s m c Z B own ml) {r} (d : decode B pc = r) : decode c.code pc = r := K.2.1 ▸ d
def Con (l : Launch) (y : MethodName) (B : ByteArray) (ml : Nat) (rt : Option FieldType) (ws : List Jvm.Cond) (rm : Room) (Z : State) (as' : Array Value) (h0 : Heap) (Q : Option Value → Heap → List Loc → Prop) : Prop :=
  MetFree l y (head1 (Jvm.Cond.code y B ml rt :: ws) rm) (fun a U => a = as' ∧ Z.Warmed39 U.vm ∧ U.heap = h0) (fun _ _ _ _ _ => True) (fun _ U o U' => ∃ v L, o = .returned v ∧ Q v U'.heap L ∧ FrameEnd U o U' L rm.cells rm.slots)
/-- what a walk of a body owes at its end -/
def End (s : State) (R : Room) (Q : Option Value → Heap → List Loc → Prop) (o : Outcome) (U : State) : Prop := ∃ v L, o = .returned v ∧ Q v U.heap L ∧ FrameEnd s o U L R.cells R.slots
theorem own_enter {y : MethodName} {rt : Option FieldType} {ws : List Jvm.Cond} {rm : Room} {as' : Array Value} {h0 : Heap} {Q : Option Value → Heap → List Loc → Prop} (hpl : plainFor y = true) (hef : ∀ m, entryFrame m as' ml = mkF m 0 Ls [])
    (body : ∀ (p : Program) (e : Env) (s : State) (m : MethodId) (below : List Frame) (meth : Method) (c : Code) (T : State), Ctx p s m c Z B y.cls ml → Stand p l e rm s m as' below meth c T [] 0 0 → T.heap = h0 → meth.sig.returnType = rt → meth.locks = false → meth.name = y.name →
      Go p e below (End s rm Q) (T.setTop (mkF m 0 Ls []))) : Con l y B ml rt ws rm Z as' h0 Q := by
  refine MetFree.of_bodySF hpl hisR ?_
  intro p e s m args below meth c s₁ Bd hml0 hP hK
  obtain ⟨rfl, hZ, hh⟩ := hP
  have k := body p e s m below meth c s₁ ⟨Bd.exec, Bd.bytes, hZ, findClass_of_methodNamed Bd.named, hml0⟩ (Stand.of_body Bd) (by rw [← hh, Bd.state]; rfl) Bd.returns Bd.notSynchronized (name_of_methodNamed Bd.named Bd.method).1
  rw [← hef] at k
  exact k
theorem own_le {a b : Nat} (h : Nat.ble a b = true) : a ≤ b := Nat.le_of_ble_eq_true h
theorem own_sta_keep {h' : Heap} {C n d : String} {v : Value} (F : Sta Z h C n d v) (K : Keep h h' []) : Sta Z h' C n d v := by
  obtain ⟨cf, i, k, f, st, cell, h1, h2, h3, h4, h5, r⟩ := F
  exact ⟨cf, i, k, f, st, cell, h1, h2, h3, h4, K.2.1 _ _ h5 nin0, r⟩
theorem own_sto {h : Heap} {a y : Addr} {k : ClassId} {ty : FieldType} {n : Int32} {vs : List Value} {dv : Value} {C : String} (F : Arv Z h a k ty n vs dv) (O : Ovr Z k C) (I : Ins Z h y C true) : Sto Z h a (.ref y) := by
  obtain ⟨c, A, q, -⟩ := F
  exact Sto.ofV A q O I
theorem own_w {ts : List Jvm.Cond} (hw : ∀ d ∈ ts, d.before a0 Z = true) (i : Nat) {d : Jvm.Cond} (h : ts[i]? = some d) : d.before a0 Z = true := hw _ (List.mem_of_getElem? h)
theorem own_iloadN (K : Ctx p s m c Z B own ml) (X : Stand p l e R s m args below meth c T locs cells slots) {i : Fin 4} {v : Int32} (hd : decode B pc = .ok (.iload_n i, 1)) (hl : Ls[i.val]? = some (.val (.int v))) (hp : pc + 1 = pc') (k : Go p e below W (T.setTop (mkF m pc' Ls (.int v :: st)))) : Go p e below W (T.setTop (mkF m pc Ls st)) := by
  subst hp; exact k.via fun t k => XS.iloadN X.here K.1 rfl (K.at hd) hl k
theorem own_iload (K : Ctx p s m c Z B own ml) (X : Stand p l e R s m args below meth c T locs cells slots) {i : Nat} {v : Int32} (hd : decode B pc = .ok (.iload i, 2)) (hl : Ls[i]? = some (.val (.int v))) (hp : pc + 2 = pc') (k : Go p e below W (T.setTop (mkF m pc' Ls (.int v :: st)))) : Go p e below W (T.setTop (mkF m pc Ls st)) := by
  subst hp; exact k.via fun t k => XS.iload X.here K.1 rfl (K.at hd) hl k
theorem own_lloadN (K : Ctx p s m c Z B own ml) (X : Stand p l e R s m args below meth c T locs cells slots) {i : Fin 4} {v : Int64} (hd : decode B pc = .ok (.lload_n i, 1)) (hl : Ls[i.val]? = some (.val (.long v))) (hp : pc + 1 = pc') (k : Go p e below W (T.setTop (mkF m pc' Ls (.long v :: st)))) : Go p e below W (T.setTop (mkF m pc Ls st)) := by
  subst hp; exact k.via fun t k => XS.lloadN X.here K.1 rfl (K.at hd) hl k
theorem own_lload (K : Ctx p s m c Z B own ml) (X : Stand p l e R s m args below meth c T locs cells slots) {i : Nat} {v : Int64} (hd : decode B pc = .ok (.lload i, 2)) (hl : Ls[i]? = some (.val (.long v))) (hp : pc + 2 = pc') (k : Go p e below W (T.setTop (mkF m pc' Ls (.long v :: st)))) : Go p e below W (T.setTop (mkF m pc Ls st)) := by
  subst hp; exact k.via fun t k => XS.lload X.here K.1 rfl (K.at hd) hl k
theorem own_aloadN (K : Ctx p s m c Z B own ml) (X : Stand p l e R s m args below meth c T locs cells slots) {i : Fin 4} {v : Value} (hd : decode B pc = .ok (.aload_n i, 1)) (hl : Ls[i.val]? = some (.val v)) (hv : v.isRef = true) (hp : pc + 1 = pc') (k : Go p e below W (T.setTop (mkF m pc' Ls (v :: st)))) : Go p e below W (T.setTop (mkF m pc Ls st)) := by
  subst hp; exact k.via fun t k => XS.aloadN X.here K.1 rfl (K.at hd) hl hv k
theorem own_aload (K : Ctx p s m c Z B own ml) (X : Stand p l e R s m args below meth c T locs cells slots) {i : Nat} {v : Value} (hd : decode B pc = .ok (.aload i, 2)) (hl : Ls[i]? = some (.val v)) (hv : v.isRef = true) (hp : pc + 2 = pc') (k : Go p e below W (T.setTop (mkF m pc' Ls (v :: st)))) : Go p e below W (T.setTop (mkF m pc Ls st)) := by
  subst hp; exact k.via fun t k => XS.aload X.here K.1 rfl (K.at hd) hl hv k
theorem own_iconst (K : Ctx p s m c Z B own ml) (X : Stand p l e R s m args below meth c T locs cells slots) {i : Int} {v : Int32} (hd : decode B pc = .ok (.iconst i, 1)) (hv : Int32.ofInt i = v) (hp : pc + 1 = pc') (k : Go p e below W (T.setTop (mkF m pc' Ls (.int v :: st)))) : Go p e below W (T.setTop (mkF m pc Ls st)) := by
  subst hp hv; exact k.via fun t k => XS.iconst X.here K.1 rfl (K.at hd) k
theorem own_bipush (K : Ctx p s m c Z B own ml) (X : Stand p l e R s m args below meth c T locs cells slots) {i : Int} {v : Int32} (hd : decode B pc = .ok (.bipush i, 2)) (hv : (Int8.ofInt i).toInt32 = v) (hp : pc + 2 = pc') (k : Go p e below W (T.setTop (mkF m pc' Ls (.int v :: st)))) : Go p e below W (T.setTop (mkF m pc Ls st)) := by
  subst hp hv; exact k.via fun t k => XS.bipush X.here K.1 rfl (K.at hd) k
theorem own_sipush (K : Ctx p s m c Z B own ml) (X : Stand p l e R s m args below meth c T locs cells slots) {i : Int} {v : Int32} (hd : decode B pc = .ok (.sipush i, 3)) (hv : (Int16.ofInt i).toInt32 = v) (hp : pc + 3 = pc') (k : Go p e below W (T.setTop (mkF m pc' Ls (.int v :: st)))) : Go p e below W (T.setTop (mkF m pc Ls st)) := by
  subst hp hv; exact k.via fun t k => XS.sipush X.here K.1 rfl (K.at hd) k
theorem own_lconst (K : Ctx p s m c Z B own ml) (X : Stand p l e R s m args below meth c T locs cells slots) {i : Fin 2} {v : Int64} (hd : decode B pc = .ok (.lconst i, 1)) (hv : Int64.ofNat i = v) (hp : pc + 1 = pc') (k : Go p e below W (T.setTop (mkF m pc' Ls (.long v :: st)))) : Go p e below W (T.setTop (mkF m pc Ls st)) := by
  subst hp hv; exact k.via fun t k => XS.lconst X.here K.1 rfl (K.at hd) k
theorem own_aconst_null (K : Ctx p s m c Z B own ml) (X : Stand p l e R s m args below meth c T locs cells slots)  (hd : decode B pc = .ok (.aconst_null, 1))  (hp : pc + 1 = pc') (k : Go p e below W (T.setTop (mkF m pc' Ls (.null :: st)))) : Go p e below W (T.setTop (mkF m pc Ls st)) := by
  subst hp; exact k.via fun t k => XS.aconstNull X.here K.1 rfl (K.at hd) k
theorem own_iadd (K : Ctx p s m c Z B own ml) (X : Stand p l e R s m args below meth c T locs cells slots) {x y : Int32} (hd : decode B pc = .ok (.iadd, 1))  (hp : pc + 1 = pc') (k : Go p e below W (T.setTop (mkF m pc' Ls (.int (x + y) :: st)))) : Go p e below W (T.setTop (mkF m pc Ls (.int y :: .int x :: st))) := by
  subst hp; exact k.via fun t k => XS.iadd X.here K.1 rfl (K.at hd) rfl k
theorem own_isub (K : Ctx p s m c Z B own ml) (X : Stand p l e R s m args below meth c T locs cells slots) {x y : Int32} (hd : decode B pc = .ok (.isub, 1))  (hp : pc + 1 = pc') (k : Go p e below W (T.setTop (mkF m pc' Ls (.int (x - y) :: st)))) : Go p e below W (T.setTop (mkF m pc Ls (.int y :: .int x :: st))) := by
  subst hp; exact k.via fun t k => XS.isub X.here K.1 rfl (K.at hd) rfl k
theorem own_imul (K : Ctx p s m c Z B own ml) (X : Stand p l e R s m args below meth c T locs cells slots) {x y : Int32} (hd : decode B pc = .ok (.imul, 1))  (hp : pc + 1 = pc') (k : Go p e below W (T.setTop (mkF m pc' Ls (.int (x * y) :: st)))) : Go p e below W (T.setTop (mkF m pc Ls (.int y :: .int x :: st))) := by
  subst hp; exact k.via fun t k => XS.imul X.here K.1 rfl (K.at hd) rfl k
theorem own_iand (K : Ctx p s m c Z B own ml) (X : Stand p l e R s m args below meth c T locs cells slots) {x y : Int32} (hd : decode B pc = .ok (.iand, 1))  (hp : pc + 1 = pc') (k : Go p e below W (T.setTop (mkF m pc' Ls (.int (x &&& y) :: st)))) : Go p e below W (T.setTop (mkF m pc Ls (.int y :: .int x :: st))) := by
  subst hp; exact k.via fun t k => XS.iand X.here K.1 rfl (K.at hd) rfl k
theorem own_ior (K : Ctx p s m c Z B own ml) (X : Stand p l e R s m args below meth c T locs cells slots) {x y : Int32} (hd : decode B pc = .ok (.ior, 1))  (hp : pc + 1 = pc') (k : Go p e below W (T.setTop (mkF m pc' Ls (.int (x ||| y) :: st)))) : Go p e below W (T.setTop (mkF m pc Ls (.int y :: .int x :: st))) := by
  subst hp; exact k.via fun t k => XS.ior X.here K.1 rfl (K.at hd) rfl k
theorem own_ixor (K : Ctx p s m c Z B own ml) (X : Stand p l e R s m args below meth c T locs cells slots) {x y : Int32} (hd : decode B pc = .ok (.ixor, 1))  (hp : pc + 1 = pc') (k : Go p e below W (T.setTop (mkF m pc' Ls (.int (x ^^^ y) :: st)))) : Go p e below W (T.setTop (mkF m pc Ls (.int y :: .int x :: st))) := by
  subst hp; exact k.via fun t k => XS.ixor X.here K.1 rfl (K.at hd) rfl k
theorem own_ishl (K : Ctx p s m c Z B own ml) (X : Stand p l e R s m args below meth c T locs cells slots) {x y : Int32} (hd : decode B pc = .ok (.ishl, 1))  (hp : pc + 1 = pc') (k : Go p e below W (T.setTop (mkF m pc' Ls (.int (x <<< (y &&& 31)) :: st)))) : Go p e below W (T.setTop (mkF m pc Ls (.int y :: .int x :: st))) := by
  subst hp; exact k.via fun t k => XS.ishl X.here K.1 rfl (K.at hd) rfl k
theorem own_ishr (K : Ctx p s m c Z B own ml) (X : Stand p l e R s m args below meth c T locs cells slots) {x y : Int32} (hd : decode B pc = .ok (.ishr, 1))  (hp : pc + 1 = pc') (k : Go p e below W (T.setTop (mkF m pc' Ls (.int (x >>> (y &&& 31)) :: st)))) : Go p e below W (T.setTop (mkF m pc Ls (.int y :: .int x :: st))) := by
  subst hp; exact k.via fun t k => XS.ishr X.here K.1 rfl (K.at hd) rfl k
theorem own_iushr (K : Ctx p s m c Z B own ml) (X : Stand p l e R s m args below meth c T locs cells slots) {x y : Int32} (hd : decode B pc = .ok (.iushr, 1))  (hp : pc + 1 = pc') (k : Go p e below W (T.setTop (mkF m pc' Ls (.int (XT.ushr x y) :: st)))) : Go p e below W (T.setTop (mkF m pc Ls (.int y :: .int x :: st))) := by
  subst hp; exact k.via fun t k => XS.iushr X.here K.1 rfl (K.at hd) rfl k
theorem own_ladd (K : Ctx p s m c Z B own ml) (X : Stand p l e R s m args below meth c T locs cells slots) {x y : Int64} (hd : decode B pc = .ok (.ladd, 1))  (hp : pc + 1 = pc') (k : Go p e below W (T.setTop (mkF m pc' Ls (.long (x + y) :: st)))) : Go p e below W (T.setTop (mkF m pc Ls (.long y :: .long x :: st))) := by
  subst hp; exact k.via fun t k => XS.ladd X.here K.1 rfl (K.at hd) rfl k
theorem own_lsub (K : Ctx p s m c Z B own ml) (X : Stand p l e R s m args below meth c T locs cells slots) {x y : Int64} (hd : decode B pc = .ok (.lsub, 1))  (hp : pc + 1 = pc') (k : Go p e below W (T.setTop (mkF m pc' Ls (.long (x - y) :: st)))) : Go p e below W (T.setTop (mkF m pc Ls (.long y :: .long x :: st))) := by
  subst hp; exact k.via fun t k => XS.lsub X.here K.1 rfl (K.at hd) rfl k
theorem own_lmul (K : Ctx p s m c Z B own ml) (X : Stand p l e R s m args below meth c T locs cells slots) {x y : Int64} (hd : decode B pc = .ok (.lmul, 1))  (hp : pc + 1 = pc') (k : Go p e below W (T.setTop (mkF m pc' Ls (.long (x * y) :: st)))) : Go p e below W (T.setTop (mkF m pc Ls (.long y :: .long x :: st))) := by
  subst hp; exact k.via fun t k => XS.lmul X.here K.1 rfl (K.at hd) rfl k
theorem own_irem (K : Ctx p s m c Z B own ml) (X : Stand p l e R s m args below meth c T locs cells slots) {x y : Int32} (hd : decode B pc = .ok (.irem, 1)) (hy : y ≠ 0) (hp : pc + 1 = pc') (k : Go p e below W (T.setTop (mkF m pc' Ls (.int (x % y) :: st)))) : Go p e below W (T.setTop (mkF m pc Ls (.int y :: .int x :: st))) := by
  subst hp; exact k.via fun t k => iremM (g := mkF m pc Ls (.int y :: .int x :: st)) X K.1 rfl (K.at hd) rfl hy k
theorem own_idiv (K : Ctx p s m c Z B own ml) (X : Stand p l e R s m args below meth c T locs cells slots) {x y : Int32} (hd : decode B pc = .ok (.idiv, 1)) (hy : y ≠ 0) (hp : pc + 1 = pc') (k : Go p e below W (T.setTop (mkF m pc' Ls (.int (x / y) :: st)))) : Go p e below W (T.setTop (mkF m pc Ls (.int y :: .int x :: st))) := by
  subst hp; exact k.via fun t k => XS.idiv X.here K.1 rfl (K.at hd) rfl hy k
theorem own_lcmp (K : Ctx p s m c Z B own ml) (X : Stand p l e R s m args below meth c T locs cells slots) {x y : Int64} (hd : decode B pc = .ok (.lcmp, 1))  (hp : pc + 1 = pc') (k : Go p e below W (T.setTop (mkF m pc' Ls (.int (XT.cmpL x y) :: st)))) : Go p e below W (T.setTop (mkF m pc Ls (.long y :: .long x :: st))) := by
  subst hp; exact k.via fun t k => XS.lcmp X.here K.1 rfl (K.at hd) rfl k
theorem own_i2l (K : Ctx p s m c Z B own ml) (X : Stand p l e R s m args below meth c T locs cells slots) {x : Int32} (hd : decode B pc = .ok (.i2l, 1))  (hp : pc + 1 = pc') (k : Go p e below W (T.setTop (mkF m pc' Ls (.long x.toInt64 :: st)))) : Go p e below W (T.setTop (mkF m pc Ls (.int x :: st))) := by
  subst hp; exact k.via fun t k => XS.i2l X.here K.1 rfl (K.at hd) rfl k
theorem own_l2i (K : Ctx p s m c Z B own ml) (X : Stand p l e R s m args below meth c T locs cells slots) {x : Int64} (hd : decode B pc = .ok (.l2i, 1))  (hp : pc + 1 = pc') (k : Go p e below W (T.setTop (mkF m pc' Ls (.int x.toInt32 :: st)))) : Go p e below W (T.setTop (mkF m pc Ls (.long x :: st))) := by
  subst hp; exact k.via fun t k => XS.l2i X.here K.1 rfl (K.at hd) rfl k
theorem own_i2c (K : Ctx p s m c Z B own ml) (X : Stand p l e R s m args below meth c T locs cells slots) {x : Int32} (hd : decode B pc = .ok (.i2c, 1))  (hp : pc + 1 = pc') (k : Go p e below W (T.setTop (mkF m pc' Ls (.int x.toUInt32.toUInt16.toUInt32.toInt32 :: st)))) : Go p e below W (T.setTop (mkF m pc Ls (.int x :: st))) := by
  subst hp; exact k.via fun t k => XS.i2c X.here K.1 rfl (K.at hd) rfl k
theorem own_i2b (K : Ctx p s m c Z B own ml) (X : Stand p l e R s m args below meth c T locs cells slots) {x : Int32} (hd : decode B pc = .ok (.i2b, 1))  (hp : pc + 1 = pc') (k : Go p e below W (T.setTop (mkF m pc' Ls (.int x.toInt8.toInt32 :: st)))) : Go p e below W (T.setTop (mkF m pc Ls (.int x :: st))) := by
  subst hp; exact k.via fun t k => XS.i2b X.here K.1 rfl (K.at hd) rfl k
theorem own_dup (K : Ctx p s m c Z B own ml) (X : Stand p l e R s m args below meth c T locs cells slots) {x : Value} (hd : decode B pc = .ok (.dup, 1)) (hc : x.category = 1) (hp : pc + 1 = pc') (k : Go p e below W (T.setTop (mkF m pc' Ls (x :: x :: st)))) : Go p e below W (T.setTop (mkF m pc Ls (x :: st))) := by
  subst hp; exact k.via fun t k => XS.dup X.here K.1 rfl (K.at hd) rfl hc k
theorem own_dup_x1 (K : Ctx p s m c Z B own ml) (X : Stand p l e R s m args below meth c T locs cells slots) {x y : Value} (hd : decode B pc = .ok (.dup_x1, 1)) (hc : x.category = 1) (hc' : y.category = 1) (hp : pc + 1 = pc') (k : Go p e below W (T.setTop (mkF m pc' Ls (x :: y :: x :: st)))) : Go p e below W (T.setTop (mkF m pc Ls (x :: y :: st))) := by
  subst hp; exact k.via fun t k => XS.dupX1 X.here K.1 rfl (K.at hd) rfl hc hc' k
theorem own_dup2 (K : Ctx p s m c Z B own ml) (X : Stand p l e R s m args below meth c T locs cells slots) {x y : Value} (hd : decode B pc = .ok (.dup2, 1)) (hc : x.category = 1) (hc' : y.category = 1) (hp : pc + 1 = pc') (k : Go p e below W (T.setTop (mkF m pc' Ls (x :: y :: x :: y :: st)))) : Go p e below W (T.setTop (mkF m pc Ls (x :: y :: st))) := by
  subst hp; exact k.via fun t k => XT.dup2 X.here K.1 rfl (K.at hd) rfl hc hc' k
theorem own_dup2L (K : Ctx p s m c Z B own ml) (X : Stand p l e R s m args below meth c T locs cells slots) {x : Int64} (hd : decode B pc = .ok (.dup2, 1))  (hp : pc + 1 = pc') (k : Go p e below W (T.setTop (mkF m pc' Ls (.long x :: .long x :: st)))) : Go p e below W (T.setTop (mkF m pc Ls (.long x :: st))) := by
  subst hp; exact k.via fun t k => XT.dup2L X.here K.1 rfl (K.at hd) rfl k
theorem own_pop (K : Ctx p s m c Z B own ml) (X : Stand p l e R s m args below meth c T locs cells slots) {x : Value} (hd : decode B pc = .ok (.pop, 1)) (hc : x.category = 1) (hp : pc + 1 = pc') (k : Go p e below W (T.setTop (mkF m pc' Ls st))) : Go p e below W (T.setTop (mkF m pc Ls (x :: st))) := by
  subst hp; exact k.via fun t k => XS.pop X.here K.1 rfl (K.at hd) rfl hc k
theorem own_istoreN (K : Ctx p s m c Z B own ml) (X : Stand p l e R s m args below meth c T locs cells slots) {i : Fin 4} {x : Int32} {l' : Array Slot} (hd : decode B pc = .ok (.istore_n i, 1)) (hl : storeLocals Ls i.val (.int x) = some l') (hp : pc + 1 = pc') (k : Go p e below W (T.setTop (mkF m pc' l' st))) : Go p e below W (T.setTop (mkF m pc Ls (.int x :: st))) := by
  subst hp; exact k.via fun t k => XS.istoreN X.here K.1 rfl (K.at hd) rfl hl k
theorem own_istore (K : Ctx p s m c Z B own ml) (X : Stand p l e R s m args below meth c T locs cells slots) {i : Nat} {x : Int32} {l' : Array Slot} (hd : decode B pc = .ok (.istore i, 2)) (hl : storeLocals Ls i (.int x) = some l') (hp : pc + 2 = pc') (k : Go p e below W (T.setTop (mkF m pc' l' st))) : Go p e below W (T.setTop (mkF m pc Ls (.int x :: st))) := by
  subst hp; exact k.via fun t k => XS.istore X.here K.1 rfl (K.at hd) rfl hl k
theorem own_lstoreN (K : Ctx p s m c Z B own ml) (X : Stand p l e R s m args below meth c T locs cells slots) {i : Fin 4} {x : Int64} {l' : Array Slot} (hd : decode B pc = .ok (.lstore_n i, 1)) (hl : storeLocals Ls i.val (.long x) = some l') (hp : pc + 1 = pc') (k : Go p e below W (T.setTop (mkF m pc' l' st))) : Go p e below W (T.setTop (mkF m pc Ls (.long x :: st))) := by
  subst hp; exact k.via fun t k => XS.lstoreN X.here K.1 rfl (K.at hd) rfl hl k
theorem own_lstore (K : Ctx p s m c Z B own ml) (X : Stand p l e R s m args below meth c T locs cells slots) {i : Nat} {x : Int64} {l' : Array Slot} (hd : decode B pc = .ok (.lstore i, 2)) (hl : storeLocals Ls i (.long x) = some l') (hp : pc + 2 = pc') (k : Go p e below W (T.setTop (mkF m pc' l' st))) : Go p e below W (T.setTop (mkF m pc Ls (.long x :: st))) := by
  subst hp; exact k.via fun t k => XS.lstore X.here K.1 rfl (K.at hd) rfl hl k
theorem own_astoreN (K : Ctx p s m c Z B own ml) (X : Stand p l e R s m args below meth c T locs cells slots) {i : Fin 4} {x : Value} {l' : Array Slot} (hd : decode B pc = .ok (.astore_n i, 1)) (hv : x.isRef = true) (hl : storeLocals Ls i.val x = some l') (hp : pc + 1 = pc') (k : Go p e below W (T.setTop (mkF m pc' l' st))) : Go p e below W (T.setTop (mkF m pc Ls (x :: st))) := by
  subst hp; exact k.via fun t k => XS.astoreN X.here K.1 rfl (K.at hd) rfl hv hl k
theorem own_astore (K : Ctx p s m c Z B own ml) (X : Stand p l e R s m args below meth c T locs cells slots) {i : Nat} {x : Value} {l' : Array Slot} (hd : decode B pc = .ok (.astore i, 2)) (hv : x.isRef = true) (hl : storeLocals Ls i x = some l') (hp : pc + 2 = pc') (k : Go p e below W (T.setTop (mkF m pc' l' st))) : Go p e below W (T.setTop (mkF m pc Ls (x :: st))) := by
  subst hp; exact k.via fun t k => XS.astore X.here K.1 rfl (K.at hd) rfl hv hl k
theorem own_iinc (K : Ctx p s m c Z B own ml) (X : Stand p l e R s m args below meth c T locs cells slots) {i : Nat} {n : Int} {x v : Int32} {l' : Array Slot} (hd : decode B pc = .ok (.iinc i n, 3)) (hv : Int32.ofInt n = v) (hl : Ls[i]? = some (.val (.int x))) (hl' : storeLocals Ls i (.int (x + v)) = some l') (hp : pc + 3 = pc') (k : Go p e below W (T.setTop (mkF m pc' l' st))) : Go p e below W (T.setTop (mkF m pc Ls st)) := by
  subst hp hv; exact k.via fun t k => XS.iinc X.here K.1 rfl (K.at hd) hl hl' k
theorem own_ldcI (K : Ctx p s m c Z B own ml) (X : Stand p l e R s m args below meth c T locs cells slots) {i : Nat} {v : Int32} (hd : decode B pc = .ok (.ldc i, 2)) (w : (Jvm.Cond.constant own i v).before a0 Z = true) (hp : pc + 2 = pc') (k : Go p e below W (T.setTop (mkF m pc' Ls (.int v :: st)))) : Go p e below W (T.setTop (mkF m pc Ls st)) := by
  subst hp; exact k.via fun t k => X.ldcInt K.1 K.2.2.2.1 (mv K.2.2.1 w) (g := mkF m pc Ls st) rfl (K.at hd) t k
theorem own_ldc2J (K : Ctx p s m c Z B own ml) (X : Stand p l e R s m args below meth c T locs cells slots) {i : Nat} {v : Int64} (hd : decode B pc = .ok (.ldc2_w i, 3)) (w : (Jvm.Cond.constantLong own i v).before a0 Z = true) (hp : pc + 3 = pc') (k : Go p e below W (T.setTop (mkF m pc' Ls (.long v :: st)))) : Go p e below W (T.setTop (mkF m pc Ls st)) := by
  subst hp; exact k.via fun t k => X.ldc2Long K.1 K.2.2.2.1 (mv K.2.2.1 w) (g := mkF m pc Ls st) rfl (K.at hd) t k
theorem own_ifnullYes (K : Ctx p s m c Z B own ml) (X : Stand p l e R s m args below meth c T locs cells slots) {b : Addr} {o : Int} (hd : decode B pc = .ok (.ifnull o, 3)) (ho : 0 ≤ (pc : Int) + o) (hp : ((pc : Int) + o).toNat = pc') (k : Go p e below W (T.setTop (mkF m pc' Ls st))) : Go p e below W (T.setTop (mkF m pc Ls (.null :: st))) :=
  k.via fun t k => XS.ifnullYes X.here K.1 rfl rfl (K.at hd) rfl ho hp k
theorem own_ifnullNo (K : Ctx p s m c Z B own ml) (X : Stand p l e R s m args below meth c T locs cells slots) {b : Addr} {o : Int} (hd : decode B pc = .ok (.ifnull o, 3)) (hp : pc + 3 = pc') (k : Go p e below W (T.setTop (mkF m pc' Ls st))) : Go p e below W (T.setTop (mkF m pc Ls (.ref b :: st))) := by
  subst hp; exact k.via fun t k => XS.ifnullNo X.here K.1 rfl (K.at hd) rfl k
theorem own_ifnonnullYes (K : Ctx p s m c Z B own ml) (X : Stand p l e R s m args below meth c T locs cells slots) {b : Addr} {o : Int} (hd : decode B pc = .ok (.ifnonnull o, 3)) (ho : 0 ≤ (pc : Int) + o) (hp : ((pc : Int) + o).toNat = pc') (k : Go p e below W (T.setTop (mkF m pc' Ls st))) : Go p e below W (T.setTop (mkF m pc Ls (.ref b :: st))) :=
  k.via fun t k => XS.ifnonnullYes X.here K.1 rfl rfl (K.at hd) rfl ho hp k
theorem own_ifnonnullNo (K : Ctx p s m c Z B own ml) (X : Stand p l e R s m args below meth c T locs cells slots) {b : Addr} {o : Int} (hd : decode B pc = .ok (.ifnonnull o, 3)) (hp : pc + 3 = pc') (k : Go p e below W (T.setTop (mkF m pc' Ls st))) : Go p e below W (T.setTop (mkF m pc Ls (.null :: st))) := by
  subst hp; exact k.via fun t k => XS.ifnonnullNo X.here K.1 rfl (K.at hd) rfl k
theorem own_goto (K : Ctx p s m c Z B own ml) (X : Stand p l e R s m args below meth c T locs cells slots) {o : Int} (hd : decode B pc = .ok (.goto o, 3)) (ho : 0 ≤ (pc : Int) + o) (hp : ((pc : Int) + o).toNat = pc') (k : Go p e below W (T.setTop (mkF m pc' Ls st))) : Go p e below W (T.setTop (mkF m pc Ls st)) :=
  k.via fun t k => XS.goto X.here K.1 rfl rfl (K.at hd) ho hp k
theorem own_ifYes (K : Ctx p s m c Z B own ml) (X : Stand p l e R s m args below meth c T locs cells slots) {cd : ClassFile.Cond} {x : Int32} {o : Int} (hd : decode B pc = .ok (.ifCond cd o, 3)) (hc : if_icmp.holds cd x 0 = true) (ho : 0 ≤ (pc : Int) + o) (hp : ((pc : Int) + o).toNat = pc') (k : Go p e below W (T.setTop (mkF m pc' Ls st))) : Go p e below W (T.setTop (mkF m pc Ls (.int x :: st))) :=
  k.via fun t k => XS.ifYes X.here K.1 rfl rfl (K.at hd) rfl ((if0 _ _).trans hc) ho hp k
theorem own_ifNo (K : Ctx p s m c Z B own ml) (X : Stand p l e R s m args below meth c T locs cells slots) {cd : ClassFile.Cond} {x : Int32} {o : Int} (hd : decode B pc = .ok (.ifCond cd o, 3)) (hc : if_icmp.holds cd x 0 = false) (hp : pc + 3 = pc') (k : Go p e below W (T.setTop (mkF m pc' Ls st))) : Go p e below W (T.setTop (mkF m pc Ls (.int x :: st))) := by
  subst hp; exact k.via fun t k => XS.ifNo X.here K.1 rfl (K.at hd) rfl ((if0 _ _).trans hc) k
theorem own_icmpYes (K : Ctx p s m c Z B own ml) (X : Stand p l e R s m args below meth c T locs cells slots) {cd : ClassFile.Cond} {x y : Int32} {o : Int} (hd : decode B pc = .ok (.if_icmp cd o, 3)) (hc : if_icmp.holds cd x y = true) (ho : 0 ≤ (pc : Int) + o) (hp : ((pc : Int) + o).toNat = pc') (k : Go p e below W (T.setTop (mkF m pc' Ls st))) : Go p e below W (T.setTop (mkF m pc Ls (.int y :: .int x :: st))) :=
  k.via fun t k => XS.icmpYes X.here K.1 rfl rfl (K.at hd) rfl hc ho hp k
theorem own_icmpNo (K : Ctx p s m c Z B own ml) (X : Stand p l e R s m args below meth c T locs cells slots) {cd : ClassFile.Cond} {x y : Int32} {o : Int} (hd : decode B pc = .ok (.if_icmp cd o, 3)) (hc : if_icmp.holds cd x y = false) (hp : pc + 3 = pc') (k : Go p e below W (T.setTop (mkF m pc' Ls st))) : Go p e below W (T.setTop (mkF m pc Ls (.int y :: .int x :: st))) := by
  subst hp; exact k.via fun t k => XS.icmpNo X.here K.1 rfl (K.at hd) rfl hc k
theorem own_acmp (K : Ctx p s m c Z B own ml) (X : Stand p l e R s m args below meth c T locs cells slots) {cd : ACond} {x y : Value} {o : Int} {same : Bool} (hd : decode B pc = .ok (.if_acmp cd o, 3)) (h1 : x.isRef = true) (h2 : y.isRef = true) (hq : decide (x = y) = same) (ho : 0 ≤ (pc : Int) + o) (hp : pc' = if acV cd same = true then ((pc : Int) + o).toNat else pc + 3) (k : Go p e below W (T.setTop (mkF m pc' Ls st))) : Go p e below W (T.setTop (mkF m pc Ls (y :: x :: st))) :=
  k.via fun t k => Jvm.RoadKit.acmp (g := mkF m pc Ls (y :: x :: st)) X K.1 rfl h1 h2 rfl (K.at hd) rfl hq ho hp k
theorem own_getS (K : Ctx p s m c Z B own ml) (X : Stand p l e R s m args below meth c T locs cells slots) {R0 O n d : String} {index : Nat} (eT : T.heap = h) (w : (Jvm.Cond.fieldLink own index R0 n d).before a0 Z = true) (via : Via Z R0 O n d) {v : Value} (F : Sta Z h O n d v) (hd : decode B pc = .ok (.getstatic index, 3)) (hp : pc + 3 = pc')
    (k : ∀ T', Stand p l e R s m args below meth c T' locs cells slots → T'.heap = h → Go p e below W (T'.setTop (mkF m pc' Ls (v :: st)))) : Go p e below W (T.setTop (mkF m pc Ls st)) := by
  subst hp
  obtain ⟨T', X', e', q⟩ := getS X K.1 K.2.2.1 K.2.2.2.1 (host := "") w via eT F (g := mkF m pc Ls st) rfl (K.at hd)
  exact (k T' X' e').via q
theorem own_getSN (K : Ctx p s m c Z B own ml) (X : Stand p l e R s m args below meth c T locs cells slots) {R0 O n d host : String} {index : Nat} (eT : T.heap = h) (w : (Jvm.Cond.fieldLinkNest own index R0 n d host).before a0 Z = true) (via : Via Z R0 O n d) {v : Value} (F : Sta Z h O n d v) (hd : decode B pc = .ok (.getstatic index, 3)) (hp : pc + 3 = pc')
    (k : ∀ T', Stand p l e R s m args below meth c T' locs cells slots → T'.heap = h → Go p e below W (T'.setTop (mkF m pc' Ls (v :: st)))) : Go p e below W (T.setTop (mkF m pc Ls st)) := by
  subst hp
  obtain ⟨T', X', e', q⟩ := getS2 X K.1 K.2.2.1 K.2.2.2.1 (Or.inr w) via eT F (g := mkF m pc Ls st) rfl (K.at hd)
  exact (k T' X' e').via q
theorem own_getF (K : Ctx p s m c Z B own ml) (X : Stand p l e R s m args below meth c T locs cells slots) {R0 O n d : String} {index : Nat} {a : Addr} (eT : T.heap = h) (w : (Jvm.Cond.fieldLink own index R0 n d).before a0 Z = true) (via : Via Z R0 O n d) {v : Value} (F : Fld Z h a O n d v) (hd : decode B pc = .ok (.getfield index, 3)) (hp : pc + 3 = pc')
    (k : ∀ T', Stand p l e R s m args below meth c T' locs cells slots → T'.heap = h → Go p e below W (T'.setTop (mkF m pc' Ls (v :: st)))) : Go p e below W (T.setTop (mkF m pc Ls (.ref a :: st))) := by
  subst hp
  obtain ⟨T', X', e', q⟩ := getF X K.1 K.2.2.1 K.2.2.2.1 (host := "") (Or.inl w) via eT F (g := mkF m pc Ls (.ref a :: st)) rfl rfl (K.at hd)
  exact (k T' X' e').via q
theorem own_putF (K : Ctx p s m c Z B own ml) (X : Stand p l e R s m args below meth c T locs cells slots) {R0 O n d C : String} {index kk : Nat} {ty : FieldType} {a : Addr} {v v' old : Value} (eT : T.heap = h) (w : (Jvm.Cond.fieldLink own index R0 n d).before a0 Z = true) (via : Via Z R0 O n d) (F : Fld Z h a O n d old) (E : Exa Z h a C)
    (L : (Jvm.Cond.lays C O n d).before a0 Z = true ∨ ((Jvm.Cond.laysFinal C O n d).before a0 Z = true ∧ own = O ∧ meth.name = "<init>")) (wi : (Jvm.Cond.instantiable C kk).before a0 Z = true) (hty : parseFieldDescriptor d = some ty) (hn : narrow ty v = v') (hf : fits ty v' = true) (hd : decode B pc = .ok (.putfield index, 3)) (hp : pc + 3 = pc')
    (k : ∀ T' h', Stand p l e R s m args below meth c T' (locs ++ [⟨a, Jvm.RoadKit.slotOf Z O n d⟩]) cells slots → T'.heap = h' → Wr h h' a (Jvm.RoadKit.slotOf Z O n d) v' → Go p e below W (T'.setTop (mkF m pc' Ls st))) : Go p e below W (T.setTop (mkF m pc Ls (v :: .ref a :: st))) := by
  subst hp
  obtain ⟨T', h', X', e', W', q⟩ := putFN X K.1 K.2.2.1 K.2.2.2.1 w via eT F E L wi hty hn hf (g := mkF m pc Ls (v :: .ref a :: st)) rfl rfl (K.at hd)
  exact (k T' h' X' e' W').via q
theorem own_new (K : Ctx p s m c Z B own ml) (X : Stand p l e R s m args below meth c T locs cells slots) {C : String} {index n : Nat} (eT : T.heap = h) (w : (Jvm.Cond.classLink own index C).before a0 Z = true) (wi : (Jvm.Cond.instantiable C n).before a0 Z = true) (wz : (Jvm.Cond.initialized C).before a0 Z = true) (hd : decode B pc = .ok (.new index, 3)) (hc : cells + 1 ≤ R.cells) (hl : slots + n ≤ R.slots) (hp : pc + 3 = pc')
    (k : ∀ T' h' a, Stand p l e R s m args below meth c T' locs (cells + 1) (slots + n) → T'.heap = h' → a = h.size → Ext h h' → Exa Z h' a C → (∀ {O nm d : String} {ty : FieldType}, Laid Z a0 C O nm d → parseFieldDescriptor d = some ty → Fld Z h' a O nm d (defaultValue ty)) → Go p e below W (T'.setTop (mkF m pc' Ls (.ref a :: st)))) : Go p e below W (T.setTop (mkF m pc Ls st)) := by
  subst hp
  obtain ⟨T', h', X', e', E', A', D', -, q⟩ := newO X K.1 K.2.2.1 K.2.2.2.1 w wi wz eT (g := mkF m pc Ls st) rfl (K.at hd) hc hl
  exact (k T' h' _ X' e' rfl E' A' D').via q
theorem own_initO (K : Ctx p s m c Z B own ml) (X : Stand p l e R s m args below meth c T locs cells slots) {idx : Nat} {a : Addr} (eT : T.heap = h) (w1 : (Jvm.Cond.methodLink own idx Lib.objectInit).before a0 Z = true) (w2 : (Jvm.Cond.instanceMethod Lib.objectInit).before a0 Z = true) (w3 : (Jvm.Cond.code Lib.objectInit ⟨#[0xb1]⟩ 1 none).before a0 Z = true)
    (hd : decode B pc = .ok (.invokespecial idx, 3)) (hsz : Ls.size = ml) (hf : 1 ≤ R.frames) (hl : (st.map fun v => v.category).sum + 12 ≤ R.locals) (hp : pc + 3 = pc') (k : ∀ T', Stand p l e R s m args below meth c T' locs cells slots → T'.heap = h → Go p e below W (T'.setTop (mkF m pc' Ls st))) : Go p e below W (T.setTop (mkF m pc Ls (.ref a :: st))) := by
  subst hp
  obtain ⟨T', X', e', q⟩ := initO X K.1 K.2.2.1 K.2.2.2.1 w1 w2 w3 eT (g := mkF m pc Ls (.ref a :: st)) rfl (hsz.trans K.2.2.2.2.symm) rfl (K.at hd) hf (W := (st.map fun v => v.category).sum) (by show 2 * 0 + _ ≤ _; omega) hl
  exact (k T' X' e').via q
theorem own_callS (K : Ctx p s m c Z B own ml) (X : Stand p l e R s m args below meth c T locs cells slots) {y : MethodName} {By : ByteArray} {mly index : Nat} {rty r : Option FieldType} {ps : List FieldType} {rmy : Room} {Q : Option Value → Heap → List Loc → Prop} {argsL rest : List Value} (eT : T.heap = h)
    (w1 : (Jvm.Cond.methodLink own index y).before a0 Z = true) (w2 : (Jvm.Cond.static y).before a0 Z = true) (w3 : (Jvm.Cond.initialized y.cls).before a0 Z = true) (w4 : (Jvm.Cond.code y By mly rty).before a0 Z = true) (hM : Con l y By mly rty [] rmy Z argsL.toArray h Q)
    (hd : decode B pc = .ok (.invokestatic index, 3)) (hpd : parseMethodDescriptor y.desc = some ⟨ps, r⟩) (hlen : argsL.length = ps.length) (hst : st = argsL.reverse ++ rest) (hsz : Ls.size = ml) (hy : y.cls ≠ "java/lang/invoke/MethodHandle" ∧ y.cls ≠ "java/lang/invoke/VarHandle")
    (hf : rmy.frames + 1 ≤ R.frames) (hl : (rest.map fun v => v.category).sum + (mly + 11) + rmy.locals ≤ R.locals) (hc : cells + rmy.cells ≤ R.cells) (hs : slots + rmy.slots ≤ R.slots) (hp : pc + 3 = pc')
    (k : ∀ v T' L, Stand p l e R s m args below meth c T' (locs ++ L) (cells + rmy.cells) (slots + rmy.slots) → Q v T'.heap L → Go p e below W (T'.setTop (mkF m pc' Ls (v.toList ++ rest)))) : Go p e below W (T.setTop (mkF m pc Ls st)) := by
  subst hp hst
  obtain ⟨v, _, ⟨T1, L1, k1, n1⟩, -, X1, ⟨Lc, hQ, l1, y1, z1⟩, q⟩ := Jvm.LawKit.callS X K.1 (y := y) K.2.2.2.1 (mvT K.2.2.1 w1) (mvT K.2.2.1 w2) (mvT K.2.2.1 w3) (mvT K.2.2.1 w4) hy (backOf (W := (rest.map fun v => v.category).sum) hM K.2.2.1 w4 w3 hf hl) (g := mkF m pc Ls (argsL.reverse ++ rest)) rfl (hsz.trans K.2.2.2.2.symm) (argsL := argsL) (rest := rest) (lenOf hpd hlen) rfl (by show 2 * 0 + _ ≤ _; omega) (K.at hd) (fun _ _ => ⟨rfl, eT, hc, hs⟩)
  dsimp only [Pt.U, Pt.locs, Pt.cells, Pt.slots] at X1 l1 y1 z1 q hQ
  subst l1 y1 z1
  exact (k v T1 Lc X1 hQ).via q
theorem own_callV (K : Ctx p s m c Z B own ml) (X : Stand p l e R s m args below meth c T locs cells slots) {y z : MethodName} {C : String} {By : ByteArray} {mly index : Nat} {rty r : Option FieldType} {ps : List FieldType} {rmy : Room} {Q : Option Value → Heap → List Loc → Prop} {argsL rest : List Value} {b : Addr} (eT : T.heap = h)
    (w1 : (Jvm.Cond.methodLink own index y).before a0 Z = true) (w2 : (Jvm.Cond.declares y).before a0 Z = true) (nf : NotFace s y) (w3 : (Jvm.Cond.selects C y z).before a0 Z = true) (w4 : (Jvm.Cond.instanceMethod z).before a0 Z = true) (w5 : (Jvm.Cond.code z By mly rty).before a0 Z = true) (w6 : (Jvm.Cond.initialized z.cls).before a0 Z = true) (E : Exa Z h b C) (hM : Con l z By mly rty [] rmy Z (.ref b :: argsL).toArray h Q)
    (hd : decode B pc = .ok (.invokevirtual index, 3)) (hpd : parseMethodDescriptor y.desc = some ⟨ps, r⟩) (hlen : argsL.length = ps.length) (hst : st = argsL.reverse ++ .ref b :: rest) (hsz : Ls.size = ml) (hy : y.cls ≠ "java/lang/invoke/MethodHandle" ∧ y.cls ≠ "java/lang/invoke/VarHandle")
    (hf : rmy.frames + 1 ≤ R.frames) (hl : (rest.map fun v => v.category).sum + (mly + 11) + rmy.locals ≤ R.locals) (hc : cells + rmy.cells ≤ R.cells) (hs : slots + rmy.slots ≤ R.slots) (hp : pc + 3 = pc')
    (k : ∀ v T' L, Stand p l e R s m args below meth c T' (locs ++ L) (cells + rmy.cells) (slots + rmy.slots) → Q v T'.heap L → Go p e below W (T'.setTop (mkF m pc' Ls (v.toList ++ rest)))) : Go p e below W (T.setTop (mkF m pc Ls st)) := by
  subst hp hst
  obtain ⟨cq, kq, qa, qb, qc⟩ := isOf K.2.2.1 eT E
  obtain ⟨v, _, ⟨T1, L1, k1, n1⟩, -, X1, ⟨Lc, hQ, l1, y1, z1⟩, q⟩ := X.virtualBack K.1 (y := y) (z := z) K.2.2.2.1 (mvT K.2.2.1 w1) (mvT K.2.2.1 w2) nf (mvT K.2.2.1 w3) (mvT K.2.2.1 w4) hy (backOf (W := (rest.map fun v => v.category).sum) hM K.2.2.1 w5 w6 hf hl) qa qc (g := mkF m pc Ls (argsL.reverse ++ .ref b :: rest)) rfl (hsz.trans K.2.2.2.2.symm) (Steps.refl _) (argsL := argsL) (rest := rest) (lenOf hpd hlen) rfl (by show 2 * 0 + _ ≤ _; omega) (K.at hd) (fun _ _ => ⟨rfl, eT, hc, hs⟩)
  dsimp only [Pt.U, Pt.locs, Pt.cells, Pt.slots] at X1 l1 y1 z1 q hQ
  subst l1 y1 z1
  exact (k v T1 Lc X1 hQ).via fun t k => q.trans k
theorem own_callI (K : Ctx p s m c Z B own ml) (X : Stand p l e R s m args below meth c T locs cells slots) {y : MethodName} {By : ByteArray} {mly index : Nat} {r : Option FieldType} {ps : List FieldType} {rmy : Room} {Q : Option Value → Heap → List Loc → Prop} {argsL rest : List Value} {b : Addr} (eT : T.heap = h) (hy1 : y.name = "<init>")
    (w1 : (Jvm.Cond.methodLink own index y).before a0 Z = true) (w4 : (Jvm.Cond.instanceMethod y).before a0 Z = true) (w5 : (Jvm.Cond.code y By mly none).before a0 Z = true) (w6 : (Jvm.Cond.initialized y.cls).before a0 Z = true) (hM : Con l y By mly none [] rmy Z (.ref b :: argsL).toArray h Q)
    (hd : decode B pc = .ok (.invokespecial index, 3)) (hpd : parseMethodDescriptor y.desc = some ⟨ps, r⟩) (hlen : argsL.length = ps.length) (hst : st = argsL.reverse ++ .ref b :: rest) (hsz : Ls.size = ml) (hy : y.cls ≠ "java/lang/invoke/MethodHandle" ∧ y.cls ≠ "java/lang/invoke/VarHandle")
    (hf : rmy.frames + 1 ≤ R.frames) (hl : (rest.map fun v => v.category).sum + (mly + 11) + rmy.locals ≤ R.locals) (hc : cells + rmy.cells ≤ R.cells) (hs : slots + rmy.slots ≤ R.slots) (hp : pc + 3 = pc')
    (k : ∀ v T' L, Stand p l e R s m args below meth c T' (locs ++ L) (cells + rmy.cells) (slots + rmy.slots) → Q v T'.heap L → Go p e below W (T'.setTop (mkF m pc' Ls (v.toList ++ rest)))) : Go p e below W (T.setTop (mkF m pc Ls st)) := by
  subst hp hst
  obtain ⟨v, _, ⟨T1, L1, k1, n1⟩, -, X1, ⟨Lc, hQ, l1, y1, z1⟩, q⟩ := X.specialBack K.1 (y := y) hy1 K.2.2.2.1 (mvT K.2.2.1 w1) (mvT K.2.2.1 w4) (mvT K.2.2.1 w5) hy (backOf (W := (rest.map fun v => v.category).sum) hM K.2.2.1 w5 w6 hf hl) (g := mkF m pc Ls (argsL.reverse ++ .ref b :: rest)) rfl (hsz.trans K.2.2.2.2.symm) (Steps.refl _) (a := b) (argsL := argsL) (rest := rest) (lenOf hpd hlen) rfl (by show 2 * 0 + _ ≤ _; omega) (K.at hd) (fun _ _ => ⟨rfl, eT, hc, hs⟩)
  dsimp only [Pt.U, Pt.locs, Pt.cells, Pt.slots] at X1 l1 y1 z1 q hQ
  subst l1 y1 z1
  exact (k v T1 Lc X1 hQ).via fun t k => q.trans k
theorem own_ret {Q : Option Value → Heap → List Loc → Prop} {g : JFrame} (X : Stand p l e R s m args below meth c T locs cells slots) (hlk : meth.locks = false) {v : Option Value} (hv : meth.sig.returnType = none → v = none)
    (hstep : ∀ fs, (∀ (f : JFrame) (acts : List Action), f.method = m → f.locked = none → f.entered = [] → (doReturn e (T.setTop f) acts v).1 = T.setFrames fs) → Steps p.tables e below (T.setTop g) (T.setFrames fs)) (hc : cells ≤ R.cells) (hs : slots ≤ R.slots) (hq : Q v T.heap locs) : Go p e below (End s R Q) (T.setTop g) := by
  obtain ⟨fs, hr, hrun, hended, hW, hsame⟩ := X.leave hv hlk
  exact ⟨_, _, hstep fs hr, hrun, hended, v, locs, rfl, hq, ⟨_, rfl⟩, hW, hsame.mono hc hs⟩
theorem own_retI {Q : Option Value → Heap → List Loc → Prop} (K : Ctx p s m c Z B own ml) (X : Stand p l e R s m args below meth c T locs cells slots) (hret : meth.sig.returnType = some .int) (hlk : meth.locks = false) {z : Int32} (hd : decode B pc = .ok (.ireturn, 1)) (hc : cells ≤ R.cells) (hs : slots ≤ R.slots) (hq : Q (some (.int z)) T.heap locs) : Go p e below (End s R Q) (T.setTop (mkF m pc Ls (.int z :: st))) :=
  own_ret X hlk (fun h => by rw [hret] at h; cases h) (fun fs hr => retOut X K.1 hret rfl (Or.inl ⟨rfl, Or.inl rfl, _, rfl⟩) (K.at hd) hr) hc hs hq
theorem own_retN {Q : Option Value → Heap → List Loc → Prop} (K : Ctx p s m c Z B own ml) (X : Stand p l e R s m args below meth c T locs cells slots) {t : FieldType} (hret : meth.sig.returnType = some t) (hlk : meth.locks = false) {z z' : Int32} (ht : t = .boolean ∨ t = .byte ∨ t = .char ∨ t = .short) (hz : nar t z = z') (hd : decode B pc = .ok (.ireturn, 1)) (hc : cells ≤ R.cells) (hs : slots ≤ R.slots) (hq : Q (some (.int z')) T.heap locs) : Go p e below (End s R Q) (T.setTop (mkF m pc Ls (.int z :: st))) := by
  subst hz
  exact own_ret X hlk (fun h => by rw [hret] at h; cases h) (fun fs hr => retN X K.1 hret ht (K.at hd) hr) hc hs hq
theorem own_retJ {Q : Option Value → Heap → List Loc → Prop} (K : Ctx p s m c Z B own ml) (X : Stand p l e R s m args below meth c T locs cells slots) (hret : meth.sig.returnType = some .long) (hlk : meth.locks = false) {z : Int64} (hd : decode B pc = .ok (.lreturn, 1)) (hc : cells ≤ R.cells) (hs : slots ≤ R.slots) (hq : Q (some (.long z)) T.heap locs) : Go p e below (End s R Q) (T.setTop (mkF m pc Ls (.long z :: st))) :=
  own_ret X hlk (fun h => by rw [hret] at h; cases h) (fun fs hr => retOut X K.1 hret rfl (Or.inr (Or.inl ⟨rfl, rfl, _, rfl⟩)) (K.at hd) hr) hc hs hq
theorem own_retA {Q : Option Value → Heap → List Loc → Prop} (K : Ctx p s m c Z B own ml) (X : Stand p l e R s m args below meth c T locs cells slots) {t : FieldType} (hret : meth.sig.returnType = some t) (ht : t.isReference = true) (hlk : meth.locks = false) {w : Value} (hw : w.isRef = true) (hd : decode B pc = .ok (.areturn, 1)) (hc : cells ≤ R.cells) (hs : slots ≤ R.slots) (hq : Q (some w) T.heap locs) : Go p e below (End s R Q) (T.setTop (mkF m pc Ls (w :: st))) := by
  have hn : narrow t w = w := by cases t <;> first | (cases ht; done) | (cases w <;> first | rfl | (cases hw; done))
  exact own_ret X hlk (fun h => by rw [hret] at h; cases h) (fun fs hr => retOut X K.1 hret hn (Or.inr (Or.inr (Or.inr (Or.inr ⟨rfl, ht, hw⟩)))) (K.at hd) hr) hc hs hq
theorem own_retV {Q : Option Value → Heap → List Loc → Prop} (K : Ctx p s m c Z B own ml) (X : Stand p l e R s m args below meth c T locs cells slots) (hret : meth.sig.returnType = none) (hlk : meth.locks = false) (hd : decode B pc = .ok (.return_, 1)) (hc : cells ≤ R.cells) (hs : slots ≤ R.slots) (hq : Q none T.heap locs) : Go p e below (End s R Q) (T.setTop (mkF m pc Ls [])) :=
  own_ret X hlk (fun _ => rfl) (fun fs hr => X.returnOut K.1 hret (K.at hd) hr) hc hs hq
end Own

theorem own_fld {s : State} {args : Array Value} {t : Term} {w : Addr} {C n d : String} {k : Int32} (ev : t.eval args s none [] s = some (.ref w)) (h : (Jvm.Cond.eq (Term.field t C n d) (Term.int k)).value args s none s [] = some true) : Fld s s.heap w C n d (.int k) := by
  obtain ⟨x, y, h1, h2, hk, -⟩ := cmp_v (Or.inl h)
  have h3 : y = .int k := (Option.some.inj ((Term.int_eval k).symm.trans h2)).symm
  subst h3
  have h4 := Fld.start ((fld_at ev).symm.trans h1)
  cases x with
  | int z =>
    have h5 : z = k := by simpa [Cond.value, h1, h2] using h
    subst h5; exact h4
  | _ => simp [Cond.value, h1, h2] at h
theorem d1_0 : decode method_2_code 0 = .ok (.iload_n 0, 1) := by decide +kernel
theorem d1_1 : decode method_2_code 1 = .ok (.ifCond .ne 7, 3) := by decide +kernel
theorem d1_4 : decode method_2_code 4 = .ok (.getstatic 7, 3) := by decide +kernel
theorem d1_7 : decode method_2_code 7 = .ok (.areturn, 1) := by decide +kernel
theorem d1_8 : decode method_2_code 8 = .ok (.iload_n 0, 1) := by decide +kernel
theorem d1_9 : decode method_2_code 9 = .ok (.iconst 1, 1) := by decide +kernel
theorem d1_10 : decode method_2_code 10 = .ok (.if_icmp .ne 7, 3) := by decide +kernel
theorem d1_13 : decode method_2_code 13 = .ok (.getstatic 13, 3) := by decide +kernel
theorem d1_16 : decode method_2_code 16 = .ok (.areturn, 1) := by decide +kernel
theorem d1_17 : decode method_2_code 17 = .ok (.iload_n 0, 1) := by decide +kernel
theorem d1_18 : decode method_2_code 18 = .ok (.iconst 2, 1) := by decide +kernel
theorem d1_19 : decode method_2_code 19 = .ok (.if_icmp .ne 7, 3) := by decide +kernel
theorem d1_22 : decode method_2_code 22 = .ok (.getstatic 16, 3) := by decide +kernel
theorem d1_25 : decode method_2_code 25 = .ok (.areturn, 1) := by decide +kernel
theorem d1_26 : decode method_2_code 26 = .ok (.getstatic 19, 3) := by decide +kernel
theorem d1_29 : decode method_2_code 29 = .ok (.areturn, 1) := by decide +kernel
theorem d2_0 : decode prog_19_method_5_code 0 = .ok (.aload_n 0, 1) := by decide +kernel
theorem d2_1 : decode prog_19_method_5_code 1 = .ok (.getstatic 3, 3) := by decide +kernel
theorem d2_4 : decode prog_19_method_5_code 4 = .ok (.if_acmp .eq 10, 3) := by decide +kernel
theorem d2_7 : decode prog_19_method_5_code 7 = .ok (.aload_n 0, 1) := by decide +kernel
theorem d2_8 : decode prog_19_method_5_code 8 = .ok (.getstatic 13, 3) := by decide +kernel
theorem d2_11 : decode prog_19_method_5_code 11 = .ok (.if_acmp .ne 7, 3) := by decide +kernel
theorem d2_14 : decode prog_19_method_5_code 14 = .ok (.iconst 1, 1) := by decide +kernel
theorem d2_15 : decode prog_19_method_5_code 15 = .ok (.goto 4, 3) := by decide +kernel
theorem d2_18 : decode prog_19_method_5_code 18 = .ok (.iconst 0, 1) := by decide +kernel
theorem d2_19 : decode prog_19_method_5_code 19 = .ok (.ireturn, 1) := by decide +kernel
theorem pd_0 : parseMethodDescriptor "(I)Lcom/example/punctual_post/punctualpost/model/EndpointStatus;" = some ⟨[.int], some (.object "com/example/punctual_post/punctualpost/model/EndpointStatus")⟩ := by decide +kernel
theorem pd_1 : parseMethodDescriptor "()Z" = some ⟨[], some .boolean⟩ := by decide +kernel
set_option maxRecDepth 65536 in
set_option maxHeartbeats 40000000 in
theorem rm1 (l : Launch) (Z : State) (a0 : Array Value) (hw : ∀ d ∈ tables_1, d.before a0 Z = true) (ws : List Jvm.Cond) (a1 w_ACTIVE w_PAUSED : Addr) (r : Int32) (h0 : Heap) (n0 : Nat) (S_ACTIVE : Sta Z h0 "com/example/punctual_post/punctualpost/model/EndpointStatus" "ACTIVE" "Lcom/example/punctual_post/punctualpost/model/EndpointStatus;" (.ref w_ACTIVE)) (S_PAUSED : Sta Z h0 "com/example/punctual_post/punctualpost/model/EndpointStatus" "PAUSED" "Lcom/example/punctual_post/punctualpost/model/EndpointStatus;" (.ref w_PAUSED)) (hr : r = if a1 = w_ACTIVE ∨ a1 = w_PAUSED then 1 else 0) :
    Con l (⟨"com/example/punctual_post/punctualpost/model/EndpointStatus", "setByHand", "()Z"⟩ : MethodName) prog_19_method_5_code 1 (some .boolean) ws ({ frames := 0, cells := 0, slots := 0, locals := 0 } : Room) Z #[(.ref a1)] h0 (fun v h L => v = some (.int r) ∧ Fr n0 L ∧ h = h0) := by
  refine own_enter (Ls := #[.val (.ref a1)]) (by first | (simp [plainFor, plainName, overriddenIn]; done) | decide +kernel) (fun m => by first | (simp [entryFrame, mkF, argsToLocals, Value.category, maxLocals]; done) | rfl) fun p e s m below meth c T0 K X0 e0 hrt hlk hnm => ?_
  have N0 := Fr.nil n0
  have KB0 := Keep.refl h0 []
  refine own_aloadN (pc' := 1) K X0 d2_0 rfl rfl rfl ?_
  refine own_getS (pc' := 4) K X0 e0 (own_w hw 12 rfl) Via.refl S_ACTIVE d2_1 rfl fun T1 X1 e1 => ?_
  by_cases c1 : a1 = w_ACTIVE
  · refine own_acmp (pc' := 14) (same := true) K X1 d2_4 rfl rfl (decide_eq_true (congrArg Value.ref c1)) (by decide) (by decide) ?_
    refine own_iconst (v := (1 : Int32)) (pc' := 15) K X1 d2_14 rfl rfl ?_
    refine own_goto (pc' := 19) K X1 d2_15 (by decide) (by decide) ?_
    exact own_retN (t := .boolean) (z' := (1 : Int32)) K X1 hrt hlk (by simp) rfl d2_19 (own_le rfl) (own_le rfl) (by (try rw [e1]); exact ⟨by rw [hr, if_pos (Or.inl c1)], N0, rfl⟩)
  · refine own_acmp (pc' := 7) (same := false) K X1 d2_4 rfl rfl (decide_eq_false fun q => c1 (Value.ref.inj q)) (by decide) (by decide) ?_
    refine own_aloadN (pc' := 8) K X1 d2_7 rfl rfl rfl ?_
    refine own_getS (pc' := 11) K X1 e1 (own_w hw 15 rfl) Via.refl S_PAUSED d2_8 rfl fun T2 X2 e2 => ?_
    by_cases c2 : a1 = w_PAUSED
    · refine own_acmp (pc' := 14) (same := true) K X2 d2_11 rfl rfl (decide_eq_true (congrArg Value.ref c2)) (by decide) (by decide) ?_
      refine own_iconst (v := (1 : Int32)) (pc' := 15) K X2 d2_14 rfl rfl ?_
      refine own_goto (pc' := 19) K X2 d2_15 (by decide) (by decide) ?_
      exact own_retN (t := .boolean) (z' := (1 : Int32)) K X2 hrt hlk (by simp) rfl d2_19 (own_le rfl) (own_le rfl) (by (try rw [e2]); exact ⟨by rw [hr, if_pos (Or.inr c2)], N0, rfl⟩)
    · refine own_acmp (pc' := 18) (same := false) K X2 d2_11 rfl rfl (decide_eq_false fun q => c2 (Value.ref.inj q)) (by decide) (by decide) ?_
      refine own_iconst (v := (0 : Int32)) (pc' := 19) K X2 d2_18 rfl rfl ?_
      exact own_retN (t := .boolean) (z' := (0 : Int32)) K X2 hrt hlk (by simp) rfl d2_19 (own_le rfl) (own_le rfl) (by (try rw [e2]); exact ⟨by rw [hr, if_neg (fun h => h.elim c1 c2)], N0, rfl⟩)
set_option maxRecDepth 65536 in
set_option maxHeartbeats 40000000 in
theorem rm2 (l : Launch) (Z : State) (a0 : Array Value) (hw : ∀ d ∈ tables_1, d.before a0 Z = true) (ws : List Jvm.Cond) (i1 : Int32) (w_ACTIVE w_DEGRADED w_DISABLED w_PAUSED r : Addr) (h0 : Heap) (n0 : Nat) (S_ACTIVE : Sta Z h0 "com/example/punctual_post/punctualpost/model/EndpointStatus" "ACTIVE" "Lcom/example/punctual_post/punctualpost/model/EndpointStatus;" (.ref w_ACTIVE)) (S_DEGRADED : Sta Z h0 "com/example/punctual_post/punctualpost/model/EndpointStatus" "DEGRADED" "Lcom/example/punctual_post/punctualpost/model/EndpointStatus;" (.ref w_DEGRADED)) (S_DISABLED : Sta Z h0 "com/example/punctual_post/punctualpost/model/EndpointStatus" "DISABLED" "Lcom/example/punctual_post/punctualpost/model/EndpointStatus;" (.ref w_DISABLED)) (S_PAUSED : Sta Z h0 "com/example/punctual_post/punctualpost/model/EndpointStatus" "PAUSED" "Lcom/example/punctual_post/punctualpost/model/EndpointStatus;" (.ref w_PAUSED)) (hr : r = if i1 = 0 then w_ACTIVE else if i1 = 1 then w_DEGRADED else if i1 = 2 then w_DISABLED else w_PAUSED) :
    Con l (⟨"com/example/punctual_post/punctualpost/model/EndpointStatusSetByHandPinLaw", "pick", "(I)Lcom/example/punctual_post/punctualpost/model/EndpointStatus;"⟩ : MethodName) method_2_code 1 (some (.object "com/example/punctual_post/punctualpost/model/EndpointStatus")) ws ({ frames := 0, cells := 0, slots := 0, locals := 0 } : Room) Z #[(.int i1)] h0 (fun v h L => v = some (.ref r) ∧ Fr n0 L ∧ h = h0) := by
  refine own_enter (Ls := #[.val (.int i1)]) (by first | (simp [plainFor, plainName, overriddenIn]; done) | decide +kernel) (fun m => by first | (simp [entryFrame, mkF, argsToLocals, Value.category, maxLocals]; done) | rfl) fun p e s m below meth c T0 K X0 e0 hrt hlk hnm => ?_
  have N0 := Fr.nil n0
  have KB0 := Keep.refl h0 []
  refine own_iloadN (pc' := 1) K X0 d1_0 rfl rfl ?_
  by_cases c0 : i1 = (0 : Int32)
  · refine own_ifNo (pc' := 4) K X0 d1_1 (teq c0).2 rfl ?_
    refine own_getS (pc' := 7) K X0 e0 (own_w hw 4 rfl) Via.refl S_ACTIVE d1_4 rfl fun T1 X1 e1 => ?_
    exact own_retA K X1 hrt rfl hlk rfl d1_7 (own_le rfl) (own_le rfl) (by (try rw [e1]); exact ⟨by rw [hr, if_pos c0], N0, rfl⟩)
  · refine own_ifYes (pc' := 8) K X0 d1_1 (feq c0).2 (by decide) (by decide) ?_
    refine own_iloadN (pc' := 9) K X0 d1_8 rfl rfl ?_
    refine own_iconst (v := (1 : Int32)) (pc' := 10) K X0 d1_9 rfl rfl ?_
    by_cases c1 : i1 = (1 : Int32)
    · refine own_icmpNo (pc' := 13) K X0 d1_10 (teq c1).2 rfl ?_
      refine own_getS (pc' := 16) K X0 e0 (own_w hw 18 rfl) Via.refl S_DEGRADED d1_13 rfl fun T2 X2 e2 => ?_
      exact own_retA K X2 hrt rfl hlk rfl d1_16 (own_le rfl) (own_le rfl) (by (try rw [e2]); exact ⟨by rw [hr, if_neg c0, if_pos c1], N0, rfl⟩)
    · refine own_icmpYes (pc' := 17) K X0 d1_10 (feq c1).2 (by decide) (by decide) ?_
      refine own_iloadN (pc' := 18) K X0 d1_17 rfl rfl ?_
      refine own_iconst (v := (2 : Int32)) (pc' := 19) K X0 d1_18 rfl rfl ?_
      by_cases c2 : i1 = (2 : Int32)
      · refine own_icmpNo (pc' := 22) K X0 d1_19 (teq c2).2 rfl ?_
        refine own_getS (pc' := 25) K X0 e0 (own_w hw 16 rfl) Via.refl S_DISABLED d1_22 rfl fun T3 X3 e3 => ?_
        exact own_retA K X3 hrt rfl hlk rfl d1_25 (own_le rfl) (own_le rfl) (by (try rw [e3]); exact ⟨by rw [hr, if_neg c0, if_neg c1, if_pos c2], N0, rfl⟩)
      · refine own_icmpYes (pc' := 26) K X0 d1_19 (feq c2).2 (by decide) (by decide) ?_
        refine own_getS (pc' := 29) K X0 e0 (own_w hw 13 rfl) Via.refl S_PAUSED d1_26 rfl fun T4 X4 e4 => ?_
        exact own_retA K X4 hrt rfl hlk rfl d1_29 (own_le rfl) (own_le rfl) (by (try rw [e4]); exact ⟨by rw [hr, if_neg c0, if_neg c1, if_neg c2], N0, rfl⟩)
set_option maxRecDepth 65536 in
set_option maxHeartbeats 40000000 in
theorem rm0 (l : Launch) (Z : State) (a0 : Array Value) (hw : ∀ d ∈ tables_1, d.before a0 Z = true) (ws : List Jvm.Cond) (p1 : Int32) (w_ACTIVE w_DEGRADED w_DISABLED w_PAUSED : Addr) (h0 : Heap) (n0 : Nat) (S_ACTIVE : Sta Z h0 "com/example/punctual_post/punctualpost/model/EndpointStatus" "ACTIVE" "Lcom/example/punctual_post/punctualpost/model/EndpointStatus;" (.ref w_ACTIVE)) (S_DEGRADED : Sta Z h0 "com/example/punctual_post/punctualpost/model/EndpointStatus" "DEGRADED" "Lcom/example/punctual_post/punctualpost/model/EndpointStatus;" (.ref w_DEGRADED)) (S_DISABLED : Sta Z h0 "com/example/punctual_post/punctualpost/model/EndpointStatus" "DISABLED" "Lcom/example/punctual_post/punctualpost/model/EndpointStatus;" (.ref w_DISABLED)) (S_PAUSED : Sta Z h0 "com/example/punctual_post/punctualpost/model/EndpointStatus" "PAUSED" "Lcom/example/punctual_post/punctualpost/model/EndpointStatus;" (.ref w_PAUSED)) (E_ACTIVE : Exa Z h0 w_ACTIVE "com/example/punctual_post/punctualpost/model/EndpointStatus") (E_DEGRADED : Exa Z h0 w_DEGRADED "com/example/punctual_post/punctualpost/model/EndpointStatus") (E_DISABLED : Exa Z h0 w_DISABLED "com/example/punctual_post/punctualpost/model/EndpointStatus") (E_PAUSED : Exa Z h0 w_PAUSED "com/example/punctual_post/punctualpost/model/EndpointStatus") (ne_DEGRADED_ACTIVE : ¬ w_DEGRADED = w_ACTIVE) (ne_DEGRADED_PAUSED : ¬ w_DEGRADED = w_PAUSED) (ne_DISABLED_ACTIVE : ¬ w_DISABLED = w_ACTIVE) (ne_DISABLED_PAUSED : ¬ w_DISABLED = w_PAUSED) :
    Con l x code maxLocals ret ws room_1 Z #[(.int p1)] h0 (fun v h L => v = some (.int 1) ∧ Fr n0 L) := by
  refine own_enter (Ls := #[.val (.int p1), .unset, .unset, .unset]) (by first | (simp [plainFor, plainName, overriddenIn]; done) | decide +kernel) (fun m => by first | (simp [entryFrame, mkF, argsToLocals, Value.category, maxLocals]; done) | rfl) fun p e s m below meth c T0 K X0 e0 hrt hlk hnm => ?_
  have N0 := Fr.nil n0
  have KB0 := Keep.refl h0 []
  refine own_iloadN (pc' := 1) K X0 at_0 rfl rfl ?_
  refine own_iconst (v := (3 : Int32)) (pc' := 2) K X0 at_1 rfl rfl ?_
  refine own_iand (pc' := 3) K X0 at_2 rfl ?_
  refine own_istoreN (l' := #[.val (.int p1), .val (.int (p1 &&& (3 : Int32))), .unset, .unset]) (pc' := 4) K X0 at_3 rfl rfl ?_
  refine own_iloadN (pc' := 5) K X0 at_4 rfl rfl ?_
  by_cases c0 : (p1 &&& (3 : Int32)) = (0 : Int32)
  · refine own_callS (pc' := 8) (argsL := [(.int (p1 &&& (3 : Int32)))]) (rest := []) K X0 e0 (own_w hw 0 rfl) (own_w hw 1 rfl) (own_w hw 2 rfl) (own_w hw 3 rfl) (rm2 l Z a0 hw [] (p1 &&& (3 : Int32)) w_ACTIVE w_DEGRADED w_DISABLED w_PAUSED w_ACTIVE h0 n0 S_ACTIVE S_DEGRADED S_DISABLED S_PAUSED (by rw [if_pos c0])) at_5 pd_0 rfl rfl rfl (by decide) (own_le rfl) (own_le rfl) (own_le rfl) (own_le rfl) rfl fun v1 T1 L1 X1 hQ1 => ?_
    obtain ⟨rfl, N1q, e1⟩ := hQ1
    have N1 := Fr.app N0 N1q
    show Go p e below _ (T1.setTop (mkF m 8 #[.val (.int p1), .val (.int (p1 &&& (3 : Int32))), .unset, .unset] [(.ref w_ACTIVE)]))
    refine own_astoreN (l' := #[.val (.int p1), .val (.int (p1 &&& (3 : Int32))), .val (.ref w_ACTIVE), .unset]) (pc' := 9) K X1 at_8 rfl rfl rfl ?_
    refine own_iloadN (pc' := 10) K X1 at_9 rfl rfl ?_
    refine own_ifNo (pc' := 13) K X1 at_10 (teq c0).2 rfl ?_
    refine own_iconst (v := (1 : Int32)) (pc' := 14) K X1 at_13 rfl rfl ?_
    refine own_istoreN (l' := #[.val (.int p1), .val (.int (p1 &&& (3 : Int32))), .val (.ref w_ACTIVE), .val (.int (1 : Int32))]) (pc' := 15) K X1 at_14 rfl rfl ?_
    refine own_goto (pc' := 40) K X1 at_15 (by decide) (by decide) ?_
    refine own_aloadN (pc' := 41) K X1 at_40 rfl rfl rfl ?_
    refine own_callV (pc' := 44) (argsL := []) (rest := []) K X1 e1 (own_w hw 7 rfl) (own_w hw 8 rfl) (notFace_of_selects (args := #[]) (mvT K.2.2.1 (own_w hw 10 rfl))) (own_w hw 10 rfl) (own_w hw 9 rfl) (own_w hw 11 rfl) (own_w hw 5 rfl) E_ACTIVE (rm1 l Z a0 hw [] w_ACTIVE w_ACTIVE w_PAUSED 1 h0 n0 S_ACTIVE S_PAUSED (by rw [if_pos (Or.inl rfl)])) at_41 pd_1 rfl rfl rfl (by decide) (own_le rfl) (own_le rfl) (own_le rfl) (own_le rfl) rfl fun v2 T2 L2 X2 hQ2 => ?_
    obtain ⟨rfl, N2q, e2⟩ := hQ2
    have N2 := Fr.app N1 N2q
    show Go p e below _ (T2.setTop (mkF m 44 #[.val (.int p1), .val (.int (p1 &&& (3 : Int32))), .val (.ref w_ACTIVE), .val (.int (1 : Int32))] [(.int (1 : Int32))]))
    refine own_iloadN (pc' := 45) K X2 at_44 rfl rfl ?_
    refine own_icmpNo (pc' := 48) K X2 at_45 rfl rfl ?_
    refine own_iconst (v := (1 : Int32)) (pc' := 49) K X2 at_48 rfl rfl ?_
    refine own_goto (pc' := 53) K X2 at_49 (by decide) (by decide) ?_
    exact own_retN (t := .boolean) (z' := (1 : Int32)) K X2 hrt hlk (by simp) rfl at_53 (own_le rfl) (own_le rfl) (by (try rw [e2]); exact ⟨rfl, N2⟩)
  · by_cases c1 : (p1 &&& (3 : Int32)) = (1 : Int32)
    · refine own_callS (pc' := 8) (argsL := [(.int (p1 &&& (3 : Int32)))]) (rest := []) K X0 e0 (own_w hw 0 rfl) (own_w hw 1 rfl) (own_w hw 2 rfl) (own_w hw 3 rfl) (rm2 l Z a0 hw [] (p1 &&& (3 : Int32)) w_ACTIVE w_DEGRADED w_DISABLED w_PAUSED w_DEGRADED h0 n0 S_ACTIVE S_DEGRADED S_DISABLED S_PAUSED (by rw [if_neg c0, if_pos c1])) at_5 pd_0 rfl rfl rfl (by decide) (own_le rfl) (own_le rfl) (own_le rfl) (own_le rfl) rfl fun v3 T3 L3 X3 hQ3 => ?_
      obtain ⟨rfl, N3q, e3⟩ := hQ3
      have N3 := Fr.app N0 N3q
      show Go p e below _ (T3.setTop (mkF m 8 #[.val (.int p1), .val (.int (p1 &&& (3 : Int32))), .unset, .unset] [(.ref w_DEGRADED)]))
      refine own_astoreN (l' := #[.val (.int p1), .val (.int (p1 &&& (3 : Int32))), .val (.ref w_DEGRADED), .unset]) (pc' := 9) K X3 at_8 rfl rfl rfl ?_
      refine own_iloadN (pc' := 10) K X3 at_9 rfl rfl ?_
      refine own_ifYes (pc' := 18) K X3 at_10 (feq c0).2 (by decide) (by decide) ?_
      refine own_iloadN (pc' := 19) K X3 at_18 rfl rfl ?_
      refine own_iconst (v := (1 : Int32)) (pc' := 20) K X3 at_19 rfl rfl ?_
      refine own_icmpNo (pc' := 23) K X3 at_20 (teq c1).2 rfl ?_
      refine own_iconst (v := (0 : Int32)) (pc' := 24) K X3 at_23 rfl rfl ?_
      refine own_istoreN (l' := #[.val (.int p1), .val (.int (p1 &&& (3 : Int32))), .val (.ref w_DEGRADED), .val (.int (0 : Int32))]) (pc' := 25) K X3 at_24 rfl rfl ?_
      refine own_goto (pc' := 40) K X3 at_25 (by decide) (by decide) ?_
      refine own_aloadN (pc' := 41) K X3 at_40 rfl rfl rfl ?_
      refine own_callV (pc' := 44) (argsL := []) (rest := []) K X3 e3 (own_w hw 7 rfl) (own_w hw 8 rfl) (notFace_of_selects (args := #[]) (mvT K.2.2.1 (own_w hw 10 rfl))) (own_w hw 10 rfl) (own_w hw 9 rfl) (own_w hw 11 rfl) (own_w hw 5 rfl) E_DEGRADED (rm1 l Z a0 hw [] w_DEGRADED w_ACTIVE w_PAUSED 0 h0 n0 S_ACTIVE S_PAUSED (by rw [if_neg (fun h => h.elim ne_DEGRADED_ACTIVE ne_DEGRADED_PAUSED)])) at_41 pd_1 rfl rfl rfl (by decide) (own_le rfl) (own_le rfl) (own_le rfl) (own_le rfl) rfl fun v4 T4 L4 X4 hQ4 => ?_
      obtain ⟨rfl, N4q, e4⟩ := hQ4
      have N4 := Fr.app N3 N4q
      show Go p e below _ (T4.setTop (mkF m 44 #[.val (.int p1), .val (.int (p1 &&& (3 : Int32))), .val (.ref w_DEGRADED), .val (.int (0 : Int32))] [(.int (0 : Int32))]))
      refine own_iloadN (pc' := 45) K X4 at_44 rfl rfl ?_
      refine own_icmpNo (pc' := 48) K X4 at_45 rfl rfl ?_
      refine own_iconst (v := (1 : Int32)) (pc' := 49) K X4 at_48 rfl rfl ?_
      refine own_goto (pc' := 53) K X4 at_49 (by decide) (by decide) ?_
      exact own_retN (t := .boolean) (z' := (1 : Int32)) K X4 hrt hlk (by simp) rfl at_53 (own_le rfl) (own_le rfl) (by (try rw [e4]); exact ⟨rfl, N4⟩)
    · by_cases c2 : (p1 &&& (3 : Int32)) = (2 : Int32)
      · refine own_callS (pc' := 8) (argsL := [(.int (p1 &&& (3 : Int32)))]) (rest := []) K X0 e0 (own_w hw 0 rfl) (own_w hw 1 rfl) (own_w hw 2 rfl) (own_w hw 3 rfl) (rm2 l Z a0 hw [] (p1 &&& (3 : Int32)) w_ACTIVE w_DEGRADED w_DISABLED w_PAUSED w_DISABLED h0 n0 S_ACTIVE S_DEGRADED S_DISABLED S_PAUSED (by rw [if_neg c0, if_neg c1, if_pos c2])) at_5 pd_0 rfl rfl rfl (by decide) (own_le rfl) (own_le rfl) (own_le rfl) (own_le rfl) rfl fun v5 T5 L5 X5 hQ5 => ?_
        obtain ⟨rfl, N5q, e5⟩ := hQ5
        have N5 := Fr.app N0 N5q
        show Go p e below _ (T5.setTop (mkF m 8 #[.val (.int p1), .val (.int (p1 &&& (3 : Int32))), .unset, .unset] [(.ref w_DISABLED)]))
        refine own_astoreN (l' := #[.val (.int p1), .val (.int (p1 &&& (3 : Int32))), .val (.ref w_DISABLED), .unset]) (pc' := 9) K X5 at_8 rfl rfl rfl ?_
        refine own_iloadN (pc' := 10) K X5 at_9 rfl rfl ?_
        refine own_ifYes (pc' := 18) K X5 at_10 (feq c0).2 (by decide) (by decide) ?_
        refine own_iloadN (pc' := 19) K X5 at_18 rfl rfl ?_
        refine own_iconst (v := (1 : Int32)) (pc' := 20) K X5 at_19 rfl rfl ?_
        refine own_icmpYes (pc' := 28) K X5 at_20 (feq c1).2 (by decide) (by decide) ?_
        refine own_iloadN (pc' := 29) K X5 at_28 rfl rfl ?_
        refine own_iconst (v := (2 : Int32)) (pc' := 30) K X5 at_29 rfl rfl ?_
        refine own_icmpNo (pc' := 33) K X5 at_30 (teq c2).2 rfl ?_
        refine own_iconst (v := (0 : Int32)) (pc' := 34) K X5 at_33 rfl rfl ?_
        refine own_istoreN (l' := #[.val (.int p1), .val (.int (p1 &&& (3 : Int32))), .val (.ref w_DISABLED), .val (.int (0 : Int32))]) (pc' := 35) K X5 at_34 rfl rfl ?_
        refine own_goto (pc' := 40) K X5 at_35 (by decide) (by decide) ?_
        refine own_aloadN (pc' := 41) K X5 at_40 rfl rfl rfl ?_
        refine own_callV (pc' := 44) (argsL := []) (rest := []) K X5 e5 (own_w hw 7 rfl) (own_w hw 8 rfl) (notFace_of_selects (args := #[]) (mvT K.2.2.1 (own_w hw 10 rfl))) (own_w hw 10 rfl) (own_w hw 9 rfl) (own_w hw 11 rfl) (own_w hw 5 rfl) E_DISABLED (rm1 l Z a0 hw [] w_DISABLED w_ACTIVE w_PAUSED 0 h0 n0 S_ACTIVE S_PAUSED (by rw [if_neg (fun h => h.elim ne_DISABLED_ACTIVE ne_DISABLED_PAUSED)])) at_41 pd_1 rfl rfl rfl (by decide) (own_le rfl) (own_le rfl) (own_le rfl) (own_le rfl) rfl fun v6 T6 L6 X6 hQ6 => ?_
        obtain ⟨rfl, N6q, e6⟩ := hQ6
        have N6 := Fr.app N5 N6q
        show Go p e below _ (T6.setTop (mkF m 44 #[.val (.int p1), .val (.int (p1 &&& (3 : Int32))), .val (.ref w_DISABLED), .val (.int (0 : Int32))] [(.int (0 : Int32))]))
        refine own_iloadN (pc' := 45) K X6 at_44 rfl rfl ?_
        refine own_icmpNo (pc' := 48) K X6 at_45 rfl rfl ?_
        refine own_iconst (v := (1 : Int32)) (pc' := 49) K X6 at_48 rfl rfl ?_
        refine own_goto (pc' := 53) K X6 at_49 (by decide) (by decide) ?_
        exact own_retN (t := .boolean) (z' := (1 : Int32)) K X6 hrt hlk (by simp) rfl at_53 (own_le rfl) (own_le rfl) (by (try rw [e6]); exact ⟨rfl, N6⟩)
      · refine own_callS (pc' := 8) (argsL := [(.int (p1 &&& (3 : Int32)))]) (rest := []) K X0 e0 (own_w hw 0 rfl) (own_w hw 1 rfl) (own_w hw 2 rfl) (own_w hw 3 rfl) (rm2 l Z a0 hw [] (p1 &&& (3 : Int32)) w_ACTIVE w_DEGRADED w_DISABLED w_PAUSED w_PAUSED h0 n0 S_ACTIVE S_DEGRADED S_DISABLED S_PAUSED (by rw [if_neg c0, if_neg c1, if_neg c2])) at_5 pd_0 rfl rfl rfl (by decide) (own_le rfl) (own_le rfl) (own_le rfl) (own_le rfl) rfl fun v7 T7 L7 X7 hQ7 => ?_
        obtain ⟨rfl, N7q, e7⟩ := hQ7
        have N7 := Fr.app N0 N7q
        show Go p e below _ (T7.setTop (mkF m 8 #[.val (.int p1), .val (.int (p1 &&& (3 : Int32))), .unset, .unset] [(.ref w_PAUSED)]))
        refine own_astoreN (l' := #[.val (.int p1), .val (.int (p1 &&& (3 : Int32))), .val (.ref w_PAUSED), .unset]) (pc' := 9) K X7 at_8 rfl rfl rfl ?_
        refine own_iloadN (pc' := 10) K X7 at_9 rfl rfl ?_
        refine own_ifYes (pc' := 18) K X7 at_10 (feq c0).2 (by decide) (by decide) ?_
        refine own_iloadN (pc' := 19) K X7 at_18 rfl rfl ?_
        refine own_iconst (v := (1 : Int32)) (pc' := 20) K X7 at_19 rfl rfl ?_
        refine own_icmpYes (pc' := 28) K X7 at_20 (feq c1).2 (by decide) (by decide) ?_
        refine own_iloadN (pc' := 29) K X7 at_28 rfl rfl ?_
        refine own_iconst (v := (2 : Int32)) (pc' := 30) K X7 at_29 rfl rfl ?_
        refine own_icmpYes (pc' := 38) K X7 at_30 (feq c2).2 (by decide) (by decide) ?_
        refine own_iconst (v := (1 : Int32)) (pc' := 39) K X7 at_38 rfl rfl ?_
        refine own_istoreN (l' := #[.val (.int p1), .val (.int (p1 &&& (3 : Int32))), .val (.ref w_PAUSED), .val (.int (1 : Int32))]) (pc' := 40) K X7 at_39 rfl rfl ?_
        refine own_aloadN (pc' := 41) K X7 at_40 rfl rfl rfl ?_
        refine own_callV (pc' := 44) (argsL := []) (rest := []) K X7 e7 (own_w hw 7 rfl) (own_w hw 8 rfl) (notFace_of_selects (args := #[]) (mvT K.2.2.1 (own_w hw 10 rfl))) (own_w hw 10 rfl) (own_w hw 9 rfl) (own_w hw 11 rfl) (own_w hw 5 rfl) E_PAUSED (rm1 l Z a0 hw [] w_PAUSED w_ACTIVE w_PAUSED 1 h0 n0 S_ACTIVE S_PAUSED (by rw [if_pos (Or.inr rfl)])) at_41 pd_1 rfl rfl rfl (by decide) (own_le rfl) (own_le rfl) (own_le rfl) (own_le rfl) rfl fun v8 T8 L8 X8 hQ8 => ?_
        obtain ⟨rfl, N8q, e8⟩ := hQ8
        have N8 := Fr.app N7 N8q
        show Go p e below _ (T8.setTop (mkF m 44 #[.val (.int p1), .val (.int (p1 &&& (3 : Int32))), .val (.ref w_PAUSED), .val (.int (1 : Int32))] [(.int (1 : Int32))]))
        refine own_iloadN (pc' := 45) K X8 at_44 rfl rfl ?_
        refine own_icmpNo (pc' := 48) K X8 at_45 rfl rfl ?_
        refine own_iconst (v := (1 : Int32)) (pc' := 49) K X8 at_48 rfl rfl ?_
        refine own_goto (pc' := 53) K X8 at_49 (by decide) (by decide) ?_
        exact own_retN (t := .boolean) (z' := (1 : Int32)) K X8 hrt hlk (by simp) rfl at_53 (own_le rfl) (own_le rfl) (by (try rw [e8]); exact ⟨rfl, N8⟩)
set_option maxRecDepth 65536 in
set_option maxHeartbeats 40000000 in
theorem comes_1 {Post : Tables → Env → Array Value → State → Outcome → State → Prop} (hpost : ∀ tb e args s v u, (limb_1_1.after args s (.returned v) u = true ∧ limb_1_2.after args s (.returned v) u = true ∧ True) → FrameEnd s (.returned v) u (Jvm.fieldLocs frame_1_writes args s ++ Jvm.arrayLocs frame_1_arrays args s ++ Jvm.staticLocs frame_1_statics s) 0 0 → Post tb e args s (.returned v) u) :
    ArmFor flags0 classFile x code maxLocals ret World_1 tables_1 room_1 Calls_1 rest_1 Pre_1 Post := by
  intro l hfl _ _ p e ha hc hk s m args below hf hA hF happ hP
  obtain ⟨hcalls, hrest, hpre⟩ := hP
  obtain ⟨-, -, -, hnamed, -, -, -, hat⟩ := (Spec.applies_iff hf).mp happ
  obtain ⟨hg, hn⟩ := and_e (Cond.before_iff.mp (show (Jvm.Cond.and given_1 narrow_1).before args s = true from hpre))
  obtain ⟨gc, g0⟩ := and_e hg
  have gi0 := g0
  obtain ⟨w0, rfl⟩ : ∃ w0 : Value, args = #[w0] := by
    have hs : args.size = 1 := by simpa [Cond.value, given_1] using gc
    obtain ⟨L⟩ := args
    match L, hs with
    | [w0], _ => exact ⟨w0, rfl⟩
  have hw := fun d (hd : d ∈ tables_1) => atoms_spec (ws := Jvm.Cond.code x code maxLocals ret :: tables_1) hat d (List.mem_cons_of_mem _ hd)
  have hfit : Fit s := fun {y c} hc i hi => by
    obtain ⟨ha, rfl⟩ := Array.getElem?_eq_some_iff.mp hc
    have q := List.all_eq_true.mp ((Array.all_eq_true_iff_forall_mem.mp hF) _ (Array.getElem_mem ha)) i (List.mem_range.mpr hi)
    simpa [Array.getElem?_eq_getElem hi] using q
  obtain ⟨i0, ei0⟩ := is_v gi0
  obtain rfl : w0 = (.int i0) := Option.some.inj ei0
  obtain ⟨nw0, hn0⟩ := and_e hn
  obtain ⟨nw1, hn1⟩ := and_e hn0
  obtain ⟨nw2, hn2⟩ := and_e hn1
  obtain ⟨nw3, hn3⟩ := and_e hn2
  obtain ⟨nw4, hn4⟩ := and_e hn3
  obtain ⟨nw5, hn5⟩ := and_e hn4
  obtain ⟨nw6, hn6⟩ := and_e hn5
  have nw7 := hn6
  obtain ⟨w_ACTIVE, ev_ACTIVE⟩ := exa_v nw0
  have E_ACTIVE := Exa.start ev_ACTIVE nw0
  have S_ACTIVE := Sta.start ev_ACTIVE (Or.inr ⟨(own_w hw 5 rfl), (own_w hw 6 rfl)⟩)
  obtain ⟨w_PAUSED, ev_PAUSED⟩ := exa_v nw1
  have E_PAUSED := Exa.start ev_PAUSED nw1
  have S_PAUSED := Sta.start ev_PAUSED (Or.inr ⟨(own_w hw 5 rfl), (own_w hw 14 rfl)⟩)
  obtain ⟨w_DISABLED, ev_DISABLED⟩ := exa_v nw4
  have E_DISABLED := Exa.start ev_DISABLED nw4
  have S_DISABLED := Sta.start ev_DISABLED (Or.inr ⟨(own_w hw 5 rfl), (own_w hw 17 rfl)⟩)
  obtain ⟨w_DEGRADED, ev_DEGRADED⟩ := exa_v nw6
  have E_DEGRADED := Exa.start ev_DEGRADED nw6
  have S_DEGRADED := Sta.start ev_DEGRADED (Or.inr ⟨(own_w hw 5 rfl), (own_w hw 19 rfl)⟩)
  have F_PAUSED := own_fld ev_PAUSED nw2
  have F_ACTIVE := own_fld ev_ACTIVE nw3
  have F_DISABLED := own_fld ev_DISABLED nw5
  have F_DEGRADED := own_fld ev_DEGRADED nw7
  obtain ⟨n, o, h1, h2, h3, _, L, rfl, ⟨rfl, N⟩, hq⟩ := rm0 l s _ hw tables_1 i0 w_ACTIVE w_DEGRADED w_DISABLED w_PAUSED s.heap s.heap.size S_ACTIVE S_DEGRADED S_DISABLED S_PAUSED E_ACTIVE E_DEGRADED E_DISABLED E_PAUSED (F_DEGRADED.ne F_ACTIVE (by simp)) (F_DEGRADED.ne F_PAUSED (by simp)) (F_DISABLED.ne F_ACTIVE (by simp)) (F_DISABLED.ne F_PAUSED (by simp)) p e ha hc hk s m _ below hf ((Spec.applies_iff_loose hf).mp happ).1 ⟨rfl, State.Warmed39.refl s, rfl⟩ trivial
  refine ⟨n, _, h1, h2, h3, hpost _ _ _ _ _ _ ⟨Cond.after_iff.mpr rfl, Cond.after_iff.mpr (eq_i res_at (Term.int_eval (1)) rfl), trivial⟩ ⟨hq.1, hq.2.1, (hq.2.2.sift fun y hy => Or.inr (N y hy)).mono (by decide) (by decide)⟩⟩
theorem main_1_1 : Claimed_1_1 := comes_1 fun _ _ _ _ _ _ h hF => ⟨h.1, hF⟩
theorem main_1_2 : Claimed_1_2 := comes_1 fun _ _ _ _ _ _ h hF => ⟨h.2.1, hF⟩
end Jvm.Pilot.@@N@@
namespace Jvm.Pilot.@@N@@
open Jvm Jvm.ClassFile Sem Op Lib Jvm.Free Jvm.Stand Jvm.Pilot.@@N@@.Jvm.D
/-! MADE BY PROGRAM (witnessworld.py) out of the Statement's table words and the real class files: 12 classes; the members and pool entries that the words name. The judged class is class 1, her method 2. -/
namespace start1
open Jvm.ClassFile
def u (s : String) : CpInfo := .utf8 (stringToUtf16 s)
/-- a pool by its gaps: so many unusable entries, then the entry; so many at the end -/
def gap : Nat → List CpInfo → List CpInfo
  | 0, r => r
  | n + 1, r => .unusable :: gap n r
def poolList (es : List (Nat × CpInfo)) (last : Nat) : List CpInfo := es.foldr (fun e r => gap e.1 (e.2 :: r)) (gap last [])
def pool (es : List (Nat × CpInfo)) (last : Nat) : Array CpInfo := ⟨poolList es last⟩
def fileOf (pool : Array CpInfo) (this : Nat) (attrs : Array Attribute := #[]) (ms : Array MethodInfo := #[]) (fl : Nat := 33) (sup : Nat := 0) (ifs : Array Nat := #[]) (fds : Array FieldInfo := #[]) : ClassFile where
  minorVersion := 0
  majorVersion := 65
  constantPool := pool
  accessFlags := fl
  thisClass := this
  superClass := sup
  interfaces := ifs
  fields := fds
  methods := ms
  attributes := attrs
def plain (name : String) (sup : Option ClassId) : Class where
  name := name
  kind := .ordinary
  loader := none
  accessFlags := 33
  super := sup
  interfaces := #[]
  cf := none
  fields := #[]
  methods := #[]
  instanceTypes := #[]
  staticTypes := #[]
  resolved := #[]
  callSites := []
  init := .initialized
  statics := none
  mirror := none

def pool0 : Array CpInfo := pool [(5, u "<init>"), (0, u "()V"), (1, .class_ 10), (1, u "java/lang/Object")] 113

def k0m0 : Method := { name := "<init>", desc := "()V", sig := { parameters := [], returnType := none }, accessFlags := 1, code := none }
/-- java/lang/Object -/
def k0 : Class := { plain "java/lang/Object" none with
  accessFlags := 33
  interfaces := #[]
  cf := some (fileOf pool0 8 #[] #[{ accessFlags := 1, nameIndex := 5, descriptorIndex := 6, attributes := #[] }] 33 0 #[] #[])
  fields := #[]
  methods := #[k0m0]
  instanceTypes := #[]
  staticTypes := #[]
  resolved := Array.replicate 124 none
  statics := none }

def pool1 : Array CpInfo := pool [(2, .class_ 4), (1, u "java/lang/Object"), (0, u "<init>"), (0, u "()V"), (0, .fieldref 8 9), (0, .class_ 10), (0, .nameAndType 11 12), (0, u "com/example/punctual_post/punctualpost/model/EndpointStatus"), (0, u "ACTIVE"), (0, u "Lcom/example/punctual_post/punctualpost/model/EndpointStatus;"), (0, .fieldref 8 14), (0, .nameAndType 15 12), (0, u "DEGRADED"), (0, .fieldref 8 17), (0, .nameAndType 18 12), (0, u "DISABLED"), (0, .fieldref 8 20), (0, .nameAndType 21 12), (0, u "PAUSED"), (0, .methodref 23 24), (0, .class_ 25), (0, .nameAndType 26 27), (0, u "com/example/punctual_post/punctualpost/model/EndpointStatusSetByHandPinLaw"), (0, u "pick"), (0, u "(I)Lcom/example/punctual_post/punctualpost/model/EndpointStatus;"), (0, .methodref 8 29), (0, .nameAndType 30 31), (0, u "setByHand"), (0, u "()Z"), (3, u "law"), (0, u "(I)Z")] 2

def k1m0 : Method := { name := "<init>", desc := "()V", sig := { parameters := [], returnType := none }, accessFlags := 2, code := none }
def k1c1 : Code := { maxStack := 2, maxLocals := 1, code := method_2_code, exceptionTable := #[], attributes := #[] }
def k1m1 : Method := { name := "pick", desc := "(I)Lcom/example/punctual_post/punctualpost/model/EndpointStatus;", sig := { parameters := [.int], returnType := some (.object "com/example/punctual_post/punctualpost/model/EndpointStatus") }, accessFlags := 10, code := some k1c1 }
def k1c2 : Code := { maxStack := 2, maxLocals := 4, code := code, exceptionTable := #[], attributes := #[] }
def k1m2 : Method := { name := "law", desc := "(I)Z", sig := { parameters := [.int], returnType := some .boolean }, accessFlags := 9, code := some k1c2 }
/-- com/example/punctual_post/punctualpost/model/EndpointStatusSetByHandPinLaw -/
def k1 : Class := { plain "com/example/punctual_post/punctualpost/model/EndpointStatusSetByHandPinLaw" (some 0) with
  accessFlags := 49
  interfaces := #[]
  cf := some (fileOf pool1 23 #[] #[{ accessFlags := 2, nameIndex := 5, descriptorIndex := 6, attributes := #[] }, { accessFlags := 10, nameIndex := 26, descriptorIndex := 27, attributes := #[] }, { accessFlags := 9, nameIndex := 35, descriptorIndex := 36, attributes := #[] }] 49 2 #[] #[])
  fields := #[]
  methods := #[k1m0, k1m1, k1m2]
  instanceTypes := #[]
  staticTypes := #[]
  resolved := Array.replicate 39 none
  statics := none }

def pool2 : Array CpInfo := pool [(1, .class_ 2), (0, u "java/lang/constant/Constable"), (0, .class_ 4), (0, u "java/lang/Object")] 6

/-- java/lang/constant/Constable -/
def k2 : Class := { plain "java/lang/constant/Constable" (some 0) with
  accessFlags := 1537
  interfaces := #[]
  cf := some (fileOf pool2 1 #[] #[] 1537 3 #[] #[])
  fields := #[]
  methods := #[]
  instanceTypes := #[]
  staticTypes := #[]
  resolved := Array.replicate 11 none
  statics := none }

def pool3 : Array CpInfo := pool [(1, .class_ 2), (0, u "java/lang/Comparable"), (0, .class_ 4), (0, u "java/lang/Object")] 7

/-- java/lang/Comparable -/
def k3 : Class := { plain "java/lang/Comparable" (some 0) with
  accessFlags := 1537
  interfaces := #[]
  cf := some (fileOf pool3 1 #[] #[] 1537 3 #[] #[])
  fields := #[]
  methods := #[]
  instanceTypes := #[]
  staticTypes := #[]
  resolved := Array.replicate 12 none
  statics := none }

def pool4 : Array CpInfo := pool [(1, .class_ 2), (0, u "java/io/Serializable"), (0, .class_ 4), (0, u "java/lang/Object")] 2

/-- java/io/Serializable -/
def k4 : Class := { plain "java/io/Serializable" (some 0) with
  accessFlags := 1537
  interfaces := #[]
  cf := some (fileOf pool4 1 #[] #[] 1537 3 #[] #[])
  fields := #[]
  methods := #[]
  instanceTypes := #[]
  staticTypes := #[]
  resolved := Array.replicate 7 none
  statics := none }

def pool5 : Array CpInfo := pool [(2, .class_ 4), (1, u "java/lang/Enum"), (0, u "name"), (0, u "Ljava/lang/String;"), (2, u "ordinal"), (0, u "I"), (1, .class_ 14), (1, u "java/lang/Object"), (4, u "hash"), (86, .class_ 108), (1, u "java/lang/Enum$EnumDesc"), (2, .class_ 112), (0, u "java/lang/constant/Constable"), (0, .class_ 114), (0, u "java/lang/Comparable"), (0, .class_ 116), (0, u "java/io/Serializable")] 87

/-- java/lang/Enum -/
def k5 : Class := { plain "java/lang/Enum" (some 0) with
  accessFlags := 1057
  interfaces := #[2, 3, 4]
  cf := some (fileOf pool5 2 #[.nestMembers #[106]] #[] 1057 12 #[111, 113, 115] #[{ accessFlags := 18, nameIndex := 5, descriptorIndex := 6, attributes := #[] }, { accessFlags := 18, nameIndex := 9, descriptorIndex := 10, attributes := #[] }, { accessFlags := 2, nameIndex := 19, descriptorIndex := 10, attributes := #[] }])
  fields := #[{ name := "name", type := (.object "java/lang/String"), accessFlags := 18, slot := 0, constantValue := 0 }, { name := "ordinal", type := .int, accessFlags := 18, slot := 1, constantValue := 0 }, { name := "hash", type := .int, accessFlags := 2, slot := 2, constantValue := 0 }]
  methods := #[]
  instanceTypes := #[(.object "java/lang/String"), .int, .int]
  staticTypes := #[]
  resolved := Array.replicate 204 none
  statics := none }

def pool6 : Array CpInfo := pool [(1, .class_ 2), (0, u "com/example/punctual_post/punctualpost/model/EndpointStatus"), (0, .fieldref 1 4), (0, .nameAndType 5 6), (0, u "ACTIVE"), (0, u "Lcom/example/punctual_post/punctualpost/model/EndpointStatus;"), (2, u "DEGRADED"), (2, u "DISABLED"), (0, .fieldref 1 14), (0, .nameAndType 15 6), (0, u "PAUSED"), (2, u "$VALUES"), (0, u "[Lcom/example/punctual_post/punctualpost/model/EndpointStatus;"), (6, .class_ 28), (1, u "java/lang/Enum"), (23, u "()Z"), (1, u "setByHand")] 4

def k6c0 : Code := { maxStack := 2, maxLocals := 1, code := prog_19_method_5_code, exceptionTable := #[], attributes := #[] }
def k6m0 : Method := { name := "setByHand", desc := "()Z", sig := { parameters := [], returnType := some .boolean }, accessFlags := 1, code := some k6c0 }
/-- com/example/punctual_post/punctualpost/model/EndpointStatus -/
def k6 : Class := { plain "com/example/punctual_post/punctualpost/model/EndpointStatus" (some 5) with
  accessFlags := 16433
  interfaces := #[]
  cf := some (fileOf pool6 1 #[] #[{ accessFlags := 1, nameIndex := 54, descriptorIndex := 52, attributes := #[] }] 16433 26 #[] #[{ accessFlags := 16409, nameIndex := 5, descriptorIndex := 6, attributes := #[] }, { accessFlags := 16409, nameIndex := 9, descriptorIndex := 6, attributes := #[] }, { accessFlags := 16409, nameIndex := 12, descriptorIndex := 6, attributes := #[] }, { accessFlags := 16409, nameIndex := 15, descriptorIndex := 6, attributes := #[] }, { accessFlags := 4122, nameIndex := 18, descriptorIndex := 19, attributes := #[] }])
  fields := #[{ name := "ACTIVE", type := (.object "com/example/punctual_post/punctualpost/model/EndpointStatus"), accessFlags := 16409, slot := 0, constantValue := 0 }, { name := "DEGRADED", type := (.object "com/example/punctual_post/punctualpost/model/EndpointStatus"), accessFlags := 16409, slot := 1, constantValue := 0 }, { name := "DISABLED", type := (.object "com/example/punctual_post/punctualpost/model/EndpointStatus"), accessFlags := 16409, slot := 2, constantValue := 0 }, { name := "PAUSED", type := (.object "com/example/punctual_post/punctualpost/model/EndpointStatus"), accessFlags := 16409, slot := 3, constantValue := 0 }, { name := "$VALUES", type := (.array (.object "com/example/punctual_post/punctualpost/model/EndpointStatus")), accessFlags := 4122, slot := 4, constantValue := 0 }]
  methods := #[k6m0]
  instanceTypes := #[(.object "java/lang/String"), .int, .int]
  staticTypes := #[(.object "com/example/punctual_post/punctualpost/model/EndpointStatus"), (.object "com/example/punctual_post/punctualpost/model/EndpointStatus"), (.object "com/example/punctual_post/punctualpost/model/EndpointStatus"), (.object "com/example/punctual_post/punctualpost/model/EndpointStatus"), (.array (.object "com/example/punctual_post/punctualpost/model/EndpointStatus"))]
  resolved := Array.replicate 59 none
  statics := some 0 }

def pool7 : Array CpInfo := pool [(1, u "java/lang/Cloneable"), (0, .class_ 1), (0, u "java/lang/Object"), (0, .class_ 3)] 3

/-- java/lang/Cloneable -/
def k7 : Class := { plain "java/lang/Cloneable" (some 0) with
  accessFlags := 1537
  interfaces := #[]
  cf := some (fileOf pool7 2 #[] #[] 1537 4 #[] #[])
  fields := #[]
  methods := #[]
  instanceTypes := #[]
  staticTypes := #[]
  resolved := Array.replicate 8 none
  statics := none }

/-- the primitive byte -/
def k8 : Class := { plain "byte" none with kind := .primitive 'B', accessFlags := 0x411 }
/-- [B -/
def k9 : Class := { plain "[B" (some 0) with kind := .array 8 .byte, interfaces := #[7, 4], accessFlags := 1041 }

/-- the primitive int -/
def k10 : Class := { plain "int" none with kind := .primitive 'I', accessFlags := 0x411 }
/-- [I -/
def k11 : Class := { plain "[I" (some 0) with kind := .array 10 .int, interfaces := #[7, 4], accessFlags := 1041 }

def heap : Heap := #[{ cls := 6, slots := #[.ref 1, .ref 2, .ref 3, .ref 4, .null], vm := .statics 6 },
  { cls := 6, slots := #[.null, .int 0, .int 0], vm := .none },
  { cls := 6, slots := #[.null, .int 1, .int 0], vm := .none },
  { cls := 6, slots := #[.null, .int 2, .int 0], vm := .none },
  { cls := 6, slots := #[.null, .int 3, .int 0], vm := .none }]
def classes : Array Class := #[k0, k1, k2, k3, k4, k5, k6, k7, k8, k9, k10, k11]
def interned : List (Array UInt16 × Addr) := []
def slotsUsed : Nat := 17
def theMethod : MethodId := ⟨1, 2⟩
def args0 : Array Value := #[.int 5]
def aboutOver (below : List Frame) : State where
  vm := { classes := classes, interned := interned.toArray }
  heap := heap
  slotsUsed := slotsUsed
  threads := #[{ frames := .invoking theMethod args0 :: below }]
def below0 : List Frame := [.native { method := ⟨0, 0⟩, args := #[] }]
def about1 : State := aboutOver below0
def p0 : Program := .bare "" "" ""
def e0 : Env := launch0.env 0 0 0
theorem w_frames : about1.frames = Frame.invoking theMethod args0 :: below0 := rfl
set_option maxRecDepth 65536 in
theorem w_args : argsFit about1.vm theMethod args0 = true := by decide +kernel
set_option maxRecDepth 65536 in
theorem w_heap : heapFits about1 = true := by decide +kernel
set_option maxRecDepth 65536 in
theorem w_runnable : about1.curStatus? = some .runnable := by decide +kernel
set_option maxRecDepth 65536 in
theorem w_alone : about1.alone = true := by decide +kernel
set_option maxRecDepth 65536 in
theorem w_named : about1.methodNamed? x = some theMethod := by decide +kernel
set_option maxRecDepth 65536 in
theorem w_hears : about1.hears theMethod below0 = true := by decide +kernel
set_option maxRecDepth 65536 in
theorem w_ripe : about1.ripe theMethod args0 below0 = true := by decide +kernel
theorem w_running : about1.status = .running := rfl
set_option maxRecDepth 65536 in
theorem w_room : about1.hasRoom e0.platform room_1 = true :=
  launch0.hasRoom_least _ room_1 (by decide +kernel) (by decide +kernel) (by decide +kernel) (by decide +kernel) (by decide +kernel) (by decide +kernel)
theorem allAtoms_all (ts : List Jvm.Cond) (a : Array Jvm.Value) (st : Jvm.State) : (allAtoms ts).before a st = ts.all (fun c => c.before a st) := by
  induction ts with
  | nil => rfl
  | cons c t ih =>
    show (Jvm.Cond.and c (allAtoms t)).before a st = _
    rw [Jvm.Cond.before_and, ih, List.all_cons]
def words1 : List Jvm.Cond := Jvm.Cond.code x code maxLocals ret :: tables_1
/-- a 'code' word, met by the world's own term for the bytes: nothing is compared byte by byte -/
theorem code_word {y : MethodName} {bytes : ByteArray} {mx : Nat} {rt : Option FieldType} {a : Array Value} {s : State} {m : MethodId} {meth : Method} {c : Code} (h1 : s.methodNamed? y = some m) (h2 : s.vm.method? m = some meth) (h3 : meth.code = some c) (h4 : c.code = bytes)
    (h5 : (c.maxLocals == mx && c.exceptionTable.isEmpty && decide (c.maxStack ≤ mostOperands) && decide (meth.sig.returnType = rt) && !meth.locks && decide (parseMethodDescriptor y.desc = some meth.sig)) = true) : (Jvm.Cond.code y bytes mx rt).before a s = true := by
  simp only [Bool.and_eq_true, beq_iff_eq, Bool.not_eq_true', decide_eq_true_eq] at h5
  obtain ⟨⟨⟨⟨⟨g1, g2⟩, g3⟩, g4⟩, g5⟩, g6⟩ := h5
  simp [Cond.before, Cond.holds, Cond.value, h1, h2, h3, h4, g1, g2, g3, g4, g5, g6]
def isCode : Jvm.Cond → Bool
  | .code _ _ _ _ => true
  | _ => false
theorem all_split {L : List Jvm.Cond} {P : Jvm.Cond → Bool} (h1 : L.all (fun c => isCode c || P c) = true) (h2 : ∀ c ∈ L.filter isCode, P c = true) : L.all P = true := by
  refine List.all_eq_true.mpr fun c hc => ?_
  have h := List.all_eq_true.mp h1 c hc
  rcases Bool.eq_false_or_eq_true (isCode c) with hi | hi
  · exact h2 c (List.mem_filter.mpr ⟨hc, hi⟩)
  · simpa [hi] using h
set_option maxRecDepth 65536 in
theorem w_c0 : (Jvm.Cond.code x code maxLocals ret).before args0 about1 = true := code_word (m := ⟨1, 2⟩) (meth := k1m2) (c := k1c2) (by decide +kernel) rfl rfl rfl (by decide +kernel)
set_option maxRecDepth 65536 in
theorem w_c1 : (Jvm.Cond.code ({ cls := "com/example/punctual_post/punctualpost/model/EndpointStatusSetByHandPinLaw", name := "pick", desc := "(I)Lcom/example/punctual_post/punctualpost/model/EndpointStatus;" } : Jvm.MethodName) method_2_code (1 : Nat) (Option.some (Jvm.ClassFile.FieldType.object "com/example/punctual_post/punctualpost/model/EndpointStatus"))).before args0 about1 = true := code_word (m := ⟨1, 1⟩) (meth := k1m1) (c := k1c1) (by decide +kernel) rfl rfl rfl (by decide +kernel)
set_option maxRecDepth 65536 in
theorem w_c2 : (Jvm.Cond.code ({ cls := "com/example/punctual_post/punctualpost/model/EndpointStatus", name := "setByHand", desc := "()Z" } : Jvm.MethodName) prog_19_method_5_code (1 : Nat) (Option.some Jvm.ClassFile.FieldType.boolean)).before args0 about1 = true := code_word (m := ⟨6, 0⟩) (meth := k6m0) (c := k6c0) (by decide +kernel) rfl rfl rfl (by decide +kernel)
def codes1 : List Jvm.Cond := [Jvm.Cond.code x code maxLocals ret, Jvm.Cond.code ({ cls := "com/example/punctual_post/punctualpost/model/EndpointStatusSetByHandPinLaw", name := "pick", desc := "(I)Lcom/example/punctual_post/punctualpost/model/EndpointStatus;" } : Jvm.MethodName) method_2_code (1 : Nat) (Option.some (Jvm.ClassFile.FieldType.object "com/example/punctual_post/punctualpost/model/EndpointStatus")), Jvm.Cond.code ({ cls := "com/example/punctual_post/punctualpost/model/EndpointStatus", name := "setByHand", desc := "()Z" } : Jvm.MethodName) prog_19_method_5_code (1 : Nat) (Option.some Jvm.ClassFile.FieldType.boolean)]
set_option maxRecDepth 65536 in
theorem codes_eq : words1.filter isCode = codes1 := rfl
theorem w_codes : ∀ c ∈ words1.filter isCode, c.before args0 about1 = true := by
  rw [codes_eq]
  intro c hc
  simp only [codes1, List.mem_cons, List.not_mem_nil, or_false] at hc
  rcases hc with rfl | rfl | rfl
  · exact w_c0
  · exact w_c1
  · exact w_c2
set_option maxRecDepth 65536 in
theorem w_t1 : words1.all (fun c => isCode c || c.before args0 about1) = true := by decide +kernel
theorem w_tables : (allAtoms (Jvm.Cond.code x code maxLocals ret :: tables_1)).before args0 about1 = true := by
  rw [allAtoms_all]
  show words1.all (fun c => c.before args0 about1) = true
  refine all_split ?_ w_codes
  rw [w_t1]
set_option maxRecDepth 65536 in
theorem w_case : (Jvm.Cond.and given_1 narrow_1).before args0 about1 = true := by decide +kernel
theorem w_applies : (headSpec (Jvm.Cond.code x code maxLocals ret :: tables_1) room_1).applies x e0.platform about1 = true :=
  (Spec.applies_iff w_frames).mpr ⟨w_running, w_runnable, w_alone, w_named, w_hears, w_ripe, w_room, w_tables⟩
theorem atStart : AtStart classFile x code maxLocals ret World_1 tables_1 room_1 Calls_1 rest_1 Pre_1 launch0 p0 e0 about1 theMethod args0 below0 :=
  ⟨lists_1, trivial, launch0.admits_env _ _ _, launch0.least_env, fairChoices_fair.cas, fairChoices_fair.clock, w_frames, w_args, w_heap, w_applies, trivial, trivial, w_case⟩
end start1
theorem witness_1 : WitnessClaimed_1 := ⟨start1.p0, start1.e0, start1.about1, start1.theMethod, start1.args0, start1.below0, start1.atStart⟩
end Jvm.Pilot.@@N@@
