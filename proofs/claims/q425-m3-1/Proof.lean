import JvmDerived
import JvmDerived.Pilot.@@N@@Statement
import JvmDerived.Pilot.@@N@@Code
set_option linter.unusedVariables false
set_option linter.unusedSimpArgs false
namespace Jvm.Pilot.@@N@@
open Jvm Jvm.ClassFile Sem Op Lib Jvm.Free Jvm.Stand Jvm.LawKit Jvm.RoadKit Bundle Jvm.Pilot.@@N@@.Jvm.D
section Own
variable {p : Program} {l : Launch} {e : Env} {R : Room} {s : State} {m : MethodId} {args : Array Value} {below : List Frame} {meth : Method} {c : Code} {T : State} {locs : List Loc} {cells slots : Nat} {Z : State} {a0 : Array Value} {h : Heap} {W : Outcome → State → Prop} {B : ByteArray} {own : String} {ml : Nat} {pc pc' : Nat} {Ls : Array Slot} {st : List Value}
/-- the walk from T ends, and W holds of its end -/
def Go (p : Program) (e : Env) (below : List Frame) (W : Outcome → State → Prop) (T : State) : Prop := ∃ t o, Steps p.tables e below T t ∧ t.status = .running ∧ Ended t below o ∧ W o t
theorem Go.via {T' : State} (h : ∀ t, Steps p.tables e below T' t → Steps p.tables e below T t) (k : Go p e below W T') : Go p e below W T := by
  obtain ⟨t, o, s, r⟩ := k
  exact ⟨t, o, h t s, r⟩
def Ctx (p : Program) (s : State) (m : MethodId) (c : Code) (Z : State) (B : ByteArray) (own : String) (ml : Nat) : Prop := p.tables.exec = Jvm.exec ∧ c.code = B ∧ Z.Warmed39 s.vm ∧ s.vm.findClass own = some m.cls ∧ c.maxLocals = ml
theorem Ctx.at (K : Ctx p s m c Z B own ml) {r} (d : decode B pc = r) : decode c.code pc = r := K.2.1 ▸ d
def Con (l : Launch) (y : MethodName) (B : ByteArray) (ml : Nat) (rt : Option FieldType) (ws : List Jvm.Cond) (rm : Room) (Z : State) (as' : Array Value) (h0 : Heap) (Q : Option Value → Heap → List Loc → Prop) : Prop :=
  MetFree l y (head1 (Jvm.Cond.code y B ml rt :: ws) rm) (fun a U => a = as' ∧ Z.Warmed39 U.vm ∧ U.heap = h0) (fun _ _ _ _ _ => True) (fun _ U o U' => ∃ v L, o = .returned v ∧ Q v U'.heap L ∧ FrameEnd U o U' L rm.cells rm.slots)
/-- what a walk of a body owes at its end -/
def End (s : State) (R : Room) (Q : Option Value → Heap → List Loc → Prop) (o : Outcome) (U : State) : Prop := ∃ v L, o = .returned v ∧ Q v U.heap L ∧ FrameEnd s o U L R.cells R.slots
theorem own_enter {y : MethodName} {rt : Option FieldType} {ws : List Jvm.Cond} {rm : Room} {as' : Array Value} {h0 : Heap} {Q : Option Value → Heap → List Loc → Prop} (hpl : plainFor y = true) (hef : ∀ m, entryFrame m as' ml = mkF m 0 Ls [])
    (body : ∀ (p : Program) (e : Env) (s : State) (m : MethodId) (below : List Frame) (meth : Method) (c : Code) (T : State), Ctx p s m c Z B y.cls ml → Stand p l e rm s m as' below meth c T [] 0 0 → T.heap = h0 → meth.sig.returnType = rt → meth.locks = false → meth.name = y.name →
      Go p e below (End s rm Q) (T.setTop (mkF m 0 Ls []))) : Con l y B ml rt ws rm Z as' h0 Q := by
  refine MetFree.of_bodySF hpl hisR ?_
  intro p e s m args below meth c s₁ Bd hml0 hP hK
  obtain ⟨rfl, hZ, hh⟩ := hP
  have k := body p e s m below meth c s₁ ⟨Bd.exec, Bd.bytes, hZ, findClass_of_methodNamed Bd.named, hml0⟩ (Stand.of_body Bd) (by rw [← hh, Bd.state]; rfl) Bd.returns Bd.notSynchronized (name_of_methodNamed Bd.named Bd.method).1
  rw [← hef] at k
  exact k
theorem own_le {a b : Nat} (h : Nat.ble a b = true) : a ≤ b := Nat.le_of_ble_eq_true h
theorem own_sta_keep {h' : Heap} {C n d : String} {v : Value} (F : Sta Z h C n d v) (K : Keep h h' []) : Sta Z h' C n d v := by
  obtain ⟨cf, i, k, f, st, cell, h1, h2, h3, h4, h5, r⟩ := F
  exact ⟨cf, i, k, f, st, cell, h1, h2, h3, h4, K.2.1 _ _ h5 nin0, r⟩
theorem own_sto {h : Heap} {a y : Addr} {k : ClassId} {ty : FieldType} {n : Int32} {vs : List Value} {dv : Value} {C : String} (F : Arv Z h a k ty n vs dv) (O : Ovr Z k C) (I : Ins Z h y C true) : Sto Z h a (.ref y) := by
  obtain ⟨c, A, q, -⟩ := F
  exact Sto.ofV A q O I
theorem own_w {ts : List Jvm.Cond} (hw : ∀ d ∈ ts, d.before a0 Z = true) (i : Nat) {d : Jvm.Cond} (h : ts[i]? = some d) : d.before a0 Z = true := hw _ (List.mem_of_getElem? h)
theorem own_iloadN (K : Ctx p s m c Z B own ml) (X : Stand p l e R s m args below meth c T locs cells slots) {i : Fin 4} {v : Int32} (hd : decode B pc = .ok (.iload_n i, 1)) (hl : Ls[i.val]? = some (.val (.int v))) (hp : pc + 1 = pc') (k : Go p e below W (T.setTop (mkF m pc' Ls (.int v :: st)))) : Go p e below W (T.setTop (mkF m pc Ls st)) := by
  subst hp; exact k.via fun t k => XS.iloadN X.here K.1 rfl (K.at hd) hl k
theorem own_iload (K : Ctx p s m c Z B own ml) (X : Stand p l e R s m args below meth c T locs cells slots) {i : Nat} {v : Int32} (hd : decode B pc = .ok (.iload i, 2)) (hl : Ls[i]? = some (.val (.int v))) (hp : pc + 2 = pc') (k : Go p e below W (T.setTop (mkF m pc' Ls (.int v :: st)))) : Go p e below W (T.setTop (mkF m pc Ls st)) := by
  subst hp; exact k.via fun t k => XS.iload X.here K.1 rfl (K.at hd) hl k
theorem own_lloadN (K : Ctx p s m c Z B own ml) (X : Stand p l e R s m args below meth c T locs cells slots) {i : Fin 4} {v : Int64} (hd : decode B pc = .ok (.lload_n i, 1)) (hl : Ls[i.val]? = some (.val (.long v))) (hp : pc + 1 = pc') (k : Go p e below W (T.setTop (mkF m pc' Ls (.long v :: st)))) : Go p e below W (T.setTop (mkF m pc Ls st)) := by
  subst hp; exact k.via fun t k => XS.lloadN X.here K.1 rfl (K.at hd) hl k
theorem own_lload (K : Ctx p s m c Z B own ml) (X : Stand p l e R s m args below meth c T locs cells slots) {i : Nat} {v : Int64} (hd : decode B pc = .ok (.lload i, 2)) (hl : Ls[i]? = some (.val (.long v))) (hp : pc + 2 = pc') (k : Go p e below W (T.setTop (mkF m pc' Ls (.long v :: st)))) : Go p e below W (T.setTop (mkF m pc Ls st)) := by
  subst hp; exact k.via fun t k => XS.lload X.here K.1 rfl (K.at hd) hl k
theorem own_aloadN (K : Ctx p s m c Z B own ml) (X : Stand p l e R s m args below meth c T locs cells slots) {i : Fin 4} {v : Value} (hd : decode B pc = .ok (.aload_n i, 1)) (hl : Ls[i.val]? = some (.val v)) (hv : v.isRef = true) (hp : pc + 1 = pc') (k : Go p e below W (T.setTop (mkF m pc' Ls (v :: st)))) : Go p e below W (T.setTop (mkF m pc Ls st)) := by
  subst hp; exact k.via fun t k => XS.aloadN X.here K.1 rfl (K.at hd) hl hv k
theorem own_aload (K : Ctx p s m c Z B own ml) (X : Stand p l e R s m args below meth c T locs cells slots) {i : Nat} {v : Value} (hd : decode B pc = .ok (.aload i, 2)) (hl : Ls[i]? = some (.val v)) (hv : v.isRef = true) (hp : pc + 2 = pc') (k : Go p e below W (T.setTop (mkF m pc' Ls (v :: st)))) : Go p e below W (T.setTop (mkF m pc Ls st)) := by
  subst hp; exact k.via fun t k => XS.aload X.here K.1 rfl (K.at hd) hl hv k
theorem own_iconst (K : Ctx p s m c Z B own ml) (X : Stand p l e R s m args below meth c T locs cells slots) {i : Int} {v : Int32} (hd : decode B pc = .ok (.iconst i, 1)) (hv : Int32.ofInt i = v) (hp : pc + 1 = pc') (k : Go p e below W (T.setTop (mkF m pc' Ls (.int v :: st)))) : Go p e below W (T.setTop (mkF m pc Ls st)) := by
  subst hp hv; exact k.via fun t k => XS.iconst X.here K.1 rfl (K.at hd) k
theorem own_bipush (K : Ctx p s m c Z B own ml) (X : Stand p l e R s m args below meth c T locs cells slots) {i : Int} {v : Int32} (hd : decode B pc = .ok (.bipush i, 2)) (hv : (Int8.ofInt i).toInt32 = v) (hp : pc + 2 = pc') (k : Go p e below W (T.setTop (mkF m pc' Ls (.int v :: st)))) : Go p e below W (T.setTop (mkF m pc Ls st)) := by
  subst hp hv; exact k.via fun t k => XS.bipush X.here K.1 rfl (K.at hd) k
theorem own_sipush (K : Ctx p s m c Z B own ml) (X : Stand p l e R s m args below meth c T locs cells slots) {i : Int} {v : Int32} (hd : decode B pc = .ok (.sipush i, 3)) (hv : (Int16.ofInt i).toInt32 = v) (hp : pc + 3 = pc') (k : Go p e below W (T.setTop (mkF m pc' Ls (.int v :: st)))) : Go p e below W (T.setTop (mkF m pc Ls st)) := by
  subst hp hv; exact k.via fun t k => XS.sipush X.here K.1 rfl (K.at hd) k
theorem own_lconst (K : Ctx p s m c Z B own ml) (X : Stand p l e R s m args below meth c T locs cells slots) {i : Fin 2} {v : Int64} (hd : decode B pc = .ok (.lconst i, 1)) (hv : Int64.ofNat i = v) (hp : pc + 1 = pc') (k : Go p e below W (T.setTop (mkF m pc' Ls (.long v :: st)))) : Go p e below W (T.setTop (mkF m pc Ls st)) := by
  subst hp hv; exact k.via fun t k => XS.lconst X.here K.1 rfl (K.at hd) k
theorem own_aconst_null (K : Ctx p s m c Z B own ml) (X : Stand p l e R s m args below meth c T locs cells slots)  (hd : decode B pc = .ok (.aconst_null, 1))  (hp : pc + 1 = pc') (k : Go p e below W (T.setTop (mkF m pc' Ls (.null :: st)))) : Go p e below W (T.setTop (mkF m pc Ls st)) := by
  subst hp; exact k.via fun t k => XS.aconstNull X.here K.1 rfl (K.at hd) k
theorem own_iadd (K : Ctx p s m c Z B own ml) (X : Stand p l e R s m args below meth c T locs cells slots) {x y : Int32} (hd : decode B pc = .ok (.iadd, 1))  (hp : pc + 1 = pc') (k : Go p e below W (T.setTop (mkF m pc' Ls (.int (x + y) :: st)))) : Go p e below W (T.setTop (mkF m pc Ls (.int y :: .int x :: st))) := by
  subst hp; exact k.via fun t k => XS.iadd X.here K.1 rfl (K.at hd) rfl k
theorem own_isub (K : Ctx p s m c Z B own ml) (X : Stand p l e R s m args below meth c T locs cells slots) {x y : Int32} (hd : decode B pc = .ok (.isub, 1))  (hp : pc + 1 = pc') (k : Go p e below W (T.setTop (mkF m pc' Ls (.int (x - y) :: st)))) : Go p e below W (T.setTop (mkF m pc Ls (.int y :: .int x :: st))) := by
  subst hp; exact k.via fun t k => XS.isub X.here K.1 rfl (K.at hd) rfl k
theorem own_imul (K : Ctx p s m c Z B own ml) (X : Stand p l e R s m args below meth c T locs cells slots) {x y : Int32} (hd : decode B pc = .ok (.imul, 1))  (hp : pc + 1 = pc') (k : Go p e below W (T.setTop (mkF m pc' Ls (.int (x * y) :: st)))) : Go p e below W (T.setTop (mkF m pc Ls (.int y :: .int x :: st))) := by
  subst hp; exact k.via fun t k => XS.imul X.here K.1 rfl (K.at hd) rfl k
theorem own_iand (K : Ctx p s m c Z B own ml) (X : Stand p l e R s m args below meth c T locs cells slots) {x y : Int32} (hd : decode B pc = .ok (.iand, 1))  (hp : pc + 1 = pc') (k : Go p e below W (T.setTop (mkF m pc' Ls (.int (x &&& y) :: st)))) : Go p e below W (T.setTop (mkF m pc Ls (.int y :: .int x :: st))) := by
  subst hp; exact k.via fun t k => XS.iand X.here K.1 rfl (K.at hd) rfl k
theorem own_ior (K : Ctx p s m c Z B own ml) (X : Stand p l e R s m args below meth c T locs cells slots) {x y : Int32} (hd : decode B pc = .ok (.ior, 1))  (hp : pc + 1 = pc') (k : Go p e below W (T.setTop (mkF m pc' Ls (.int (x ||| y) :: st)))) : Go p e below W (T.setTop (mkF m pc Ls (.int y :: .int x :: st))) := by
  subst hp; exact k.via fun t k => XS.ior X.here K.1 rfl (K.at hd) rfl k
theorem own_ixor (K : Ctx p s m c Z B own ml) (X : Stand p l e R s m args below meth c T locs cells slots) {x y : Int32} (hd : decode B pc = .ok (.ixor, 1))  (hp : pc + 1 = pc') (k : Go p e below W (T.setTop (mkF m pc' Ls (.int (x ^^^ y) :: st)))) : Go p e below W (T.setTop (mkF m pc Ls (.int y :: .int x :: st))) := by
  subst hp; exact k.via fun t k => XS.ixor X.here K.1 rfl (K.at hd) rfl k
theorem own_ishl (K : Ctx p s m c Z B own ml) (X : Stand p l e R s m args below meth c T locs cells slots) {x y : Int32} (hd : decode B pc = .ok (.ishl, 1))  (hp : pc + 1 = pc') (k : Go p e below W (T.setTop (mkF m pc' Ls (.int (x <<< (y &&& 31)) :: st)))) : Go p e below W (T.setTop (mkF m pc Ls (.int y :: .int x :: st))) := by
  subst hp; exact k.via fun t k => XS.ishl X.here K.1 rfl (K.at hd) rfl k
theorem own_ishr (K : Ctx p s m c Z B own ml) (X : Stand p l e R s m args below meth c T locs cells slots) {x y : Int32} (hd : decode B pc = .ok (.ishr, 1))  (hp : pc + 1 = pc') (k : Go p e below W (T.setTop (mkF m pc' Ls (.int (x >>> (y &&& 31)) :: st)))) : Go p e below W (T.setTop (mkF m pc Ls (.int y :: .int x :: st))) := by
  subst hp; exact k.via fun t k => XS.ishr X.here K.1 rfl (K.at hd) rfl k
theorem own_iushr (K : Ctx p s m c Z B own ml) (X : Stand p l e R s m args below meth c T locs cells slots) {x y : Int32} (hd : decode B pc = .ok (.iushr, 1))  (hp : pc + 1 = pc') (k : Go p e below W (T.setTop (mkF m pc' Ls (.int (XT.ushr x y) :: st)))) : Go p e below W (T.setTop (mkF m pc Ls (.int y :: .int x :: st))) := by
  subst hp; exact k.via fun t k => XS.iushr X.here K.1 rfl (K.at hd) rfl k
theorem own_ladd (K : Ctx p s m c Z B own ml) (X : Stand p l e R s m args below meth c T locs cells slots) {x y : Int64} (hd : decode B pc = .ok (.ladd, 1))  (hp : pc + 1 = pc') (k : Go p e below W (T.setTop (mkF m pc' Ls (.long (x + y) :: st)))) : Go p e below W (T.setTop (mkF m pc Ls (.long y :: .long x :: st))) := by
  subst hp; exact k.via fun t k => XS.ladd X.here K.1 rfl (K.at hd) rfl k
theorem own_lsub (K : Ctx p s m c Z B own ml) (X : Stand p l e R s m args below meth c T locs cells slots) {x y : Int64} (hd : decode B pc = .ok (.lsub, 1))  (hp : pc + 1 = pc') (k : Go p e below W (T.setTop (mkF m pc' Ls (.long (x - y) :: st)))) : Go p e below W (T.setTop (mkF m pc Ls (.long y :: .long x :: st))) := by
  subst hp; exact k.via fun t k => XS.lsub X.here K.1 rfl (K.at hd) rfl k
theorem own_lmul (K : Ctx p s m c Z B own ml) (X : Stand p l e R s m args below meth c T locs cells slots) {x y : Int64} (hd : decode B pc = .ok (.lmul, 1))  (hp : pc + 1 = pc') (k : Go p e below W (T.setTop (mkF m pc' Ls (.long (x * y) :: st)))) : Go p e below W (T.setTop (mkF m pc Ls (.long y :: .long x :: st))) := by
  subst hp; exact k.via fun t k => XS.lmul X.here K.1 rfl (K.at hd) rfl k
theorem own_irem (K : Ctx p s m c Z B own ml) (X : Stand p l e R s m args below meth c T locs cells slots) {x y : Int32} (hd : decode B pc = .ok (.irem, 1)) (hy : y ≠ 0) (hp : pc + 1 = pc') (k : Go p e below W (T.setTop (mkF m pc' Ls (.int (x % y) :: st)))) : Go p e below W (T.setTop (mkF m pc Ls (.int y :: .int x :: st))) := by
  subst hp; exact k.via fun t k => iremM (g := mkF m pc Ls (.int y :: .int x :: st)) X K.1 rfl (K.at hd) rfl hy k
theorem own_idiv (K : Ctx p s m c Z B own ml) (X : Stand p l e R s m args below meth c T locs cells slots) {x y : Int32} (hd : decode B pc = .ok (.idiv, 1)) (hy : y ≠ 0) (hp : pc + 1 = pc') (k : Go p e below W (T.setTop (mkF m pc' Ls (.int (x / y) :: st)))) : Go p e below W (T.setTop (mkF m pc Ls (.int y :: .int x :: st))) := by
  subst hp; exact k.via fun t k => XS.idiv X.here K.1 rfl (K.at hd) rfl hy k
theorem own_lcmp (K : Ctx p s m c Z B own ml) (X : Stand p l e R s m args below meth c T locs cells slots) {x y : Int64} (hd : decode B pc = .ok (.lcmp, 1))  (hp : pc + 1 = pc') (k : Go p e below W (T.setTop (mkF m pc' Ls (.int (XT.cmpL x y) :: st)))) : Go p e below W (T.setTop (mkF m pc Ls (.long y :: .long x :: st))) := by
  subst hp; exact k.via fun t k => XS.lcmp X.here K.1 rfl (K.at hd) rfl k
theorem own_i2l (K : Ctx p s m c Z B own ml) (X : Stand p l e R s m args below meth c T locs cells slots) {x : Int32} (hd : decode B pc = .ok (.i2l, 1))  (hp : pc + 1 = pc') (k : Go p e below W (T.setTop (mkF m pc' Ls (.long x.toInt64 :: st)))) : Go p e below W (T.setTop (mkF m pc Ls (.int x :: st))) := by
  subst hp; exact k.via fun t k => XS.i2l X.here K.1 rfl (K.at hd) rfl k
theorem own_l2i (K : Ctx p s m c Z B own ml) (X : Stand p l e R s m args below meth c T locs cells slots) {x : Int64} (hd : decode B pc = .ok (.l2i, 1))  (hp : pc + 1 = pc') (k : Go p e below W (T.setTop (mkF m pc' Ls (.int x.toInt32 :: st)))) : Go p e below W (T.setTop (mkF m pc Ls (.long x :: st))) := by
  subst hp; exact k.via fun t k => XS.l2i X.here K.1 rfl (K.at hd) rfl k
theorem own_i2c (K : Ctx p s m c Z B own ml) (X : Stand p l e R s m args below meth c T locs cells slots) {x : Int32} (hd : decode B pc = .ok (.i2c, 1))  (hp : pc + 1 = pc') (k : Go p e below W (T.setTop (mkF m pc' Ls (.int x.toUInt32.toUInt16.toUInt32.toInt32 :: st)))) : Go p e below W (T.setTop (mkF m pc Ls (.int x :: st))) := by
  subst hp; exact k.via fun t k => XS.i2c X.here K.1 rfl (K.at hd) rfl k
theorem own_i2b (K : Ctx p s m c Z B own ml) (X : Stand p l e R s m args below meth c T locs cells slots) {x : Int32} (hd : decode B pc = .ok (.i2b, 1))  (hp : pc + 1 = pc') (k : Go p e below W (T.setTop (mkF m pc' Ls (.int x.toInt8.toInt32 :: st)))) : Go p e below W (T.setTop (mkF m pc Ls (.int x :: st))) := by
  subst hp; exact k.via fun t k => XS.i2b X.here K.1 rfl (K.at hd) rfl k
theorem own_dup (K : Ctx p s m c Z B own ml) (X : Stand p l e R s m args below meth c T locs cells slots) {x : Value} (hd : decode B pc = .ok (.dup, 1)) (hc : x.category = 1) (hp : pc + 1 = pc') (k : Go p e below W (T.setTop (mkF m pc' Ls (x :: x :: st)))) : Go p e below W (T.setTop (mkF m pc Ls (x :: st))) := by
  subst hp; exact k.via fun t k => XS.dup X.here K.1 rfl (K.at hd) rfl hc k
theorem own_dup_x1 (K : Ctx p s m c Z B own ml) (X : Stand p l e R s m args below meth c T locs cells slots) {x y : Value} (hd : decode B pc = .ok (.dup_x1, 1)) (hc : x.category = 1) (hc' : y.category = 1) (hp : pc + 1 = pc') (k : Go p e below W (T.setTop (mkF m pc' Ls (x :: y :: x :: st)))) : Go p e below W (T.setTop (mkF m pc Ls (x :: y :: st))) := by
  subst hp; exact k.via fun t k => XS.dupX1 X.here K.1 rfl (K.at hd) rfl hc hc' k
theorem own_dup2 (K : Ctx p s m c Z B own ml) (X : Stand p l e R s m args below meth c T locs cells slots) {x y : Value} (hd : decode B pc = .ok (.dup2, 1)) (hc : x.category = 1) (hc' : y.category = 1) (hp : pc + 1 = pc') (k : Go p e below W (T.setTop (mkF m pc' Ls (x :: y :: x :: y :: st)))) : Go p e below W (T.setTop (mkF m pc Ls (x :: y :: st))) := by
  subst hp; exact k.via fun t k => XT.dup2 X.here K.1 rfl (K.at hd) rfl hc hc' k
theorem own_dup2L (K : Ctx p s m c Z B own ml) (X : Stand p l e R s m args below meth c T locs cells slots) {x : Int64} (hd : decode B pc = .ok (.dup2, 1))  (hp : pc + 1 = pc') (k : Go p e below W (T.setTop (mkF m pc' Ls (.long x :: .long x :: st)))) : Go p e below W (T.setTop (mkF m pc Ls (.long x :: st))) := by
  subst hp; exact k.via fun t k => XT.dup2L X.here K.1 rfl (K.at hd) rfl k
theorem own_pop (K : Ctx p s m c Z B own ml) (X : Stand p l e R s m args below meth c T locs cells slots) {x : Value} (hd : decode B pc = .ok (.pop, 1)) (hc : x.category = 1) (hp : pc + 1 = pc') (k : Go p e below W (T.setTop (mkF m pc' Ls st))) : Go p e below W (T.setTop (mkF m pc Ls (x :: st))) := by
  subst hp; exact k.via fun t k => XS.pop X.here K.1 rfl (K.at hd) rfl hc k
theorem own_istoreN (K : Ctx p s m c Z B own ml) (X : Stand p l e R s m args below meth c T locs cells slots) {i : Fin 4} {x : Int32} {l' : Array Slot} (hd : decode B pc = .ok (.istore_n i, 1)) (hl : storeLocals Ls i.val (.int x) = some l') (hp : pc + 1 = pc') (k : Go p e below W (T.setTop (mkF m pc' l' st))) : Go p e below W (T.setTop (mkF m pc Ls (.int x :: st))) := by
  subst hp; exact k.via fun t k => XS.istoreN X.here K.1 rfl (K.at hd) rfl hl k
theorem own_istore (K : Ctx p s m c Z B own ml) (X : Stand p l e R s m args below meth c T locs cells slots) {i : Nat} {x : Int32} {l' : Array Slot} (hd : decode B pc = .ok (.istore i, 2)) (hl : storeLocals Ls i (.int x) = some l') (hp : pc + 2 = pc') (k : Go p e below W (T.setTop (mkF m pc' l' st))) : Go p e below W (T.setTop (mkF m pc Ls (.int x :: st))) := by
  subst hp; exact k.via fun t k => XS.istore X.here K.1 rfl (K.at hd) rfl hl k
theorem own_lstoreN (K : Ctx p s m c Z B own ml) (X : Stand p l e R s m args below meth c T locs cells slots) {i : Fin 4} {x : Int64} {l' : Array Slot} (hd : decode B pc = .ok (.lstore_n i, 1)) (hl : storeLocals Ls i.val (.long x) = some l') (hp : pc + 1 = pc') (k : Go p e below W (T.setTop (mkF m pc' l' st))) : Go p e below W (T.setTop (mkF m pc Ls (.long x :: st))) := by
  subst hp; exact k.via fun t k => XS.lstoreN X.here K.1 rfl (K.at hd) rfl hl k
theorem own_lstore (K : Ctx p s m c Z B own ml) (X : Stand p l e R s m args below meth c T locs cells slots) {i : Nat} {x : Int64} {l' : Array Slot} (hd : decode B pc = .ok (.lstore i, 2)) (hl : storeLocals Ls i (.long x) = some l') (hp : pc + 2 = pc') (k : Go p e below W (T.setTop (mkF m pc' l' st))) : Go p e below W (T.setTop (mkF m pc Ls (.long x :: st))) := by
  subst hp; exact k.via fun t k => XS.lstore X.here K.1 rfl (K.at hd) rfl hl k
theorem own_astoreN (K : Ctx p s m c Z B own ml) (X : Stand p l e R s m args below meth c T locs cells slots) {i : Fin 4} {x : Value} {l' : Array Slot} (hd : decode B pc = .ok (.astore_n i, 1)) (hv : x.isRef = true) (hl : storeLocals Ls i.val x = some l') (hp : pc + 1 = pc') (k : Go p e below W (T.setTop (mkF m pc' l' st))) : Go p e below W (T.setTop (mkF m pc Ls (x :: st))) := by
  subst hp; exact k.via fun t k => XS.astoreN X.here K.1 rfl (K.at hd) rfl hv hl k
theorem own_astore (K : Ctx p s m c Z B own ml) (X : Stand p l e R s m args below meth c T locs cells slots) {i : Nat} {x : Value} {l' : Array Slot} (hd : decode B pc = .ok (.astore i, 2)) (hv : x.isRef = true) (hl : storeLocals Ls i x = some l') (hp : pc + 2 = pc') (k : Go p e below W (T.setTop (mkF m pc' l' st))) : Go p e below W (T.setTop (mkF m pc Ls (x :: st))) := by
  subst hp; exact k.via fun t k => XS.astore X.here K.1 rfl (K.at hd) rfl hv hl k
theorem own_iinc (K : Ctx p s m c Z B own ml) (X : Stand p l e R s m args below meth c T locs cells slots) {i : Nat} {n : Int} {x v : Int32} {l' : Array Slot} (hd : decode B pc = .ok (.iinc i n, 3)) (hv : Int32.ofInt n = v) (hl : Ls[i]? = some (.val (.int x))) (hl' : storeLocals Ls i (.int (x + v)) = some l') (hp : pc + 3 = pc') (k : Go p e below W (T.setTop (mkF m pc' l' st))) : Go p e below W (T.setTop (mkF m pc Ls st)) := by
  subst hp hv; exact k.via fun t k => XS.iinc X.here K.1 rfl (K.at hd) hl hl' k
theorem own_ldcI (K : Ctx p s m c Z B own ml) (X : Stand p l e R s m args below meth c T locs cells slots) {i : Nat} {v : Int32} (hd : decode B pc = .ok (.ldc i, 2)) (w : (Jvm.Cond.constant own i v).before a0 Z = true) (hp : pc + 2 = pc') (k : Go p e below W (T.setTop (mkF m pc' Ls (.int v :: st)))) : Go p e below W (T.setTop (mkF m pc Ls st)) := by
  subst hp; exact k.via fun t k => X.ldcInt K.1 K.2.2.2.1 (mv K.2.2.1 w) (g := mkF m pc Ls st) rfl (K.at hd) t k
theorem own_ldc2J (K : Ctx p s m c Z B own ml) (X : Stand p l e R s m args below meth c T locs cells slots) {i : Nat} {v : Int64} (hd : decode B pc = .ok (.ldc2_w i, 3)) (w : (Jvm.Cond.constantLong own i v).before a0 Z = true) (hp : pc + 3 = pc') (k : Go p e below W (T.setTop (mkF m pc' Ls (.long v :: st)))) : Go p e below W (T.setTop (mkF m pc Ls st)) := by
  subst hp; exact k.via fun t k => X.ldc2Long K.1 K.2.2.2.1 (mv K.2.2.1 w) (g := mkF m pc Ls st) rfl (K.at hd) t k
theorem own_ifnullYes (K : Ctx p s m c Z B own ml) (X : Stand p l e R s m args below meth c T locs cells slots) {b : Addr} {o : Int} (hd : decode B pc = .ok (.ifnull o, 3)) (ho : 0 ≤ (pc : Int) + o) (hp : ((pc : Int) + o).toNat = pc') (k : Go p e below W (T.setTop (mkF m pc' Ls st))) : Go p e below W (T.setTop (mkF m pc Ls (.null :: st))) :=
  k.via fun t k => XS.ifnullYes X.here K.1 rfl rfl (K.at hd) rfl ho hp k
theorem own_ifnullNo (K : Ctx p s m c Z B own ml) (X : Stand p l e R s m args below meth c T locs cells slots) {b : Addr} {o : Int} (hd : decode B pc = .ok (.ifnull o, 3)) (hp : pc + 3 = pc') (k : Go p e below W (T.setTop (mkF m pc' Ls st))) : Go p e below W (T.setTop (mkF m pc Ls (.ref b :: st))) := by
  subst hp; exact k.via fun t k => XS.ifnullNo X.here K.1 rfl (K.at hd) rfl k
theorem own_ifnonnullYes (K : Ctx p s m c Z B own ml) (X : Stand p l e R s m args below meth c T locs cells slots) {b : Addr} {o : Int} (hd : decode B pc = .ok (.ifnonnull o, 3)) (ho : 0 ≤ (pc : Int) + o) (hp : ((pc : Int) + o).toNat = pc') (k : Go p e below W (T.setTop (mkF m pc' Ls st))) : Go p e below W (T.setTop (mkF m pc Ls (.ref b :: st))) :=
  k.via fun t k => XS.ifnonnullYes X.here K.1 rfl rfl (K.at hd) rfl ho hp k
theorem own_ifnonnullNo (K : Ctx p s m c Z B own ml) (X : Stand p l e R s m args below meth c T locs cells slots) {b : Addr} {o : Int} (hd : decode B pc = .ok (.ifnonnull o, 3)) (hp : pc + 3 = pc') (k : Go p e below W (T.setTop (mkF m pc' Ls st))) : Go p e below W (T.setTop (mkF m pc Ls (.null :: st))) := by
  subst hp; exact k.via fun t k => XS.ifnonnullNo X.here K.1 rfl (K.at hd) rfl k
theorem own_goto (K : Ctx p s m c Z B own ml) (X : Stand p l e R s m args below meth c T locs cells slots) {o : Int} (hd : decode B pc = .ok (.goto o, 3)) (ho : 0 ≤ (pc : Int) + o) (hp : ((pc : Int) + o).toNat = pc') (k : Go p e below W (T.setTop (mkF m pc' Ls st))) : Go p e below W (T.setTop (mkF m pc Ls st)) :=
  k.via fun t k => XS.goto X.here K.1 rfl rfl (K.at hd) ho hp k
theorem own_ifYes (K : Ctx p s m c Z B own ml) (X : Stand p l e R s m args below meth c T locs cells slots) {cd : ClassFile.Cond} {x : Int32} {o : Int} (hd : decode B pc = .ok (.ifCond cd o, 3)) (hc : if_icmp.holds cd x 0 = true) (ho : 0 ≤ (pc : Int) + o) (hp : ((pc : Int) + o).toNat = pc') (k : Go p e below W (T.setTop (mkF m pc' Ls st))) : Go p e below W (T.setTop (mkF m pc Ls (.int x :: st))) :=
  k.via fun t k => XS.ifYes X.here K.1 rfl rfl (K.at hd) rfl ((if0 _ _).trans hc) ho hp k
theorem own_ifNo (K : Ctx p s m c Z B own ml) (X : Stand p l e R s m args below meth c T locs cells slots) {cd : ClassFile.Cond} {x : Int32} {o : Int} (hd : decode B pc = .ok (.ifCond cd o, 3)) (hc : if_icmp.holds cd x 0 = false) (hp : pc + 3 = pc') (k : Go p e below W (T.setTop (mkF m pc' Ls st))) : Go p e below W (T.setTop (mkF m pc Ls (.int x :: st))) := by
  subst hp; exact k.via fun t k => XS.ifNo X.here K.1 rfl (K.at hd) rfl ((if0 _ _).trans hc) k
theorem own_icmpYes (K : Ctx p s m c Z B own ml) (X : Stand p l e R s m args below meth c T locs cells slots) {cd : ClassFile.Cond} {x y : Int32} {o : Int} (hd : decode B pc = .ok (.if_icmp cd o, 3)) (hc : if_icmp.holds cd x y = true) (ho : 0 ≤ (pc : Int) + o) (hp : ((pc : Int) + o).toNat = pc') (k : Go p e below W (T.setTop (mkF m pc' Ls st))) : Go p e below W (T.setTop (mkF m pc Ls (.int y :: .int x :: st))) :=
  k.via fun t k => XS.icmpYes X.here K.1 rfl rfl (K.at hd) rfl hc ho hp k
theorem own_icmpNo (K : Ctx p s m c Z B own ml) (X : Stand p l e R s m args below meth c T locs cells slots) {cd : ClassFile.Cond} {x y : Int32} {o : Int} (hd : decode B pc = .ok (.if_icmp cd o, 3)) (hc : if_icmp.holds cd x y = false) (hp : pc + 3 = pc') (k : Go p e below W (T.setTop (mkF m pc' Ls st))) : Go p e below W (T.setTop (mkF m pc Ls (.int y :: .int x :: st))) := by
  subst hp; exact k.via fun t k => XS.icmpNo X.here K.1 rfl (K.at hd) rfl hc k
theorem own_acmp (K : Ctx p s m c Z B own ml) (X : Stand p l e R s m args below meth c T locs cells slots) {cd : ACond} {x y : Value} {o : Int} {same : Bool} (hd : decode B pc = .ok (.if_acmp cd o, 3)) (h1 : x.isRef = true) (h2 : y.isRef = true) (hq : decide (x = y) = same) (ho : 0 ≤ (pc : Int) + o) (hp : pc' = if acV cd same = true then ((pc : Int) + o).toNat else pc + 3) (k : Go p e below W (T.setTop (mkF m pc' Ls st))) : Go p e below W (T.setTop (mkF m pc Ls (y :: x :: st))) :=
  k.via fun t k => Jvm.RoadKit.acmp (g := mkF m pc Ls (y :: x :: st)) X K.1 rfl h1 h2 rfl (K.at hd) rfl hq ho hp k
theorem own_getS (K : Ctx p s m c Z B own ml) (X : Stand p l e R s m args below meth c T locs cells slots) {R0 O n d : String} {index : Nat} (eT : T.heap = h) (w : (Jvm.Cond.fieldLink own index R0 n d).before a0 Z = true) (via : Via Z R0 O n d) {v : Value} (F : Sta Z h O n d v) (hd : decode B pc = .ok (.getstatic index, 3)) (hp : pc + 3 = pc')
    (k : ∀ T', Stand p l e R s m args below meth c T' locs cells slots → T'.heap = h → Go p e below W (T'.setTop (mkF m pc' Ls (v :: st)))) : Go p e below W (T.setTop (mkF m pc Ls st)) := by
  subst hp
  obtain ⟨T', X', e', q⟩ := getS X K.1 K.2.2.1 K.2.2.2.1 (host := "") w via eT F (g := mkF m pc Ls st) rfl (K.at hd)
  exact (k T' X' e').via q
theorem own_getSN (K : Ctx p s m c Z B own ml) (X : Stand p l e R s m args below meth c T locs cells slots) {R0 O n d host : String} {index : Nat} (eT : T.heap = h) (w : (Jvm.Cond.fieldLinkNest own index R0 n d host).before a0 Z = true) (via : Via Z R0 O n d) {v : Value} (F : Sta Z h O n d v) (hd : decode B pc = .ok (.getstatic index, 3)) (hp : pc + 3 = pc')
    (k : ∀ T', Stand p l e R s m args below meth c T' locs cells slots → T'.heap = h → Go p e below W (T'.setTop (mkF m pc' Ls (v :: st)))) : Go p e below W (T.setTop (mkF m pc Ls st)) := by
  subst hp
  obtain ⟨T', X', e', q⟩ := getS2 X K.1 K.2.2.1 K.2.2.2.1 (Or.inr w) via eT F (g := mkF m pc Ls st) rfl (K.at hd)
  exact (k T' X' e').via q
theorem own_getF (K : Ctx p s m c Z B own ml) (X : Stand p l e R s m args below meth c T locs cells slots) {R0 O n d : String} {index : Nat} {a : Addr} (eT : T.heap = h) (w : (Jvm.Cond.fieldLink own index R0 n d).before a0 Z = true) (via : Via Z R0 O n d) {v : Value} (F : Fld Z h a O n d v) (hd : decode B pc = .ok (.getfield index, 3)) (hp : pc + 3 = pc')
    (k : ∀ T', Stand p l e R s m args below meth c T' locs cells slots → T'.heap = h → Go p e below W (T'.setTop (mkF m pc' Ls (v :: st)))) : Go p e below W (T.setTop (mkF m pc Ls (.ref a :: st))) := by
  subst hp
  obtain ⟨T', X', e', q⟩ := getF X K.1 K.2.2.1 K.2.2.2.1 (host := "") (Or.inl w) via eT F (g := mkF m pc Ls (.ref a :: st)) rfl rfl (K.at hd)
  exact (k T' X' e').via q
theorem own_putF (K : Ctx p s m c Z B own ml) (X : Stand p l e R s m args below meth c T locs cells slots) {R0 O n d C : String} {index kk : Nat} {ty : FieldType} {a : Addr} {v v' old : Value} (eT : T.heap = h) (w : (Jvm.Cond.fieldLink own index R0 n d).before a0 Z = true) (via : Via Z R0 O n d) (F : Fld Z h a O n d old) (E : Exa Z h a C)
    (L : (Jvm.Cond.lays C O n d).before a0 Z = true ∨ ((Jvm.Cond.laysFinal C O n d).before a0 Z = true ∧ own = O ∧ meth.name = "<init>")) (wi : (Jvm.Cond.instantiable C kk).before a0 Z = true) (hty : parseFieldDescriptor d = some ty) (hn : narrow ty v = v') (hf : fits ty v' = true) (hd : decode B pc = .ok (.putfield index, 3)) (hp : pc + 3 = pc')
    (k : ∀ T' h', Stand p l e R s m args below meth c T' (locs ++ [⟨a, Jvm.RoadKit.slotOf Z O n d⟩]) cells slots → T'.heap = h' → Wr h h' a (Jvm.RoadKit.slotOf Z O n d) v' → Go p e below W (T'.setTop (mkF m pc' Ls st))) : Go p e below W (T.setTop (mkF m pc Ls (v :: .ref a :: st))) := by
  subst hp
  obtain ⟨T', h', X', e', W', q⟩ := putFN X K.1 K.2.2.1 K.2.2.2.1 w via eT F E L wi hty hn hf (g := mkF m pc Ls (v :: .ref a :: st)) rfl rfl (K.at hd)
  exact (k T' h' X' e' W').via q
theorem own_new (K : Ctx p s m c Z B own ml) (X : Stand p l e R s m args below meth c T locs cells slots) {C : String} {index n : Nat} (eT : T.heap = h) (w : (Jvm.Cond.classLink own index C).before a0 Z = true) (wi : (Jvm.Cond.instantiable C n).before a0 Z = true) (wz : (Jvm.Cond.initialized C).before a0 Z = true) (hd : decode B pc = .ok (.new index, 3)) (hc : cells + 1 ≤ R.cells) (hl : slots + n ≤ R.slots) (hp : pc + 3 = pc')
    (k : ∀ T' h' a, Stand p l e R s m args below meth c T' locs (cells + 1) (slots + n) → T'.heap = h' → a = h.size → Ext h h' → Exa Z h' a C → (∀ {O nm d : String} {ty : FieldType}, Laid Z a0 C O nm d → parseFieldDescriptor d = some ty → Fld Z h' a O nm d (defaultValue ty)) → Go p e below W (T'.setTop (mkF m pc' Ls (.ref a :: st)))) : Go p e below W (T.setTop (mkF m pc Ls st)) := by
  subst hp
  obtain ⟨T', h', X', e', E', A', D', -, q⟩ := newO X K.1 K.2.2.1 K.2.2.2.1 w wi wz eT (g := mkF m pc Ls st) rfl (K.at hd) hc hl
  exact (k T' h' _ X' e' rfl E' A' D').via q
theorem own_initO (K : Ctx p s m c Z B own ml) (X : Stand p l e R s m args below meth c T locs cells slots) {idx : Nat} {a : Addr} (eT : T.heap = h) (w1 : (Jvm.Cond.methodLink own idx Lib.objectInit).before a0 Z = true) (w2 : (Jvm.Cond.instanceMethod Lib.objectInit).before a0 Z = true) (w3 : (Jvm.Cond.code Lib.objectInit ⟨#[0xb1]⟩ 1 none).before a0 Z = true)
    (hd : decode B pc = .ok (.invokespecial idx, 3)) (hsz : Ls.size = ml) (hf : 1 ≤ R.frames) (hl : (st.map fun v => v.category).sum + 12 ≤ R.locals) (hp : pc + 3 = pc') (k : ∀ T', Stand p l e R s m args below meth c T' locs cells slots → T'.heap = h → Go p e below W (T'.setTop (mkF m pc' Ls st))) : Go p e below W (T.setTop (mkF m pc Ls (.ref a :: st))) := by
  subst hp
  obtain ⟨T', X', e', q⟩ := initO X K.1 K.2.2.1 K.2.2.2.1 w1 w2 w3 eT (g := mkF m pc Ls (.ref a :: st)) rfl (hsz.trans K.2.2.2.2.symm) rfl (K.at hd) hf (W := (st.map fun v => v.category).sum) (by show 2 * 0 + _ ≤ _; omega) hl
  exact (k T' X' e').via q
theorem own_callS (K : Ctx p s m c Z B own ml) (X : Stand p l e R s m args below meth c T locs cells slots) {y : MethodName} {By : ByteArray} {mly index : Nat} {rty r : Option FieldType} {ps : List FieldType} {rmy : Room} {Q : Option Value → Heap → List Loc → Prop} {argsL rest : List Value} (eT : T.heap = h)
    (w1 : (Jvm.Cond.methodLink own index y).before a0 Z = true) (w2 : (Jvm.Cond.static y).before a0 Z = true) (w3 : (Jvm.Cond.initialized y.cls).before a0 Z = true) (w4 : (Jvm.Cond.code y By mly rty).before a0 Z = true) (hM : Con l y By mly rty [] rmy Z argsL.toArray h Q)
    (hd : decode B pc = .ok (.invokestatic index, 3)) (hpd : parseMethodDescriptor y.desc = some ⟨ps, r⟩) (hlen : argsL.length = ps.length) (hst : st = argsL.reverse ++ rest) (hsz : Ls.size = ml) (hy : y.cls ≠ "java/lang/invoke/MethodHandle" ∧ y.cls ≠ "java/lang/invoke/VarHandle")
    (hf : rmy.frames + 1 ≤ R.frames) (hl : (rest.map fun v => v.category).sum + (mly + 11) + rmy.locals ≤ R.locals) (hc : cells + rmy.cells ≤ R.cells) (hs : slots + rmy.slots ≤ R.slots) (hp : pc + 3 = pc')
    (k : ∀ v T' L, Stand p l e R s m args below meth c T' (locs ++ L) (cells + rmy.cells) (slots + rmy.slots) → Q v T'.heap L → Go p e below W (T'.setTop (mkF m pc' Ls (v.toList ++ rest)))) : Go p e below W (T.setTop (mkF m pc Ls st)) := by
  subst hp hst
  obtain ⟨v, _, ⟨T1, L1, k1, n1⟩, -, X1, ⟨Lc, hQ, l1, y1, z1⟩, q⟩ := Jvm.LawKit.callS X K.1 (y := y) K.2.2.2.1 (mvT K.2.2.1 w1) (mvT K.2.2.1 w2) (mvT K.2.2.1 w3) (mvT K.2.2.1 w4) hy (backOf (W := (rest.map fun v => v.category).sum) hM K.2.2.1 w4 w3 hf hl) (g := mkF m pc Ls (argsL.reverse ++ rest)) rfl (hsz.trans K.2.2.2.2.symm) (argsL := argsL) (rest := rest) (lenOf hpd hlen) rfl (by show 2 * 0 + _ ≤ _; omega) (K.at hd) (fun _ _ => ⟨rfl, eT, hc, hs⟩)
  dsimp only [Pt.U, Pt.locs, Pt.cells, Pt.slots] at X1 l1 y1 z1 q hQ
  subst l1 y1 z1
  exact (k v T1 Lc X1 hQ).via q
theorem own_callV (K : Ctx p s m c Z B own ml) (X : Stand p l e R s m args below meth c T locs cells slots) {y z : MethodName} {C : String} {By : ByteArray} {mly index : Nat} {rty r : Option FieldType} {ps : List FieldType} {rmy : Room} {Q : Option Value → Heap → List Loc → Prop} {argsL rest : List Value} {b : Addr} (eT : T.heap = h)
    (w1 : (Jvm.Cond.methodLink own index y).before a0 Z = true) (w2 : (Jvm.Cond.declares y).before a0 Z = true) (nf : NotFace s y) (w3 : (Jvm.Cond.selects C y z).before a0 Z = true) (w4 : (Jvm.Cond.instanceMethod z).before a0 Z = true) (w5 : (Jvm.Cond.code z By mly rty).before a0 Z = true) (w6 : (Jvm.Cond.initialized z.cls).before a0 Z = true) (E : Exa Z h b C) (hM : Con l z By mly rty [] rmy Z (.ref b :: argsL).toArray h Q)
    (hd : decode B pc = .ok (.invokevirtual index, 3)) (hpd : parseMethodDescriptor y.desc = some ⟨ps, r⟩) (hlen : argsL.length = ps.length) (hst : st = argsL.reverse ++ .ref b :: rest) (hsz : Ls.size = ml) (hy : y.cls ≠ "java/lang/invoke/MethodHandle" ∧ y.cls ≠ "java/lang/invoke/VarHandle")
    (hf : rmy.frames + 1 ≤ R.frames) (hl : (rest.map fun v => v.category).sum + (mly + 11) + rmy.locals ≤ R.locals) (hc : cells + rmy.cells ≤ R.cells) (hs : slots + rmy.slots ≤ R.slots) (hp : pc + 3 = pc')
    (k : ∀ v T' L, Stand p l e R s m args below meth c T' (locs ++ L) (cells + rmy.cells) (slots + rmy.slots) → Q v T'.heap L → Go p e below W (T'.setTop (mkF m pc' Ls (v.toList ++ rest)))) : Go p e below W (T.setTop (mkF m pc Ls st)) := by
  subst hp hst
  obtain ⟨cq, kq, qa, qb, qc⟩ := isOf K.2.2.1 eT E
  obtain ⟨v, _, ⟨T1, L1, k1, n1⟩, -, X1, ⟨Lc, hQ, l1, y1, z1⟩, q⟩ := X.virtualBack K.1 (y := y) (z := z) K.2.2.2.1 (mvT K.2.2.1 w1) (mvT K.2.2.1 w2) nf (mvT K.2.2.1 w3) (mvT K.2.2.1 w4) hy (backOf (W := (rest.map fun v => v.category).sum) hM K.2.2.1 w5 w6 hf hl) qa qc (g := mkF m pc Ls (argsL.reverse ++ .ref b :: rest)) rfl (hsz.trans K.2.2.2.2.symm) (Steps.refl _) (argsL := argsL) (rest := rest) (lenOf hpd hlen) rfl (by show 2 * 0 + _ ≤ _; omega) (K.at hd) (fun _ _ => ⟨rfl, eT, hc, hs⟩)
  dsimp only [Pt.U, Pt.locs, Pt.cells, Pt.slots] at X1 l1 y1 z1 q hQ
  subst l1 y1 z1
  exact (k v T1 Lc X1 hQ).via fun t k => q.trans k
theorem own_callI (K : Ctx p s m c Z B own ml) (X : Stand p l e R s m args below meth c T locs cells slots) {y : MethodName} {By : ByteArray} {mly index : Nat} {r : Option FieldType} {ps : List FieldType} {rmy : Room} {Q : Option Value → Heap → List Loc → Prop} {argsL rest : List Value} {b : Addr} (eT : T.heap = h) (hy1 : y.name = "<init>")
    (w1 : (Jvm.Cond.methodLink own index y).before a0 Z = true) (w4 : (Jvm.Cond.instanceMethod y).before a0 Z = true) (w5 : (Jvm.Cond.code y By mly none).before a0 Z = true) (w6 : (Jvm.Cond.initialized y.cls).before a0 Z = true) (hM : Con l y By mly none [] rmy Z (.ref b :: argsL).toArray h Q)
    (hd : decode B pc = .ok (.invokespecial index, 3)) (hpd : parseMethodDescriptor y.desc = some ⟨ps, r⟩) (hlen : argsL.length = ps.length) (hst : st = argsL.reverse ++ .ref b :: rest) (hsz : Ls.size = ml) (hy : y.cls ≠ "java/lang/invoke/MethodHandle" ∧ y.cls ≠ "java/lang/invoke/VarHandle")
    (hf : rmy.frames + 1 ≤ R.frames) (hl : (rest.map fun v => v.category).sum + (mly + 11) + rmy.locals ≤ R.locals) (hc : cells + rmy.cells ≤ R.cells) (hs : slots + rmy.slots ≤ R.slots) (hp : pc + 3 = pc')
    (k : ∀ v T' L, Stand p l e R s m args below meth c T' (locs ++ L) (cells + rmy.cells) (slots + rmy.slots) → Q v T'.heap L → Go p e below W (T'.setTop (mkF m pc' Ls (v.toList ++ rest)))) : Go p e below W (T.setTop (mkF m pc Ls st)) := by
  subst hp hst
  obtain ⟨v, _, ⟨T1, L1, k1, n1⟩, -, X1, ⟨Lc, hQ, l1, y1, z1⟩, q⟩ := X.specialBack K.1 (y := y) hy1 K.2.2.2.1 (mvT K.2.2.1 w1) (mvT K.2.2.1 w4) (mvT K.2.2.1 w5) hy (backOf (W := (rest.map fun v => v.category).sum) hM K.2.2.1 w5 w6 hf hl) (g := mkF m pc Ls (argsL.reverse ++ .ref b :: rest)) rfl (hsz.trans K.2.2.2.2.symm) (Steps.refl _) (a := b) (argsL := argsL) (rest := rest) (lenOf hpd hlen) rfl (by show 2 * 0 + _ ≤ _; omega) (K.at hd) (fun _ _ => ⟨rfl, eT, hc, hs⟩)
  dsimp only [Pt.U, Pt.locs, Pt.cells, Pt.slots] at X1 l1 y1 z1 q hQ
  subst l1 y1 z1
  exact (k v T1 Lc X1 hQ).via fun t k => q.trans k
theorem own_ret {Q : Option Value → Heap → List Loc → Prop} {g : JFrame} (X : Stand p l e R s m args below meth c T locs cells slots) (hlk : meth.locks = false) {v : Option Value} (hv : meth.sig.returnType = none → v = none)
    (hstep : ∀ fs, (∀ (f : JFrame) (acts : List Action), f.method = m → f.locked = none → f.entered = [] → (doReturn e (T.setTop f) acts v).1 = T.setFrames fs) → Steps p.tables e below (T.setTop g) (T.setFrames fs)) (hc : cells ≤ R.cells) (hs : slots ≤ R.slots) (hq : Q v T.heap locs) : Go p e below (End s R Q) (T.setTop g) := by
  obtain ⟨fs, hr, hrun, hended, hW, hsame⟩ := X.leave hv hlk
  exact ⟨_, _, hstep fs hr, hrun, hended, v, locs, rfl, hq, ⟨_, rfl⟩, hW, hsame.mono hc hs⟩
theorem own_retI {Q : Option Value → Heap → List Loc → Prop} (K : Ctx p s m c Z B own ml) (X : Stand p l e R s m args below meth c T locs cells slots) (hret : meth.sig.returnType = some .int) (hlk : meth.locks = false) {z : Int32} (hd : decode B pc = .ok (.ireturn, 1)) (hc : cells ≤ R.cells) (hs : slots ≤ R.slots) (hq : Q (some (.int z)) T.heap locs) : Go p e below (End s R Q) (T.setTop (mkF m pc Ls (.int z :: st))) :=
  own_ret X hlk (fun h => by rw [hret] at h; cases h) (fun fs hr => retOut X K.1 hret rfl (Or.inl ⟨rfl, Or.inl rfl, _, rfl⟩) (K.at hd) hr) hc hs hq
theorem own_retN {Q : Option Value → Heap → List Loc → Prop} (K : Ctx p s m c Z B own ml) (X : Stand p l e R s m args below meth c T locs cells slots) {t : FieldType} (hret : meth.sig.returnType = some t) (hlk : meth.locks = false) {z z' : Int32} (ht : t = .boolean ∨ t = .byte ∨ t = .char ∨ t = .short) (hz : nar t z = z') (hd : decode B pc = .ok (.ireturn, 1)) (hc : cells ≤ R.cells) (hs : slots ≤ R.slots) (hq : Q (some (.int z')) T.heap locs) : Go p e below (End s R Q) (T.setTop (mkF m pc Ls (.int z :: st))) := by
  subst hz
  exact own_ret X hlk (fun h => by rw [hret] at h; cases h) (fun fs hr => retN X K.1 hret ht (K.at hd) hr) hc hs hq
theorem own_retJ {Q : Option Value → Heap → List Loc → Prop} (K : Ctx p s m c Z B own ml) (X : Stand p l e R s m args below meth c T locs cells slots) (hret : meth.sig.returnType = some .long) (hlk : meth.locks = false) {z : Int64} (hd : decode B pc = .ok (.lreturn, 1)) (hc : cells ≤ R.cells) (hs : slots ≤ R.slots) (hq : Q (some (.long z)) T.heap locs) : Go p e below (End s R Q) (T.setTop (mkF m pc Ls (.long z :: st))) :=
  own_ret X hlk (fun h => by rw [hret] at h; cases h) (fun fs hr => retOut X K.1 hret rfl (Or.inr (Or.inl ⟨rfl, rfl, _, rfl⟩)) (K.at hd) hr) hc hs hq
theorem own_retA {Q : Option Value → Heap → List Loc → Prop} (K : Ctx p s m c Z B own ml) (X : Stand p l e R s m args below meth c T locs cells slots) {t : FieldType} (hret : meth.sig.returnType = some t) (ht : t.isReference = true) (hlk : meth.locks = false) {w : Value} (hw : w.isRef = true) (hd : decode B pc = .ok (.areturn, 1)) (hc : cells ≤ R.cells) (hs : slots ≤ R.slots) (hq : Q (some w) T.heap locs) : Go p e below (End s R Q) (T.setTop (mkF m pc Ls (w :: st))) := by
  have hn : narrow t w = w := by cases t <;> first | (cases ht; done) | (cases w <;> first | rfl | (cases hw; done))
  exact own_ret X hlk (fun h => by rw [hret] at h; cases h) (fun fs hr => retOut X K.1 hret hn (Or.inr (Or.inr (Or.inr (Or.inr ⟨rfl, ht, hw⟩)))) (K.at hd) hr) hc hs hq
theorem own_retV {Q : Option Value → Heap → List Loc → Prop} (K : Ctx p s m c Z B own ml) (X : Stand p l e R s m args below meth c T locs cells slots) (hret : meth.sig.returnType = none) (hlk : meth.locks = false) (hd : decode B pc = .ok (.return_, 1)) (hc : cells ≤ R.cells) (hs : slots ≤ R.slots) (hq : Q none T.heap locs) : Go p e below (End s R Q) (T.setTop (mkF m pc Ls [])) :=
  own_ret X hlk (fun _ => rfl) (fun fs hr => X.returnOut K.1 hret (K.at hd) hr) hc hs hq
end Own

section OwnArr
variable {p : Program} {l : Launch} {e : Env} {R : Room} {s : State} {m : MethodId} {args : Array Value} {below : List Frame} {meth : Method} {c : Code} {T : State} {locs : List Loc} {cells slots : Nat} {Z : State} {a0 : Array Value} {h : Heap} {W : Outcome → State → Prop} {B : ByteArray} {own : String} {ml : Nat} {pc pc' : Nat} {Ls : Array Slot} {st : List Value} {a : Addr} {kc : ClassId} {ty : FieldType} {n j : Int32} {vs : List Value} {dv : Value}
theorem own_iaload (K : Ctx p s m c Z B own ml) (X : Stand p l e R s m args below meth c T locs cells slots) {v : Value} (eT : T.heap = h) (F : Arv Z h a kc .int n vs dv) (hj : ¬ j < 0 ∧ j < n) (hv : vs.getD j.toNatClampNeg dv = v) (hd : decode B pc = .ok (.iaload, 1)) (hp : pc + 1 = pc') (k : Go p e below W (T.setTop (mkF m pc' Ls (v :: st)))) : Go p e below W (T.setTop (mkF m pc Ls (.int j :: .ref a :: st))) := by
  subst hp
  obtain ⟨cl, A, q1, S, q3, H, G⟩ := F
  exact k.via fun t k => X.iaload K.1 (j := j) (v := v) (by rw [eT]; exact A.1) (State.isArrayOf_alike K.2.2.1.alike A.2.1) A.2.2 (inb_of S hj) (H.at (inb_of S hj) hv) (g := mkF m pc Ls (.int j :: .ref a :: st)) rfl rfl (K.at hd) t k
theorem own_laload (K : Ctx p s m c Z B own ml) (X : Stand p l e R s m args below meth c T locs cells slots) {v : Value} (eT : T.heap = h) (F : Arv Z h a kc .long n vs dv) (hj : ¬ j < 0 ∧ j < n) (hv : vs.getD j.toNatClampNeg dv = v) (hd : decode B pc = .ok (.laload, 1)) (hp : pc + 1 = pc') (k : Go p e below W (T.setTop (mkF m pc' Ls (v :: st)))) : Go p e below W (T.setTop (mkF m pc Ls (.int j :: .ref a :: st))) := by
  subst hp
  obtain ⟨cl, A, q1, S, q3, H, G⟩ := F
  exact k.via fun t k => X.laload K.1 (j := j) (v := v) (by rw [eT]; exact A.1) (State.isArrayOf_alike K.2.2.1.alike A.2.1) A.2.2 (inb_of S hj) (H.at (inb_of S hj) hv) (g := mkF m pc Ls (.int j :: .ref a :: st)) rfl rfl (K.at hd) t k
theorem own_baload (K : Ctx p s m c Z B own ml) (X : Stand p l e R s m args below meth c T locs cells slots) {v : Value} (eT : T.heap = h) (F : Arv Z h a kc .byte n vs dv) (hj : ¬ j < 0 ∧ j < n) (hv : vs.getD j.toNatClampNeg dv = v) (hd : decode B pc = .ok (.baload, 1)) (hp : pc + 1 = pc') (k : Go p e below W (T.setTop (mkF m pc' Ls (v :: st)))) : Go p e below W (T.setTop (mkF m pc Ls (.int j :: .ref a :: st))) := by
  subst hp
  obtain ⟨cl, A, q1, S, q3, H, G⟩ := F
  exact k.via fun t k => X.baloadBytes K.1 (j := j) (v := v) (by rw [eT]; exact A.1) (State.isArrayOf_alike K.2.2.1.alike A.2.1) A.2.2 (inb_of S hj) (H.at (inb_of S hj) hv) (g := mkF m pc Ls (.int j :: .ref a :: st)) rfl rfl (K.at hd) t k
theorem own_zaload (K : Ctx p s m c Z B own ml) (X : Stand p l e R s m args below meth c T locs cells slots) {v : Value} (eT : T.heap = h) (F : Arv Z h a kc .boolean n vs dv) (hj : ¬ j < 0 ∧ j < n) (hv : vs.getD j.toNatClampNeg dv = v) (hd : decode B pc = .ok (.baload, 1)) (hp : pc + 1 = pc') (k : Go p e below W (T.setTop (mkF m pc' Ls (v :: st)))) : Go p e below W (T.setTop (mkF m pc Ls (.int j :: .ref a :: st))) := by
  subst hp
  obtain ⟨cl, A, q1, S, q3, H, G⟩ := F
  exact k.via fun t k => X.baloadBooleans K.1 (j := j) (v := v) (by rw [eT]; exact A.1) (State.isArrayOf_alike K.2.2.1.alike A.2.1) A.2.2 (inb_of S hj) (H.at (inb_of S hj) hv) (g := mkF m pc Ls (.int j :: .ref a :: st)) rfl rfl (K.at hd) t k
theorem own_caload (K : Ctx p s m c Z B own ml) (X : Stand p l e R s m args below meth c T locs cells slots) {v : Value} (eT : T.heap = h) (F : Arv Z h a kc .char n vs dv) (hj : ¬ j < 0 ∧ j < n) (hv : vs.getD j.toNatClampNeg dv = v) (hd : decode B pc = .ok (.caload, 1)) (hp : pc + 1 = pc') (k : Go p e below W (T.setTop (mkF m pc' Ls (v :: st)))) : Go p e below W (T.setTop (mkF m pc Ls (.int j :: .ref a :: st))) := by
  subst hp
  obtain ⟨cl, A, q1, S, q3, H, G⟩ := F
  exact k.via fun t k => X.caload K.1 (j := j) (v := v) (by rw [eT]; exact A.1) (State.isArrayOf_alike K.2.2.1.alike A.2.1) A.2.2 (inb_of S hj) (H.at (inb_of S hj) hv) (g := mkF m pc Ls (.int j :: .ref a :: st)) rfl rfl (K.at hd) t k
theorem own_aaload (K : Ctx p s m c Z B own ml) (X : Stand p l e R s m args below meth c T locs cells slots) {v : Value} (eT : T.heap = h) (F : Arv Z h a kc ty n vs dv) (hr : ty.isReference = true) (hj : ¬ j < 0 ∧ j < n) (hv : vs.getD j.toNatClampNeg dv = v) (hd : decode B pc = .ok (.aaload, 1)) (hp : pc + 1 = pc') (k : Go p e below W (T.setTop (mkF m pc' Ls (v :: st)))) : Go p e below W (T.setTop (mkF m pc Ls (.int j :: .ref a :: st))) := by
  subst hp
  obtain ⟨cl, A, q1, S, q3, H, G⟩ := F
  exact k.via fun t k => X.aaload K.1 (j := j) (v := v) (by rw [eT]; exact A.1) (State.isArrayOf_alike K.2.2.1.alike A.2.1) hr A.2.2 (inb_of S hj) (H.at (inb_of S hj) hv) (g := mkF m pc Ls (.int j :: .ref a :: st)) rfl rfl (K.at hd) t k
theorem own_alen (K : Ctx p s m c Z B own ml) (X : Stand p l e R s m args below meth c T locs cells slots) (eT : T.heap = h) (F : Arv Z h a kc ty n vs dv) (hd : decode B pc = .ok (.arraylength, 1)) (hp : pc + 1 = pc') (k : Go p e below W (T.setTop (mkF m pc' Ls (.int n :: st)))) : Go p e below W (T.setTop (mkF m pc Ls (.ref a :: st))) := by
  subst hp
  obtain ⟨cl, A, q1, S, q3, H, G⟩ := F
  refine k.via fun t k => X.arraylength K.1 (by rw [eT]; exact A.1) (State.isArrayOf_alike K.2.2.1.alike A.2.1) (g := mkF m pc Ls (.ref a :: st)) rfl rfl (K.at hd) t ?_
  rw [len_of S q3]
  exact k
theorem own_iastore (K : Ctx p s m c Z B own ml) (X : Stand p l e R s m args below meth c T locs cells slots) {x : Int32} {i : Nat} {vs' : List Value} (eT : T.heap = h) (F : Arv Z h a kc .int n vs dv) (hj : ¬ j < 0 ∧ j < n) (hi : j.toNatClampNeg = i) (hl : i < vs.length) (hvs : vs.set i (.int x) = vs') (hd : decode B pc = .ok (.iastore, 1)) (hp : pc + 1 = pc')
    (k : ∀ T' h', Stand p l e R s m args below meth c T' (locs ++ [⟨a, j.toNatClampNeg⟩]) cells slots → T'.heap = h' → Wr h h' a j.toNatClampNeg (.int x) → Arv Z h' a kc .int n vs' dv → Go p e below W (T'.setTop (mkF m pc' Ls st))) : Go p e below W (T.setTop (mkF m pc Ls (.int x :: .int j :: .ref a :: st))) := by
  subst hp hvs
  obtain ⟨cl, A, q1, S, q3, H, G⟩ := F
  obtain ⟨T', h', X', e', W', q⟩ := stI X K.1 K.2.2.1 eT A (inb_of S hj) (g := mkF m pc Ls (.int x :: .int j :: .ref a :: st)) rfl rfl (K.at hd)
  exact (k T' h' X' e' W' (Arv.set A q1 S q3 H G rfl W' i hi hl)).via q
theorem own_lastore (K : Ctx p s m c Z B own ml) (X : Stand p l e R s m args below meth c T locs cells slots) {x : Int64} {i : Nat} {vs' : List Value} (eT : T.heap = h) (F : Arv Z h a kc .long n vs dv) (hj : ¬ j < 0 ∧ j < n) (hi : j.toNatClampNeg = i) (hl : i < vs.length) (hvs : vs.set i (.long x) = vs') (hd : decode B pc = .ok (.lastore, 1)) (hp : pc + 1 = pc')
    (k : ∀ T' h', Stand p l e R s m args below meth c T' (locs ++ [⟨a, j.toNatClampNeg⟩]) cells slots → T'.heap = h' → Wr h h' a j.toNatClampNeg (.long x) → Arv Z h' a kc .long n vs' dv → Go p e below W (T'.setTop (mkF m pc' Ls st))) : Go p e below W (T.setTop (mkF m pc Ls (.long x :: .int j :: .ref a :: st))) := by
  subst hp hvs
  obtain ⟨cl, A, q1, S, q3, H, G⟩ := F
  obtain ⟨T', h', X', e', W', q⟩ := stJ X K.1 K.2.2.1 eT A (inb_of S hj) (g := mkF m pc Ls (.long x :: .int j :: .ref a :: st)) rfl rfl (K.at hd)
  exact (k T' h' X' e' W' (Arv.set A q1 S q3 H G rfl W' i hi hl)).via q
theorem own_bastore (K : Ctx p s m c Z B own ml) (X : Stand p l e R s m args below meth c T locs cells slots) {x : Int32} {i : Nat} {vs' : List Value} (eT : T.heap = h) (F : Arv Z h a kc .byte n vs dv) (hj : ¬ j < 0 ∧ j < n) (hi : j.toNatClampNeg = i) (hl : i < vs.length) (hvs : vs.set i (.int (nar .byte x)) = vs') (hd : decode B pc = .ok (.bastore, 1)) (hp : pc + 1 = pc')
    (k : ∀ T' h', Stand p l e R s m args below meth c T' (locs ++ [⟨a, j.toNatClampNeg⟩]) cells slots → T'.heap = h' → Wr h h' a j.toNatClampNeg (.int (nar .byte x)) → Arv Z h' a kc .byte n vs' dv → Go p e below W (T'.setTop (mkF m pc' Ls st))) : Go p e below W (T.setTop (mkF m pc Ls (.int x :: .int j :: .ref a :: st))) := by
  subst hp hvs
  obtain ⟨cl, A, q1, S, q3, H, G⟩ := F
  obtain ⟨T', h', X', e', W', q⟩ := stB X K.1 K.2.2.1 eT A (inb_of S hj) (g := mkF m pc Ls (.int x :: .int j :: .ref a :: st)) rfl rfl (K.at hd)
  exact (k T' h' X' e' W' (Arv.set A q1 S q3 H G (fits_nar_byte x) W' i hi hl)).via q
theorem own_zastore (K : Ctx p s m c Z B own ml) (X : Stand p l e R s m args below meth c T locs cells slots) {x : Int32} {i : Nat} {vs' : List Value} (eT : T.heap = h) (F : Arv Z h a kc .boolean n vs dv) (hj : ¬ j < 0 ∧ j < n) (hi : j.toNatClampNeg = i) (hl : i < vs.length) (hvs : vs.set i (.int (nar .boolean x)) = vs') (hd : decode B pc = .ok (.bastore, 1)) (hp : pc + 1 = pc')
    (k : ∀ T' h', Stand p l e R s m args below meth c T' (locs ++ [⟨a, j.toNatClampNeg⟩]) cells slots → T'.heap = h' → Wr h h' a j.toNatClampNeg (.int (nar .boolean x)) → Arv Z h' a kc .boolean n vs' dv → Go p e below W (T'.setTop (mkF m pc' Ls st))) : Go p e below W (T.setTop (mkF m pc Ls (.int x :: .int j :: .ref a :: st))) := by
  subst hp hvs
  obtain ⟨cl, A, q1, S, q3, H, G⟩ := F
  obtain ⟨T', h', X', e', W', q⟩ := stZ X K.1 K.2.2.1 eT A (inb_of S hj) (g := mkF m pc Ls (.int x :: .int j :: .ref a :: st)) rfl rfl (K.at hd)
  exact (k T' h' X' e' W' (Arv.set A q1 S q3 H G (fits_nar_bool x) W' i hi hl)).via q
theorem own_aastore (K : Ctx p s m c Z B own ml) (X : Stand p l e R s m args below meth c T locs cells slots) {x : Value} {i : Nat} {vs' : List Value} (eT : T.heap = h) (F : Arv Z h a kc ty n vs dv) (hr : ty.isReference = true) (hf : fits ty x = true) (O : Sto Z h a x) (hj : ¬ j < 0 ∧ j < n) (hi : j.toNatClampNeg = i) (hl : i < vs.length) (hvs : vs.set i x = vs') (hd : decode B pc = .ok (.aastore, 1)) (hp : pc + 1 = pc')
    (k : ∀ T' h', Stand p l e R s m args below meth c T' (locs ++ [⟨a, j.toNatClampNeg⟩]) cells slots → T'.heap = h' → Wr h h' a j.toNatClampNeg x → Arv Z h' a kc ty n vs' dv → Go p e below W (T'.setTop (mkF m pc' Ls st))) : Go p e below W (T.setTop (mkF m pc Ls (x :: .int j :: .ref a :: st))) := by
  subst hp hvs
  obtain ⟨cl, A, q1, S, q3, H, G⟩ := F
  obtain ⟨T', h', X', e', W', q⟩ := stR X K.1 K.2.2.1 eT A (inb_of S hj) hr O (g := mkF m pc Ls (x :: .int j :: .ref a :: st)) rfl rfl (K.at hd)
  exact (k T' h' X' e' W' (Arv.set A q1 S q3 H G hf W' i hi hl)).via q
theorem own_newP (K : Ctx p s m c Z B own ml) (X : Stand p l e R s m args below meth c T locs cells slots) {aty : ArrayType} {cap N : Nat} (eT : T.heap = h) (w : (Jvm.Cond.arrayClass (newarray.typeOf aty)).before a0 Z = true) (hn : ¬ n < 0) (hcap : n.toNatClampNeg ≤ cap) (hb : cap * 8 ≤ 536870912) (hc : cells + 1 ≤ R.cells) (hl : slots + cap ≤ R.slots) (hd : decode B pc = .ok (.newarray aty, 2)) (hp : pc + 2 = pc')
    (k : ∀ T' h' b kA, Stand p l e R s m args below meth c T' locs (cells + 1) (slots + cap) → T'.heap = h' → b = h.size → Ext h h' → Arv Z h' b kA (newarray.typeOf aty) n (List.replicate N (defaultValue (newarray.typeOf aty))) (defaultValue (newarray.typeOf aty)) → Go p e below W (T'.setTop (mkF m pc' Ls (.ref b :: st)))) : Go p e below W (T.setTop (mkF m pc Ls (.int n :: st))) := by
  subst hp
  obtain ⟨T', h', kA, X', e', E', A', q⟩ := newP X K.1 K.2.2.1 w eT (g := mkF m pc Ls (.int n :: st)) rfl (K.at hd) rfl hn hcap hb hc hl
  exact (k T' h' _ kA X' e' rfl E' ((Arv.new A' hn).pad (pad_rep [] _ N))).via q
theorem own_newR (K : Ctx p s m c Z B own ml) (X : Stand p l e R s m args below meth c T locs cells slots) {C : String} {index cap N : Nat} (eT : T.heap = h) (w1 : (Jvm.Cond.classLink own index C).before a0 Z = true) (w2 : (Jvm.Cond.arrayOver (.object C)).before a0 Z = true) (hn : ¬ n < 0) (hcap : n.toNatClampNeg ≤ cap) (hb : cap * 8 ≤ 536870912) (hc : cells + 1 ≤ R.cells) (hl : slots + cap ≤ R.slots) (hd : decode B pc = .ok (.anewarray index, 3)) (hp : pc + 3 = pc')
    (k : ∀ T' h' b kA, Stand p l e R s m args below meth c T' locs (cells + 1) (slots + cap) → T'.heap = h' → b = h.size → Ext h h' → Arv Z h' b kA (.object C) n (List.replicate N .null) .null → Ovr Z kA C → Go p e below W (T'.setTop (mkF m pc' Ls (.ref b :: st)))) : Go p e below W (T.setTop (mkF m pc Ls (.int n :: st))) := by
  subst hp
  obtain ⟨T', h', kA, X', e', E', A', O', q⟩ := newR X K.1 K.2.2.1 K.2.2.2.1 w1 w2 eT (g := mkF m pc Ls (.int n :: st)) rfl (K.at hd) rfl hn hcap hb hc hl
  exact (k T' h' _ kA X' e' rfl E' ((Arv.new A' hn).pad (pad_rep [] _ N)) O').via q
theorem own_clone (K : Ctx p s m c Z B own ml) (X : Stand p l e R s m args below meth c T locs cells slots) {ad : String} {index cap : Nat} (eT : T.heap = h) (w1 : (Jvm.Cond.methodLink own index ⟨ad, "clone", "()Ljava/lang/Object;"⟩).before a0 Z = true) (w2 : (Jvm.Cond.sameMethod ad "java/lang/Object" "clone" "()Ljava/lang/Object;").before a0 Z = true) (w3 : (Jvm.Cond.native ⟨"java/lang/Object", "clone", "()Ljava/lang/Object;"⟩).before a0 Z = true) (w4 : (Jvm.Cond.instanceMethod ⟨"java/lang/Object", "clone", "()Ljava/lang/Object;"⟩).before a0 Z = true) (w5 : (Jvm.Cond.selects ad ⟨ad, "clone", "()Ljava/lang/Object;"⟩ ⟨"java/lang/Object", "clone", "()Ljava/lang/Object;"⟩).before a0 Z = true) (w6 : (Jvm.Cond.castable ad "java/lang/Cloneable").before a0 Z = true)
    (F : Arv Z h a kc ty n vs dv) (E : Exa Z h a ad) (hd : decode B pc = .ok (.invokevirtual index, 3)) (hsz : Ls.size = ml) (hf : 1 ≤ R.frames) (hl : (st.map fun v => v.category).sum + 14 ≤ R.locals) (hcap : n.toNatClampNeg ≤ cap) (hc : cells + 1 ≤ R.cells) (hsl : slots + cap ≤ R.slots) (hp : pc + 3 = pc')
    (k : ∀ T' h' b, Stand p l e R s m args below meth c T' locs (cells + 1) (slots + cap) → T'.heap = h' → b = h.size → Ext h h' → Arv Z h' b kc ty n vs dv → Exa Z h' b ad → Go p e below W (T'.setTop (mkF m pc' Ls (.ref b :: st)))) : Go p e below W (T.setTop (mkF m pc Ls (.ref a :: st))) := by
  subst hp
  obtain ⟨T', h', X', e', E', A', O', q⟩ := cloneH X K.1 K.2.2.1 K.2.2.2.1 w1 w2 w3 w4 w5 w6 eT F.arh E (g := mkF m pc Ls (.ref a :: st)) rfl (hsz.trans K.2.2.2.2.symm) rfl (K.at hd) hf (W := (st.map fun v => v.category).sum) (by show 2 * 0 + _ ≤ _; omega) hl hcap hc hsl
  exact (k T' h' _ X' e' rfl E' A' O').via q
theorem own_cast (K : Ctx p s m c Z B own ml) (X : Stand p l e R s m args below meth c T locs cells slots) {C : String} {index : Nat} (eT : T.heap = h) (w : (Jvm.Cond.classLink own index C).before a0 Z = true) (F : Ins Z h a C true) (hd : decode B pc = .ok (.checkcast index, 3)) (hp : pc + 3 = pc') (k : ∀ T', Stand p l e R s m args below meth c T' locs cells slots → T'.heap = h → Go p e below W (T'.setTop (mkF m pc' Ls (.ref a :: st)))) : Go p e below W (T.setTop (mkF m pc Ls (.ref a :: st))) := by
  subst hp
  obtain ⟨T', X', e', q⟩ := castY X K.1 K.2.2.1 K.2.2.2.1 w eT F (g := mkF m pc Ls (.ref a :: st)) rfl rfl (K.at hd)
  exact (k T' X' e').via q
end OwnArr
section OwnWide
variable {p : Program} {l : Launch} {e : Env} {R : Room} {s : State} {m : MethodId} {args : Array Value} {below : List Frame} {meth : Method} {c : Code} {T : State} {locs : List Loc} {cells slots : Nat} {Z : State} {a0 : Array Value} {h : Heap} {W : Outcome → State → Prop} {B : ByteArray} {own : String} {ml : Nat} {pc pc' : Nat} {Ls : Array Slot} {st : List Value} {vm0 : Vm}
def EndW (s : State) (R : Room) (Q : Option Value → Heap → List Loc → Prop) (o : Outcome) (U : State) : Prop := ∃ v L, o = .returned v ∧ Q v U.heap L ∧ ReturnedEndW s o U L R.cells R.slots
/-- the law's own contract: it starts at Z itself -/
def ConL (l : Launch) (y : MethodName) (B : ByteArray) (ml : Nat) (rt : Option FieldType) (ws : List Jvm.Cond) (rm : Room) (Z : State) (as' : Array Value) (Q : Option Value → Heap → List Loc → Prop) : Prop :=
  MetFree l y (head1 (Jvm.Cond.code y B ml rt :: ws) rm) (fun a U => a = as' ∧ U = Z) (fun _ _ _ _ _ => True) (fun _ U o U' => EndW U rm Q o U')
theorem own_enterL {y : MethodName} {rt : Option FieldType} {ws : List Jvm.Cond} {rm : Room} {as' : Array Value} {Q : Option Value → Heap → List Loc → Prop} (hpl : plainFor y = true) (hef : ∀ m, entryFrame m as' ml = mkF m 0 Ls [])
    (body : ∀ (p : Program) (e : Env) (m : MethodId) (below : List Frame) (meth : Method) (c : Code) (T : State), Ctx p (Z.setVm Z.vm) m c Z B y.cls ml → Stand p l e rm (Z.setVm Z.vm) m as' below meth c T [] 0 0 → T.heap = Z.heap → meth.sig.returnType = rt → meth.locks = false → meth.name = y.name → Z.Since Z.vm Z.heap.size →
      Go p e below (EndW Z rm Q) (T.setTop (mkF m 0 Ls []))) : ConL l y B ml rt ws rm Z as' Q := by
  refine MetFree.of_bodySF hpl hisR ?_
  intro p e s m args below meth c s₁ Bd hml0 hP hK
  obtain ⟨rfl, rfl⟩ := hP
  have k := body p e m below meth c s₁ ⟨Bd.exec, Bd.bytes, State.Warmed39.refl s, findClass_of_methodNamed Bd.named, hml0⟩ (Stand.of_body Bd) (by rw [Bd.state]; rfl) Bd.returns Bd.notSynchronized (name_of_methodNamed Bd.named Bd.method).1 ((State.WarmedH.refl s).since _)
  rw [← hef] at k
  exact k
theorem own_ldcS {own' : String} {index n : Nat} {text : String} {Ts : List String} {k0 : Nat} {vs : List Value} {z : Int32} (K : Ctx p (s.setVm vm0) m c Z B own ml) (X : Stand p l e R (s.setVm vm0) m args below meth c T locs cells slots) (eT : T.heap = h) (w : (Jvm.Cond.stringLink own index text).before a0 Z = true) (wS : ∀ a ∈ Bundle.stringAtoms, a.before a0 Z = true)
    (hS : s.Since vm0 k0) (hk : k0 ≤ h.size) (N : Fr s.heap.size locs) (hkeep : ∀ (b : Addr) (cl : Cell), Z.heap[b]? = some cl → s.heap[b]? = some cl) (I : IB Z vm0 Ts) (hnot : text ∉ Ts) (hh : Jvm.Lit.constHeld Z own index) (hcw : Jvm.Lit.compactW.before a0 Z = true)
    (ht : (∀ c ∈ text.toList, c.toNat < 256) ∧ text.toList.map (fun c => Value.int (Jvm.Lit.byteI c.toNat.toUInt16)) = vs) (hz : ¬ z < 0) (hl : z.toNatClampNeg = vs.length) (hd : decode B pc = .ok (.ldc index, 2)) (hn : 4 * text.toList.length ≤ n) (hbig : n ≤ 536870912) (hc : cells + 2 ≤ R.cells) (hl' : slots + (n + 4) ≤ R.slots) (hp : pc + 2 = pc')
    (k : ∀ a T' h' k1 b kc, Ctx p (s.setVm T'.vm) m c Z B own ml → Stand p l e R (s.setVm T'.vm) m args below meth c T' locs (cells + 2) (slots + (n + 4)) → T'.heap = h' → Ext h h' → s.Since T'.vm k1 → k1 ≤ h'.size → Exa Z h' a "java/lang/String" → Fld Z h' a "java/lang/String" "coder" "B" (.int 0) → Fld Z h' a "java/lang/String" "value" "[B" (.ref b) → Arv Z h' b kc .byte z vs (.int 0) → IB Z T'.vm (text :: Ts) → Go p e below W (T'.setTop (mkF m pc' Ls (.ref a :: st)))) : Go p e below W (T.setTop (mkF m pc Ls st)) := by
  subst hp
  obtain ⟨a, T', h', k1, b, kc, X', e', E', S', hk', hZ', ho', A', F1, F2, V', -, -, I', q⟩ := ldcSV X K.1 K.2.2.1 K.2.2.2.1 w wS eT hS hk N hkeep I hnot hh hcw ht hz hl (g := mkF m pc Ls st) rfl (K.at hd) hn hbig hc hl'
  exact (k a T' h' k1 b kc ⟨K.1, K.2.1, hZ', ho', K.2.2.2.2⟩ X' e' E' S' hk' A' F1 F2 V' I').via q
theorem own_retW {Q : Option Value → Heap → List Loc → Prop} {g : JFrame} {n : Nat} (X : Stand p l e R (s.setVm vm0) m args below meth c T locs cells slots) (hS : s.Since vm0 n) (hn : n ≤ T.heap.size) (hlk : meth.locks = false) {v : Option Value} (hv : meth.sig.returnType = none → v = none)
    (hstep : ∀ fs, (∀ (f : JFrame) (acts : List Action), f.method = m → f.locked = none → f.entered = [] → (doReturn e (T.setTop f) acts v).1 = T.setFrames fs) → Steps p.tables e below (T.setTop g) (T.setFrames fs)) (hc : cells ≤ R.cells) (hs : slots ≤ R.slots) (hq : Q v T.heap locs) : Go p e below (EndW s R Q) (T.setTop g) := by
  obtain ⟨fs, hr, hrun, hended, h1, h2, h3, h4⟩ := X.leaveW hS hn hv hlk
  exact ⟨_, _, hstep fs hr, hrun, hended, v, locs, rfl, hq, h1, h2, h3, h4.mono hc hs⟩
theorem own_retNW {Q : Option Value → Heap → List Loc → Prop} {n : Nat} (K : Ctx p (s.setVm vm0) m c Z B own ml) (X : Stand p l e R (s.setVm vm0) m args below meth c T locs cells slots) (hS : s.Since vm0 n) (hn : n ≤ T.heap.size) {t : FieldType} (hret : meth.sig.returnType = some t) (hlk : meth.locks = false) {z z' : Int32} (ht : t = .boolean ∨ t = .byte ∨ t = .char ∨ t = .short) (hz : nar t z = z') (hd : decode B pc = .ok (.ireturn, 1)) (hc : cells ≤ R.cells) (hs : slots ≤ R.slots) (hq : Q (some (.int z')) T.heap locs) : Go p e below (EndW s R Q) (T.setTop (mkF m pc Ls (.int z :: st))) := by
  subst hz
  exact own_retW X hS hn hlk (fun h => by rw [hret] at h; cases h) (fun fs hr => retN X K.1 hret ht (K.at hd) hr) hc hs hq
end OwnWide
theorem own_sat {Z : State} {a0 : Array Value} (hw : ∀ d ∈ tables_1, d.before a0 Z = true) : ∀ a ∈ Bundle.stringAtoms, a.before a0 Z = true := by
  intro a ha
  simp only [Bundle.stringAtoms, List.mem_cons, List.not_mem_nil, or_false] at ha
  rcases ha with rfl | rfl | rfl | rfl | rfl | rfl | rfl
  · exact own_w hw 9 rfl
  · exact own_w hw 10 rfl
  · exact own_w hw 11 rfl
  · exact own_w hw 12 rfl
  · exact own_w hw 13 rfl
  · exact own_w hw 14 rfl
  · exact own_w hw 15 rfl
theorem own_n {p1 : Int32} : ¬ (1 : Int32) + (p1 &&& (63 : Int32)) < 1 := by
  have h1 := c_and p1 63 (by decide)
  have h2 := c_iadd 1 (p1 &&& 63)
  have h3 := rng32 (1 + (p1 &&& 63))
  have h4 : (1 : Int32).toInt = 1 := by decide
  have h5 : (63 : Int32).toInt = 63 := by decide
  rw [Int32.lt_iff_toInt_lt]
  omega
theorem own_j {n : Int32} (h1 : ¬ n < 1) (h2 : n < 26) : ∃ j : Nat, j < 25 ∧ n = Int32.ofNat (j + 1) := by
  rw [Int32.lt_iff_toInt_lt] at h1 h2
  have h4 : (1 : Int32).toInt = 1 := by decide
  have h5 : (26 : Int32).toInt = 26 := by decide
  refine ⟨(n.toInt - 1).toNat, by omega, ?_⟩
  rw [← Int32.toInt_inj, Int32.toInt_ofNat_of_lt (by omega)]
  omega
theorem own_pick {n : Int32} (h1 : ¬ n < 1) (h2 : n < 26) : ∃ x r : Int32, ¬ n - 1 < 0 ∧ n - 1 < 26 ∧ ([.int 65, .int 66, .int 67, .int 68, .int 69, .int 70, .int 71, .int 72, .int 73, .int 74, .int 75, .int 76, .int 77, .int 78, .int 79, .int 80, .int 81, .int 82, .int 83, .int 84, .int 85, .int 86, .int 87, .int 88, .int 89, .int 90] : List Value).getD (n - 1).toNatClampNeg (.int 0) = .int x ∧ nar .char ((x &&& (255 : Int32)).toUInt32.toUInt16.toUInt32.toInt32) = r ∧ nar .char r = r ∧ nar .char (((64 : Int32) + n).toUInt32.toUInt16.toUInt32.toInt32) = r ∧ n = (if 26 < n then 26 else n) := by
  obtain ⟨j, hj, rfl⟩ := own_j h1 h2
  rcases (by omega : j = 0 ∨ j = 1 ∨ j = 2 ∨ j = 3 ∨ j = 4 ∨ j = 5 ∨ j = 6 ∨ j = 7 ∨ j = 8 ∨ j = 9 ∨ j = 10 ∨ j = 11 ∨ j = 12 ∨ j = 13 ∨ j = 14 ∨ j = 15 ∨ j = 16 ∨ j = 17 ∨ j = 18 ∨ j = 19 ∨ j = 20 ∨ j = 21 ∨ j = 22 ∨ j = 23 ∨ j = 24) with rfl | rfl | rfl | rfl | rfl | rfl | rfl | rfl | rfl | rfl | rfl | rfl | rfl | rfl | rfl | rfl | rfl | rfl | rfl | rfl | rfl | rfl | rfl | rfl | rfl
  · exact ⟨65, 65, by decide, by decide, rfl, by decide, by decide, by decide, by decide⟩
  · exact ⟨66, 66, by decide, by decide, rfl, by decide, by decide, by decide, by decide⟩
  · exact ⟨67, 67, by decide, by decide, rfl, by decide, by decide, by decide, by decide⟩
  · exact ⟨68, 68, by decide, by decide, rfl, by decide, by decide, by decide, by decide⟩
  · exact ⟨69, 69, by decide, by decide, rfl, by decide, by decide, by decide, by decide⟩
  · exact ⟨70, 70, by decide, by decide, rfl, by decide, by decide, by decide, by decide⟩
  · exact ⟨71, 71, by decide, by decide, rfl, by decide, by decide, by decide, by decide⟩
  · exact ⟨72, 72, by decide, by decide, rfl, by decide, by decide, by decide, by decide⟩
  · exact ⟨73, 73, by decide, by decide, rfl, by decide, by decide, by decide, by decide⟩
  · exact ⟨74, 74, by decide, by decide, rfl, by decide, by decide, by decide, by decide⟩
  · exact ⟨75, 75, by decide, by decide, rfl, by decide, by decide, by decide, by decide⟩
  · exact ⟨76, 76, by decide, by decide, rfl, by decide, by decide, by decide, by decide⟩
  · exact ⟨77, 77, by decide, by decide, rfl, by decide, by decide, by decide, by decide⟩
  · exact ⟨78, 78, by decide, by decide, rfl, by decide, by decide, by decide, by decide⟩
  · exact ⟨79, 79, by decide, by decide, rfl, by decide, by decide, by decide, by decide⟩
  · exact ⟨80, 80, by decide, by decide, rfl, by decide, by decide, by decide, by decide⟩
  · exact ⟨81, 81, by decide, by decide, rfl, by decide, by decide, by decide, by decide⟩
  · exact ⟨82, 82, by decide, by decide, rfl, by decide, by decide, by decide, by decide⟩
  · exact ⟨83, 83, by decide, by decide, rfl, by decide, by decide, by decide, by decide⟩
  · exact ⟨84, 84, by decide, by decide, rfl, by decide, by decide, by decide, by decide⟩
  · exact ⟨85, 85, by decide, by decide, rfl, by decide, by decide, by decide, by decide⟩
  · exact ⟨86, 86, by decide, by decide, rfl, by decide, by decide, by decide, by decide⟩
  · exact ⟨87, 87, by decide, by decide, rfl, by decide, by decide, by decide, by decide⟩
  · exact ⟨88, 88, by decide, by decide, rfl, by decide, by decide, by decide, by decide⟩
  · exact ⟨89, 89, by decide, by decide, rfl, by decide, by decide, by decide, by decide⟩
theorem d1_0 : decode prog_10_method_7_code 0 = .ok (.iload_n 0, 1) := by decide +kernel
theorem d1_1 : decode prog_10_method_7_code 1 = .ok (.iconst 1, 1) := by decide +kernel
theorem d1_2 : decode prog_10_method_7_code 2 = .ok (.if_icmp .ge 17, 3) := by decide +kernel
theorem d1_19 : decode prog_10_method_7_code 19 = .ok (.bipush 64, 2) := by decide +kernel
theorem d1_21 : decode prog_10_method_7_code 21 = .ok (.iload_n 0, 1) := by decide +kernel
theorem d1_22 : decode prog_10_method_7_code 22 = .ok (.bipush 26, 2) := by decide +kernel
theorem d1_24 : decode prog_10_method_7_code 24 = .ok (.invokestatic 173, 3) := by decide +kernel
theorem d1_27 : decode prog_10_method_7_code 27 = .ok (.iadd, 1) := by decide +kernel
theorem d1_28 : decode prog_10_method_7_code 28 = .ok (.i2c, 1) := by decide +kernel
theorem d1_29 : decode prog_10_method_7_code 29 = .ok (.ireturn, 1) := by decide +kernel
theorem d2_0 : decode jdk_29_method_69_code 0 = .ok (.iload_n 0, 1) := by decide +kernel
theorem d2_1 : decode jdk_29_method_69_code 1 = .ok (.iload_n 1, 1) := by decide +kernel
theorem d2_2 : decode jdk_29_method_69_code 2 = .ok (.if_icmp .gt 7, 3) := by decide +kernel
theorem d2_5 : decode jdk_29_method_69_code 5 = .ok (.iload_n 0, 1) := by decide +kernel
theorem d2_6 : decode jdk_29_method_69_code 6 = .ok (.goto 4, 3) := by decide +kernel
theorem d2_9 : decode jdk_29_method_69_code 9 = .ok (.iload_n 1, 1) := by decide +kernel
theorem d2_10 : decode jdk_29_method_69_code 10 = .ok (.ireturn, 1) := by decide +kernel
theorem d3_0 : decode jdk_42_method_56_code 0 = .ok (.aload_n 0, 1) := by decide +kernel
theorem d3_1 : decode jdk_42_method_56_code 1 = .ok (.invokevirtual 492, 3) := by decide +kernel
theorem d3_4 : decode jdk_42_method_56_code 4 = .ok (.ifCond .eq 12, 3) := by decide +kernel
theorem d3_7 : decode jdk_42_method_56_code 7 = .ok (.aload_n 0, 1) := by decide +kernel
theorem d3_8 : decode jdk_42_method_56_code 8 = .ok (.getfield 9, 3) := by decide +kernel
theorem d3_11 : decode jdk_42_method_56_code 11 = .ok (.iload_n 1, 1) := by decide +kernel
theorem d3_12 : decode jdk_42_method_56_code 12 = .ok (.invokestatic 495, 3) := by decide +kernel
theorem d3_15 : decode jdk_42_method_56_code 15 = .ok (.ireturn, 1) := by decide +kernel
theorem d4_0 : decode jdk_42_method_154_code 0 = .ok (.getstatic 38, 3) := by decide +kernel
theorem d4_3 : decode jdk_42_method_154_code 3 = .ok (.ifCond .eq 14, 3) := by decide +kernel
theorem d4_6 : decode jdk_42_method_154_code 6 = .ok (.aload_n 0, 1) := by decide +kernel
theorem d4_7 : decode jdk_42_method_154_code 7 = .ok (.getfield 15, 3) := by decide +kernel
theorem d4_10 : decode jdk_42_method_154_code 10 = .ok (.ifCond .ne 7, 3) := by decide +kernel
theorem d4_13 : decode jdk_42_method_154_code 13 = .ok (.iconst 1, 1) := by decide +kernel
theorem d4_14 : decode jdk_42_method_154_code 14 = .ok (.goto 4, 3) := by decide +kernel
theorem d4_18 : decode jdk_42_method_154_code 18 = .ok (.ireturn, 1) := by decide +kernel
theorem d5_0 : decode jdk_43_method_2_code 0 = .ok (.iload_n 1, 1) := by decide +kernel
theorem d5_1 : decode jdk_43_method_2_code 1 = .ok (.aload_n 0, 1) := by decide +kernel
theorem d5_2 : decode jdk_43_method_2_code 2 = .ok (.arraylength, 1) := by decide +kernel
theorem d5_3 : decode jdk_43_method_2_code 3 = .ok (.invokestatic 9, 3) := by decide +kernel
theorem d5_6 : decode jdk_43_method_2_code 6 = .ok (.aload_n 0, 1) := by decide +kernel
theorem d5_7 : decode jdk_43_method_2_code 7 = .ok (.iload_n 1, 1) := by decide +kernel
theorem d5_8 : decode jdk_43_method_2_code 8 = .ok (.baload, 1) := by decide +kernel
theorem d5_9 : decode jdk_43_method_2_code 9 = .ok (.sipush 255, 3) := by decide +kernel
theorem d5_12 : decode jdk_43_method_2_code 12 = .ok (.iand, 1) := by decide +kernel
theorem d5_13 : decode jdk_43_method_2_code 13 = .ok (.i2c, 1) := by decide +kernel
theorem d5_14 : decode jdk_43_method_2_code 14 = .ok (.ireturn, 1) := by decide +kernel
theorem d6_0 : decode jdk_42_method_155_code 0 = .ok (.iload_n 0, 1) := by decide +kernel
theorem d6_1 : decode jdk_42_method_155_code 1 = .ok (.iload_n 1, 1) := by decide +kernel
theorem d6_2 : decode jdk_42_method_155_code 2 = .ok (.getstatic 1053, 3) := by decide +kernel
theorem d6_5 : decode jdk_42_method_155_code 5 = .ok (.invokestatic 1059, 3) := by decide +kernel
theorem d6_8 : decode jdk_42_method_155_code 8 = .ok (.pop, 1) := by decide +kernel
theorem d6_9 : decode jdk_42_method_155_code 9 = .ok (.return_, 1) := by decide +kernel
theorem d7_0 : decode jdk_41_method_11_code 0 = .ok (.iload_n 0, 1) := by decide +kernel
theorem d7_1 : decode jdk_41_method_11_code 1 = .ok (.ifCond .lt 8, 3) := by decide +kernel
theorem d7_4 : decode jdk_41_method_11_code 4 = .ok (.iload_n 0, 1) := by decide +kernel
theorem d7_5 : decode jdk_41_method_11_code 5 = .ok (.iload_n 1, 1) := by decide +kernel
theorem d7_6 : decode jdk_41_method_11_code 6 = .ok (.if_icmp .lt 10, 3) := by decide +kernel
theorem d7_16 : decode jdk_41_method_11_code 16 = .ok (.iload_n 0, 1) := by decide +kernel
theorem d7_17 : decode jdk_41_method_11_code 17 = .ok (.ireturn, 1) := by decide +kernel
theorem pd_0 : parseMethodDescriptor "(II)I" = some ⟨[.int, .int], some .int⟩ := by decide +kernel
theorem pd_1 : parseMethodDescriptor "(IILjava/util/function/BiFunction;)I" = some ⟨[.int, .int, (.object "java/util/function/BiFunction")], some .int⟩ := by decide +kernel
theorem pd_2 : parseMethodDescriptor "(II)V" = some ⟨[.int, .int], none⟩ := by decide +kernel
theorem pd_3 : parseMethodDescriptor "()Z" = some ⟨[], some .boolean⟩ := by decide +kernel
theorem pd_4 : parseMethodDescriptor "([BI)C" = some ⟨[(.array .byte), .int], some .char⟩ := by decide +kernel
theorem pd_5 : parseMethodDescriptor "(I)C" = some ⟨[.int], some .char⟩ := by decide +kernel
set_option maxRecDepth 65536 in
set_option maxHeartbeats 40000000 in
theorem rmMin (l : Launch) (Z : State) (a0 : Array Value) (hw : ∀ d ∈ tables_1, d.before a0 Z = true) (ws : List Jvm.Cond) (p1 p2 r : Int32) (h0 : Heap) (n0 : Nat) (hr : r = if p2 < p1 then p2 else p1) :
    Con l (⟨"java/lang/Math", "min", "(II)I"⟩ : MethodName) jdk_29_method_69_code 2 (some .int) ws ({ frames := 0, cells := 0, slots := 0, locals := 0 } : Room) Z #[(.int p1), (.int p2)] h0 (fun v h L => v = some (.int r) ∧ Fr n0 L ∧ h = h0) := by
  refine own_enter (Ls := #[.val (.int p1), .val (.int p2)]) (by first | (simp [plainFor, plainName, overriddenIn]; done) | decide +kernel) (fun m => by first | (simp [entryFrame, mkF, argsToLocals, Value.category, maxLocals]; done) | rfl) fun p e s m below meth c T0 K X0 e0 hrt hlk hnm => ?_
  have N0 := Fr.nil n0
  have KB0 := Keep.refl h0 []
  refine own_iloadN (pc' := 1) K X0 d2_0 rfl rfl ?_
  refine own_iloadN (pc' := 2) K X0 d2_1 rfl rfl ?_
  by_cases q1 : p2 < p1
  · refine own_icmpYes (pc' := 9) K X0 d2_2 (tlt q1).2.2.1 (by decide) (by decide) ?_
    refine own_iloadN (pc' := 10) K X0 d2_9 rfl rfl ?_
    exact own_retI K X0 hrt hlk d2_10 (own_le rfl) (own_le rfl) (by (try rw [e0]); exact ⟨by rw [hr, if_pos q1], N0, rfl⟩)
  · refine own_icmpNo (pc' := 5) K X0 d2_2 (flt q1).2.2.1 rfl ?_
    refine own_iloadN (pc' := 6) K X0 d2_5 rfl rfl ?_
    refine own_goto (pc' := 10) K X0 d2_6 (by decide) (by decide) ?_
    exact own_retI K X0 hrt hlk d2_10 (own_le rfl) (own_le rfl) (by (try rw [e0]); exact ⟨by rw [hr, if_neg q1], N0, rfl⟩)
set_option maxRecDepth 65536 in
set_option maxHeartbeats 40000000 in
theorem rmSy (l : Launch) (Z : State) (a0 : Array Value) (hw : ∀ d ∈ tables_1, d.before a0 Z = true) (ws : List Jvm.Cond) (n mn r : Int32) (h0 : Heap) (n0 : Nat) (hn1 : ¬ n < 1) (hm : mn = if 26 < n then 26 else n) (hr : nar .char (((64 : Int32) + mn).toUInt32.toUInt16.toUInt32.toInt32) = r) :
    Con l (⟨"com/example/veilquery/veilquery/scheme/PairCode", "symbol", "(I)C"⟩ : MethodName) prog_10_method_7_code 1 (some .char) ws ({ frames := 1, cells := 0, slots := 0, locals := 16 } : Room) Z #[(.int n)] h0 (fun v h L => v = some (.int r) ∧ Fr n0 L ∧ h = h0) := by
  refine own_enter (Ls := #[.val (.int n)]) (by first | (simp [plainFor, plainName, overriddenIn]; done) | decide +kernel) (fun m => by first | (simp [entryFrame, mkF, argsToLocals, Value.category, maxLocals]; done) | rfl) fun p e s m below meth c T0 K X0 e0 hrt hlk hnm => ?_
  have N0 := Fr.nil n0
  have KB0 := Keep.refl h0 []
  refine own_iloadN (pc' := 1) K X0 d1_0 rfl rfl ?_
  refine own_iconst (v := (1 : Int32)) (pc' := 2) K X0 d1_1 rfl rfl ?_
  refine own_icmpYes (pc' := 19) K X0 d1_2 (flt hn1).2.1 (by decide) (by decide) ?_
  refine own_bipush (v := (64 : Int32)) (pc' := 21) K X0 d1_19 rfl rfl ?_
  refine own_iloadN (pc' := 22) K X0 d1_21 rfl rfl ?_
  refine own_bipush (v := (26 : Int32)) (pc' := 24) K X0 d1_22 rfl rfl ?_
  refine own_callS (pc' := 27) (argsL := [(.int n), (.int (26 : Int32))]) (rest := [(.int (64 : Int32))]) K X0 e0 (own_w hw 4 rfl) (own_w hw 5 rfl) (own_w hw 6 rfl) (own_w hw 7 rfl) (rmMin l Z a0 hw [] n 26 mn h0 n0 hm) d1_24 pd_0 rfl rfl rfl (by decide) (own_le rfl) (own_le rfl) (own_le rfl) (own_le rfl) rfl fun v1 T1 L1 X1 hQ1 => ?_
  obtain ⟨rfl, N1q, e1⟩ := hQ1
  have N1 := Fr.app N0 N1q
  show Go p e below _ (T1.setTop (mkF m 27 #[.val (.int n)] [(.int mn), (.int (64 : Int32))]))
  refine own_iadd (pc' := 28) K X1 d1_27 rfl ?_
  refine own_i2c (pc' := 29) K X1 d1_28 rfl ?_
  exact own_retN (t := .char) (z' := r) K X1 hrt hlk (by simp) hr d1_29 (own_le rfl) (own_le rfl) (by (try rw [e1]); exact ⟨rfl, N1, rfl⟩)
set_option maxRecDepth 65536 in
set_option maxHeartbeats 40000000 in
theorem rmIs (l : Launch) (Z : State) (a0 : Array Value) (hw : ∀ d ∈ tables_1, d.before a0 Z = true) (ws : List Jvm.Cond) (a1 : Addr) (cs : Int32) (h0 : Heap) (n0 : Nat) (S_C : Sta Z h0 "java/lang/String" "COMPACT_STRINGS" "Z" (.int cs)) (hcs : ¬ cs = 0) (F1 : Fld Z h0 a1 "java/lang/String" "coder" "B" (.int (0 : Int32))) :
    Con l (⟨"java/lang/String", "isLatin1", "()Z"⟩ : MethodName) jdk_42_method_154_code 1 (some .boolean) ws ({ frames := 0, cells := 0, slots := 0, locals := 0 } : Room) Z #[(.ref a1)] h0 (fun v h L => v = some (.int 1) ∧ Fr n0 L ∧ h = h0) := by
  refine own_enter (Ls := #[.val (.ref a1)]) (by first | (simp [plainFor, plainName, overriddenIn]; done) | decide +kernel) (fun m => by first | (simp [entryFrame, mkF, argsToLocals, Value.category, maxLocals]; done) | rfl) fun p e s m below meth c T0 K X0 e0 hrt hlk hnm => ?_
  have N0 := Fr.nil n0
  have KB0 := Keep.refl h0 []
  refine own_getS (pc' := 3) K X0 e0 (own_w hw 26 rfl) Via.refl S_C d4_0 rfl fun T1 X1 e1 => ?_
  refine own_ifNo (pc' := 6) K X1 d4_3 (feq hcs).1 rfl ?_
  refine own_aloadN (pc' := 7) K X1 d4_6 rfl rfl rfl ?_
  refine own_getF (pc' := 10) K X1 e1 (own_w hw 27 rfl) Via.refl F1 d4_7 rfl fun T2 X2 e2 => ?_
  refine own_ifNo (pc' := 13) K X2 d4_10 rfl rfl ?_
  refine own_iconst (v := (1 : Int32)) (pc' := 14) K X2 d4_13 rfl rfl ?_
  refine own_goto (pc' := 18) K X2 d4_14 (by decide) (by decide) ?_
  exact own_retN (t := .boolean) (z' := (1 : Int32)) K X2 hrt hlk (by simp) rfl d4_18 (own_le rfl) (own_le rfl) (by (try rw [e2]); exact ⟨rfl, N0, rfl⟩)
set_option maxRecDepth 65536 in
set_option maxHeartbeats 40000000 in
theorem rmPc (l : Launch) (Z : State) (a0 : Array Value) (hw : ∀ d ∈ tables_1, d.before a0 Z = true) (ws : List Jvm.Cond) (i n : Int32) (fm : Value) (rf : fm.isRef = true) (h0 : Heap) (n0 : Nat) (hi0 : ¬ i < 0) (hin : i < n) :
    Con l (⟨"jdk/internal/util/Preconditions", "checkIndex", "(IILjava/util/function/BiFunction;)I"⟩ : MethodName) jdk_41_method_11_code 3 (some .int) ws ({ frames := 0, cells := 0, slots := 0, locals := 0 } : Room) Z #[(.int i), (.int n), fm] h0 (fun v h L => v = some (.int i) ∧ Fr n0 L ∧ h = h0) := by
  refine own_enter (Ls := #[.val (.int i), .val (.int n), .val fm]) (by first | (simp [plainFor, plainName, overriddenIn]; done) | decide +kernel) (fun m => by rcases ref_cases rf with rfl | ⟨q, rfl⟩ <;> rfl) fun p e s m below meth c T0 K X0 e0 hrt hlk hnm => ?_
  have N0 := Fr.nil n0
  have KB0 := Keep.refl h0 []
  refine own_iloadN (pc' := 1) K X0 d7_0 rfl rfl ?_
  refine own_ifNo (pc' := 4) K X0 d7_1 (flt hi0).1 rfl ?_
  refine own_iloadN (pc' := 5) K X0 d7_4 rfl rfl ?_
  refine own_iloadN (pc' := 6) K X0 d7_5 rfl rfl ?_
  refine own_icmpYes (pc' := 16) K X0 d7_6 (tlt hin).1 (by decide) (by decide) ?_
  refine own_iloadN (pc' := 17) K X0 d7_16 rfl rfl ?_
  exact own_retI K X0 hrt hlk d7_17 (own_le rfl) (own_le rfl) (by (try rw [e0]); exact ⟨rfl, N0, rfl⟩)
set_option maxRecDepth 65536 in
set_option maxHeartbeats 40000000 in
theorem rmCi (l : Launch) (Z : State) (a0 : Array Value) (hw : ∀ d ∈ tables_1, d.before a0 Z = true) (ws : List Jvm.Cond) (i n : Int32) (h0 : Heap) (n0 : Nat) (fm : Value) (rf : fm.isRef = true) (S_F : Sta Z h0 "jdk/internal/util/Preconditions" "SIOOBE_FORMATTER" "Ljava/util/function/BiFunction;" fm) (hi0 : ¬ i < 0) (hin : i < n) :
    Con l (⟨"java/lang/String", "checkIndex", "(II)V"⟩ : MethodName) jdk_42_method_155_code 2 none ws ({ frames := 1, cells := 0, slots := 0, locals := 14 } : Room) Z #[(.int i), (.int n)] h0 (fun v h L => v = none ∧ Fr n0 L ∧ h = h0) := by
  refine own_enter (Ls := #[.val (.int i), .val (.int n)]) (by first | (simp [plainFor, plainName, overriddenIn]; done) | decide +kernel) (fun m => by first | (simp [entryFrame, mkF, argsToLocals, Value.category, maxLocals]; done) | rfl) fun p e s m below meth c T0 K X0 e0 hrt hlk hnm => ?_
  have N0 := Fr.nil n0
  have KB0 := Keep.refl h0 []
  refine own_iloadN (pc' := 1) K X0 d6_0 rfl rfl ?_
  refine own_iloadN (pc' := 2) K X0 d6_1 rfl rfl ?_
  refine own_getS (pc' := 5) K X0 e0 (own_w hw 36 rfl) Via.refl S_F d6_2 rfl fun T1 X1 e1 => ?_
  refine own_callS (pc' := 8) (argsL := [(.int i), (.int n), fm]) (rest := []) K X1 e1 (own_w hw 38 rfl) (own_w hw 39 rfl) (own_w hw 37 rfl) (own_w hw 40 rfl) (rmPc l Z a0 hw [] i n fm rf h0 n0 hi0 hin) d6_5 pd_1 rfl rfl rfl (by decide) (own_le rfl) (own_le rfl) (own_le rfl) (own_le rfl) rfl fun v2 T2 L2 X2 hQ2 => ?_
  obtain ⟨rfl, N2q, e2⟩ := hQ2
  have N2 := Fr.app N0 N2q
  show Go p e below _ (T2.setTop (mkF m 8 #[.val (.int i), .val (.int n)] [(.int i)]))
  refine own_pop (pc' := 9) K X2 d6_8 rfl rfl ?_
  exact own_retV K X2 hrt hlk d6_9 (own_le rfl) (own_le rfl) (by (try rw [e2]); exact ⟨rfl, N2, rfl⟩)
set_option maxRecDepth 65536 in
set_option maxHeartbeats 40000000 in
theorem rmLc (l : Launch) (Z : State) (a0 : Array Value) (hw : ∀ d ∈ tables_1, d.before a0 Z = true) (ws : List Jvm.Cond) (b : Addr) (i x r : Int32) (h0 : Heap) (n0 : Nat) (fm : Value) (rf : fm.isRef = true) (S_F : Sta Z h0 "jdk/internal/util/Preconditions" "SIOOBE_FORMATTER" "Ljava/util/function/BiFunction;" fm) (kb : ClassId) (z : Int32) (vs : List Value) (V1 : Arv Z h0 b kb .byte z vs (.int 0)) (hi0 : ¬ i < 0) (hin : i < z) (hx : vs.getD i.toNatClampNeg (.int 0) = .int x) (hr : nar .char ((x &&& (255 : Int32)).toUInt32.toUInt16.toUInt32.toInt32) = r) :
    Con l (⟨"java/lang/StringLatin1", "charAt", "([BI)C"⟩ : MethodName) jdk_43_method_2_code 2 (some .char) ws ({ frames := 2, cells := 0, slots := 0, locals := 28 } : Room) Z #[(.ref b), (.int i)] h0 (fun v h L => v = some (.int r) ∧ Fr n0 L ∧ h = h0) := by
  refine own_enter (Ls := #[.val (.ref b), .val (.int i)]) (by first | (simp [plainFor, plainName, overriddenIn]; done) | decide +kernel) (fun m => by first | (simp [entryFrame, mkF, argsToLocals, Value.category, maxLocals]; done) | rfl) fun p e s m below meth c T0 K X0 e0 hrt hlk hnm => ?_
  have N0 := Fr.nil n0
  have KB0 := Keep.refl h0 []
  refine own_iloadN (pc' := 1) K X0 d5_0 rfl rfl ?_
  refine own_aloadN (pc' := 2) K X0 d5_1 rfl rfl rfl ?_
  refine own_alen (pc' := 3) K X0 e0 V1 d5_2 rfl ?_
  refine own_callS (pc' := 6) (argsL := [(.int i), (.int z)]) (rest := []) K X0 e0 (own_w hw 33 rfl) (own_w hw 34 rfl) (own_w hw 9 rfl) (own_w hw 35 rfl) (rmCi l Z a0 hw [] i z h0 n0 fm rf S_F hi0 hin) d5_3 pd_2 rfl rfl rfl (by decide) (own_le rfl) (own_le rfl) (own_le rfl) (own_le rfl) rfl fun v1 T1 L1 X1 hQ1 => ?_
  obtain ⟨rfl, N1q, e1⟩ := hQ1
  have N1 := Fr.app N0 N1q
  show Go p e below _ (T1.setTop (mkF m 6 #[.val (.ref b), .val (.int i)] []))
  refine own_aloadN (pc' := 7) K X1 d5_6 rfl rfl rfl ?_
  refine own_iloadN (pc' := 8) K X1 d5_7 rfl rfl ?_
  refine own_baload (pc' := 9) (v := .int x) K X1 e1 V1 ⟨hi0, hin⟩ hx d5_8 rfl ?_
  refine own_sipush (v := (255 : Int32)) (pc' := 12) K X1 d5_9 rfl rfl ?_
  refine own_iand (pc' := 13) K X1 d5_12 rfl ?_
  refine own_i2c (pc' := 14) K X1 d5_13 rfl ?_
  exact own_retN (t := .char) (z' := r) K X1 hrt hlk (by simp) hr d5_14 (own_le rfl) (own_le rfl) (by (try rw [e1]); exact ⟨rfl, N1, rfl⟩)
set_option maxRecDepth 65536 in
set_option maxHeartbeats 40000000 in
theorem rmCh (l : Launch) (Z : State) (a0 : Array Value) (hw : ∀ d ∈ tables_1, d.before a0 Z = true) (ws : List Jvm.Cond) (a1 b : Addr) (cs i x r : Int32) (h0 : Heap) (n0 : Nat) (S_C : Sta Z h0 "java/lang/String" "COMPACT_STRINGS" "Z" (.int cs)) (hcs : ¬ cs = 0) (fm : Value) (rf : fm.isRef = true) (S_F : Sta Z h0 "jdk/internal/util/Preconditions" "SIOOBE_FORMATTER" "Ljava/util/function/BiFunction;" fm) (kb : ClassId) (z : Int32) (vs : List Value) (V1 : Arv Z h0 b kb .byte z vs (.int 0)) (hi0 : ¬ i < 0) (hin : i < z) (hx : vs.getD i.toNatClampNeg (.int 0) = .int x) (hr : nar .char ((x &&& (255 : Int32)).toUInt32.toUInt16.toUInt32.toInt32) = r) (hrr : nar .char r = r) (E1 : Exa Z h0 a1 "java/lang/String") (F1 : Fld Z h0 a1 "java/lang/String" "coder" "B" (.int (0 : Int32))) (F2 : Fld Z h0 a1 "java/lang/String" "value" "[B" (.ref b)) :
    Con l (⟨"java/lang/String", "charAt", "(I)C"⟩ : MethodName) jdk_42_method_56_code 2 (some .char) ws ({ frames := 3, cells := 0, slots := 0, locals := 41 } : Room) Z #[(.ref a1), (.int i)] h0 (fun v h L => v = some (.int r) ∧ Fr n0 L ∧ h = h0) := by
  refine own_enter (Ls := #[.val (.ref a1), .val (.int i)]) (by first | (simp [plainFor, plainName, overriddenIn]; done) | decide +kernel) (fun m => by first | (simp [entryFrame, mkF, argsToLocals, Value.category, maxLocals]; done) | rfl) fun p e s m below meth c T0 K X0 e0 hrt hlk hnm => ?_
  have N0 := Fr.nil n0
  have KB0 := Keep.refl h0 []
  refine own_aloadN (pc' := 1) K X0 d3_0 rfl rfl rfl ?_
  refine own_callV (pc' := 4) (argsL := []) (rest := []) K X0 e0 (own_w hw 21 rfl) (own_w hw 22 rfl) (notFace_of_selects (args := #[]) (mvT K.2.2.1 (own_w hw 24 rfl))) (own_w hw 24 rfl) (own_w hw 23 rfl) (own_w hw 25 rfl) (own_w hw 9 rfl) E1 (rmIs l Z a0 hw [] a1 cs h0 n0 S_C hcs F1) d3_1 pd_3 rfl rfl rfl (by decide) (own_le rfl) (own_le rfl) (own_le rfl) (own_le rfl) rfl fun v1 T1 L1 X1 hQ1 => ?_
  obtain ⟨rfl, N1q, e1⟩ := hQ1
  have N1 := Fr.app N0 N1q
  show Go p e below _ (T1.setTop (mkF m 4 #[.val (.ref a1), .val (.int i)] [(.int (1 : Int32))]))
  refine own_ifNo (pc' := 7) K X1 d3_4 rfl rfl ?_
  refine own_aloadN (pc' := 8) K X1 d3_7 rfl rfl rfl ?_
  refine own_getF (pc' := 11) K X1 e1 (own_w hw 28 rfl) Via.refl F2 d3_8 rfl fun T2 X2 e2 => ?_
  refine own_iloadN (pc' := 12) K X2 d3_11 rfl rfl ?_
  refine own_callS (pc' := 15) (argsL := [(.ref b), (.int i)]) (rest := []) K X2 e2 (own_w hw 29 rfl) (own_w hw 30 rfl) (own_w hw 31 rfl) (own_w hw 32 rfl) (rmLc l Z a0 hw [] b i x r h0 n0 fm rf S_F kb z vs V1 hi0 hin hx hr) d3_12 pd_4 rfl rfl rfl (by decide) (own_le rfl) (own_le rfl) (own_le rfl) (own_le rfl) rfl fun v3 T3 L3 X3 hQ3 => ?_
  obtain ⟨rfl, N3q, e3⟩ := hQ3
  have N3 := Fr.app N1 N3q
  show Go p e below _ (T3.setTop (mkF m 15 #[.val (.ref a1), .val (.int i)] [(.int r)]))
  exact own_retN (t := .char) (z' := r) K X3 hrt hlk (by simp) hrr d3_15 (own_le rfl) (own_le rfl) (by (try rw [e3]); exact ⟨rfl, N3, rfl⟩)
set_option maxRecDepth 65536 in
set_option maxHeartbeats 40000000 in
theorem rm0 (l : Launch) (Z : State) (a0 : Array Value) (hw : ∀ d ∈ tables_1, d.before a0 Z = true) (ws : List Jvm.Cond) (p1 : Int32) (h0 : Heap) (n0 : Nat) (hh0 : h0 = Z.heap) (hn0 : n0 = Z.heap.size) (cs : Int32) (S_C : Sta Z h0 "java/lang/String" "COMPACT_STRINGS" "Z" (.int cs)) (hcs : ¬ cs = 0) (fm : Value) (rf : fm.isRef = true) (S_F : Sta Z h0 "jdk/internal/util/Preconditions" "SIOOBE_FORMATTER" "Ljava/util/function/BiFunction;" fm) (hheld : Jvm.Lit.constHeld Z "com/example/veilquery/veilquery/scheme/PairCodeSymbolPinLaw" 13) (hcw : Jvm.Lit.compactW.before a0 Z = true) :
    ConL l x code maxLocals ret ws room_1 Z #[(.int p1)] (fun v h L => v = some (.int 1) ∧ Fr n0 L) := by
  refine own_enterL (Ls := #[.val (.int p1), .unset, .unset, .unset, .unset]) (by first | (simp [plainFor, plainName, overriddenIn]; done) | decide +kernel) (fun m => by first | (simp [entryFrame, mkF, argsToLocals, Value.category, maxLocals]; done) | rfl) fun p e m below meth c T0 K X0 e0 hrt hlk hnm hS0 => ?_
  have N0 := Fr.nil n0
  have KB0 := Keep.refl h0 []
  have IB0 : IB Z Z.vm [] := IB.start
  have Z0 : n0 ≤ h0.size := by rw [hn0, hh0]; exact Nat.le_refl _
  rw [← hh0] at e0
  have seg : ∀ n : Int32, ¬ n < 1 → Go p e below (EndW Z room_1 (fun v h L => v = some (.int 1) ∧ Fr n0 L)) (T0.setTop (mkF m 16 #[.val (.int p1), .val (.int n), .unset, .unset, .unset] [])) := by
    intro n hn1
    refine own_iloadN (pc' := 17) K X0 at_16 rfl rfl ?_
    by_cases q1 : n < (26 : Int32)
    · obtain ⟨x, r, h1, h2, h3, h4, h5, h6, h7⟩ := own_pick hn1 q1
      refine own_callS (pc' := 20) (argsL := [(.int n)]) (rest := []) K X0 e0 (own_w hw 0 rfl) (own_w hw 1 rfl) (own_w hw 2 rfl) (own_w hw 3 rfl) (rmSy l Z a0 hw [] n n r h0 n0 hn1 h7 h6) at_17 pd_5 rfl rfl rfl (by decide) (own_le rfl) (own_le rfl) (own_le rfl) (own_le rfl) rfl fun v101 T101 L101 X101 hQ101 => ?_
      obtain ⟨rfl, N101q, e101⟩ := hQ101
      have N101 := Fr.app N0 N101q
      show Go p e below _ (T101.setTop (mkF m 20 #[.val (.int p1), .val (.int n), .unset, .unset, .unset] [(.int r)]))
      refine own_istoreN (l' := #[.val (.int p1), .val (.int n), .val (.int r), .unset, .unset]) (pc' := 21) K X101 at_20 rfl rfl ?_
      have Nh : Fr Z.heap.size ([] ++ L101) := by have q := N101; rw [hn0] at q; exact q
      refine own_ldcS (own' := "") (pc' := 23) (n := 128) (vs := [.int 65, .int 66, .int 67, .int 68, .int 69, .int 70, .int 71, .int 72, .int 73, .int 74, .int 75, .int 76, .int 77, .int 78, .int 79, .int 80, .int 81, .int 82, .int 83, .int 84, .int 85, .int 86, .int 87, .int 88, .int 89, .int 90]) (z := 26) K X101 e101 (own_w hw 8 rfl) (own_sat hw) hS0 (Nat.le_of_eq (by rw [hh0])) Nh (fun _ _ q => q) IB0 (by simp) hheld hcw ⟨by decide, by decide⟩ (by decide) rfl at_21 (by decide) (by decide) (by decide) (by decide) rfl fun sa T50 h50 k50 sb kb K X50 e50 E50 S50 hk50 A50 F50 G50 V50 I50 => ?_
      have KB102 := KB0.ext E50
      show Go p e below _ (T50.setTop (mkF m 23 #[.val (.int p1), .val (.int n), .val (.int r), .unset, .unset] [(.ref sa)]))
      refine own_astoreN (l' := #[.val (.int p1), .val (.int n), .val (.int r), .val (.ref sa), .unset]) (pc' := 24) K X50 at_23 rfl rfl rfl ?_
      refine own_iloadN (pc' := 25) K X50 at_24 rfl rfl ?_
      refine own_bipush (v := (26 : Int32)) (pc' := 27) K X50 at_25 rfl rfl ?_
      refine own_icmpYes (pc' := 35) K X50 at_27 (tlt q1).1 (by decide) (by decide) ?_
      refine own_aloadN (pc' := 36) K X50 at_35 rfl rfl rfl ?_
      refine own_iloadN (pc' := 37) K X50 at_36 rfl rfl ?_
      refine own_iconst (v := (1 : Int32)) (pc' := 38) K X50 at_37 rfl rfl ?_
      refine own_isub (pc' := 39) K X50 at_38 rfl ?_
      refine own_callV (pc' := 42) (argsL := [(.int (n - (1 : Int32)))]) (rest := []) K X50 e50 (own_w hw 16 rfl) (own_w hw 17 rfl) (notFace_of_selects (args := #[]) (mvT K.2.2.1 (own_w hw 19 rfl))) (own_w hw 19 rfl) (own_w hw 18 rfl) (own_w hw 20 rfl) (own_w hw 9 rfl) A50 (rmCh l Z a0 hw [] sa sb cs (n - (1 : Int32)) x r h50 n0 (own_sta_keep S_C KB102) hcs fm rf (own_sta_keep S_F KB102) kb 26 [.int 65, .int 66, .int 67, .int 68, .int 69, .int 70, .int 71, .int 72, .int 73, .int 74, .int 75, .int 76, .int 77, .int 78, .int 79, .int 80, .int 81, .int 82, .int 83, .int 84, .int 85, .int 86, .int 87, .int 88, .int 89, .int 90] V50 h1 h2 h3 h4 h5 A50 F50 G50) at_39 pd_5 rfl rfl rfl (by decide) (own_le rfl) (own_le rfl) (own_le rfl) (own_le rfl) rfl fun v103 T103 L103 X103 hQ103 => ?_
      obtain ⟨rfl, N103q, e103⟩ := hQ103
      have N103 := Fr.app N101 N103q
      show Go p e below _ (T103.setTop (mkF m 42 #[.val (.int p1), .val (.int n), .val (.int r), .val (.ref sa), .unset] [(.int r)]))
      refine own_istore (l' := #[.val (.int p1), .val (.int n), .val (.int r), .val (.ref sa), .val (.int r)]) (pc' := 44) K X103 at_42 rfl rfl ?_
      refine own_iloadN (pc' := 45) K X103 at_44 rfl rfl ?_
      refine own_iload (pc' := 47) K X103 at_45 rfl rfl ?_
      refine own_icmpNo (pc' := 50) K X103 at_47 (teq (rfl : r = r)).2 rfl ?_
      refine own_iconst (v := (1 : Int32)) (pc' := 51) K X103 at_50 rfl rfl ?_
      refine own_goto (pc' := 55) K X103 at_51 (by decide) (by decide) ?_
      exact own_retNW (t := .boolean) (z' := 1) K X103 S50 (by rw [e103]; exact hk50) hrt hlk (by simp) rfl at_55 (own_le rfl) (own_le rfl) ⟨rfl, N103⟩
    · have hmn : (26 : Int32) = if 26 < n then 26 else n := by
        by_cases h : 26 < n
        · rw [if_pos h]
        · rw [if_neg h]; rw [Int32.lt_iff_toInt_lt] at h q1; rw [← Int32.toInt_inj]; omega
      refine own_callS (pc' := 20) (argsL := [(.int n)]) (rest := []) K X0 e0 (own_w hw 0 rfl) (own_w hw 1 rfl) (own_w hw 2 rfl) (own_w hw 3 rfl) (rmSy l Z a0 hw [] n 26 90 h0 n0 hn1 hmn (by decide)) at_17 pd_5 rfl rfl rfl (by decide) (own_le rfl) (own_le rfl) (own_le rfl) (own_le rfl) rfl fun v104 T104 L104 X104 hQ104 => ?_
      obtain ⟨rfl, N104q, e104⟩ := hQ104
      have N104 := Fr.app N0 N104q
      show Go p e below _ (T104.setTop (mkF m 20 #[.val (.int p1), .val (.int n), .unset, .unset, .unset] [(.int (90 : Int32))]))
      refine own_istoreN (l' := #[.val (.int p1), .val (.int n), .val (.int (90 : Int32)), .unset, .unset]) (pc' := 21) K X104 at_20 rfl rfl ?_
      have Nh : Fr Z.heap.size ([] ++ L104) := by have q := N104; rw [hn0] at q; exact q
      refine own_ldcS (own' := "") (pc' := 23) (n := 128) (vs := [.int 65, .int 66, .int 67, .int 68, .int 69, .int 70, .int 71, .int 72, .int 73, .int 74, .int 75, .int 76, .int 77, .int 78, .int 79, .int 80, .int 81, .int 82, .int 83, .int 84, .int 85, .int 86, .int 87, .int 88, .int 89, .int 90]) (z := 26) K X104 e104 (own_w hw 8 rfl) (own_sat hw) hS0 (Nat.le_of_eq (by rw [hh0])) Nh (fun _ _ q => q) IB0 (by simp) hheld hcw ⟨by decide, by decide⟩ (by decide) rfl at_21 (by decide) (by decide) (by decide) (by decide) rfl fun sa T50 h50 k50 sb kb K X50 e50 E50 S50 hk50 A50 F50 G50 V50 I50 => ?_
      have KB105 := KB0.ext E50
      show Go p e below _ (T50.setTop (mkF m 23 #[.val (.int p1), .val (.int n), .val (.int (90 : Int32)), .unset, .unset] [(.ref sa)]))
      refine own_astoreN (l' := #[.val (.int p1), .val (.int n), .val (.int (90 : Int32)), .val (.ref sa), .unset]) (pc' := 24) K X50 at_23 rfl rfl rfl ?_
      refine own_iloadN (pc' := 25) K X50 at_24 rfl rfl ?_
      refine own_bipush (v := (26 : Int32)) (pc' := 27) K X50 at_25 rfl rfl ?_
      refine own_icmpNo (pc' := 30) K X50 at_27 (flt q1).1 rfl ?_
      refine own_bipush (v := (90 : Int32)) (pc' := 32) K X50 at_30 rfl rfl ?_
      refine own_goto (pc' := 42) K X50 at_32 (by decide) (by decide) ?_
      refine own_istore (l' := #[.val (.int p1), .val (.int n), .val (.int (90 : Int32)), .val (.ref sa), .val (.int (90 : Int32))]) (pc' := 44) K X50 at_42 rfl rfl ?_
      refine own_iloadN (pc' := 45) K X50 at_44 rfl rfl ?_
      refine own_iload (pc' := 47) K X50 at_45 rfl rfl ?_
      refine own_icmpNo (pc' := 50) K X50 at_47 rfl rfl ?_
      refine own_iconst (v := (1 : Int32)) (pc' := 51) K X50 at_50 rfl rfl ?_
      refine own_goto (pc' := 55) K X50 at_51 (by decide) (by decide) ?_
      exact own_retNW (t := .boolean) (z' := 1) K X50 S50 (by rw [e50]; exact hk50) hrt hlk (by simp) rfl at_55 (own_le rfl) (own_le rfl) ⟨rfl, N104⟩
  refine own_iloadN (pc' := 1) K X0 at_0 rfl rfl ?_
  refine own_iconst (v := (1 : Int32)) (pc' := 2) K X0 at_1 rfl rfl ?_
  by_cases c1 : p1 < (1 : Int32)
  · refine own_icmpYes (pc' := 9) K X0 at_2 (tlt c1).1 (by decide) (by decide) ?_
    refine own_iconst (v := (1 : Int32)) (pc' := 10) K X0 at_9 rfl rfl ?_
    refine own_iloadN (pc' := 11) K X0 at_10 rfl rfl ?_
    refine own_bipush (v := (63 : Int32)) (pc' := 13) K X0 at_11 rfl rfl ?_
    refine own_iand (pc' := 14) K X0 at_13 rfl ?_
    refine own_iadd (pc' := 15) K X0 at_14 rfl ?_
    refine own_istoreN (l' := #[.val (.int p1), .val (.int ((1 : Int32) + (p1 &&& (63 : Int32)))), .unset, .unset, .unset]) (pc' := 16) K X0 at_15 rfl rfl ?_
    exact seg _ own_n
  · refine own_icmpNo (pc' := 5) K X0 at_2 (flt c1).1 rfl ?_
    refine own_iloadN (pc' := 6) K X0 at_5 rfl rfl ?_
    refine own_goto (pc' := 15) K X0 at_6 (by decide) (by decide) ?_
    refine own_istoreN (l' := #[.val (.int p1), .val (.int p1), .unset, .unset, .unset]) (pc' := 16) K X0 at_15 rfl rfl ?_
    exact seg _ c1
set_option maxRecDepth 65536 in
set_option maxHeartbeats 40000000 in
theorem comes_1 {Post : Tables → Env → Array Value → State → Outcome → State → Prop} (hpost : ∀ tb e args s v u, (limb_1_1.after args s (.returned v) u = true ∧ limb_1_2.after args s (.returned v) u = true ∧ True) → ReturnedEndW s (.returned v) u (Jvm.fieldLocs frame_1_writes args s ++ Jvm.arrayLocs frame_1_arrays args s ++ Jvm.staticLocs frame_1_statics s) 8 1088 → Post tb e args s (.returned v) u) :
    ArmFor flags0 classFile x code maxLocals ret World_1 tables_1 room_1 Calls_1 rest_1 Pre_1 Post := by
  intro l hfl _ _ p e ha hc hk s m args below hf hA hF happ hP
  obtain ⟨hcalls, hrest, hpre⟩ := hP
  obtain ⟨-, -, -, hnamed, -, -, -, hat⟩ := (Spec.applies_iff hf).mp happ
  obtain ⟨hg, hn⟩ := and_e (Cond.before_iff.mp (show (Jvm.Cond.and given_1 narrow_1).before args s = true from hpre))
  obtain ⟨gc, g0⟩ := and_e hg
  have gi0 := g0
  obtain ⟨w0, rfl⟩ : ∃ w0 : Value, args = #[w0] := by
    have hs : args.size = 1 := by simpa [Cond.value, given_1] using gc
    obtain ⟨L⟩ := args
    match L, hs with
    | [w0], _ => exact ⟨w0, rfl⟩
  have hw := fun d (hd : d ∈ tables_1) => atoms_spec (ws := Jvm.Cond.code x code maxLocals ret :: tables_1) hat d (List.mem_cons_of_mem _ hd)
  have hfit : Fit s := fun {y c} hc i hi => by
    obtain ⟨ha, rfl⟩ := Array.getElem?_eq_some_iff.mp hc
    have q := List.all_eq_true.mp ((Array.all_eq_true_iff_forall_mem.mp hF) _ (Array.getElem_mem ha)) i (List.mem_range.mpr hi)
    simpa [Array.getElem?_eq_getElem hi] using q
  obtain ⟨i0, ei0⟩ := is_v gi0
  obtain rfl : w0 = (.int i0) := Option.some.inj ei0
  obtain ⟨hsets, hown0⟩ := atoms_of _ (rest_1_c_eq ▸ (show rest_1_c.before _ s = true from hrest))
  have n5 := not_v (Cond.before_iff.mp (own_w hsets 2 rfl))
  obtain ⟨cs, ecs⟩ := is_v (Cond.before_iff.mp (own_w hsets 1 rfl))
  have S_C : Sta s s.heap "java/lang/String" "COMPACT_STRINGS" "Z" (.int cs) := Sta.start ecs (Or.inl (own_w hsets 0 rfl))
  obtain ⟨fm, efm, rf⟩ := isR_v (Cond.before_iff.mp (own_w hsets 8 rfl))
  have S_F : Sta s s.heap "jdk/internal/util/Preconditions" "SIOOBE_FORMATTER" "Ljava/util/function/BiFunction;" fm := Sta.start efm (Or.inl (own_w hsets 7 rfl))
  have hcs : ¬ cs = 0 := fun q => by
    subst q
    simp [Cond.value, ecs, Term.int_eval] at n5
  obtain ⟨n, o, h1, h2, h3, _, L, rfl, ⟨rfl, N⟩, hq⟩ := rm0 l s _ hw tables_1 i0 s.heap s.heap.size rfl rfl cs S_C hcs fm rf S_F (hcalls.1 _ (List.mem_singleton.mpr rfl)) (own_w hsets 2 rfl) p e ha hc hk s m _ below hf ((Spec.applies_iff_loose hf).mp happ).1 ⟨rfl, rfl⟩ trivial
  refine ⟨n, _, h1, h2, h3, hpost _ _ _ _ _ _ ⟨Cond.after_iff.mpr rfl, Cond.after_iff.mpr (eq_i res_at (Term.int_eval (1)) rfl), trivial⟩ ⟨hq.1, hq.2.1, hq.2.2.1, (hq.2.2.2.sift fun y hy => Or.inr (N y hy)).mono (by decide) (by decide)⟩⟩
theorem main_1_1 : Claimed_1_1 := comes_1 fun _ _ _ _ _ _ h hF => ⟨h.1, hF⟩
theorem main_1_2 : Claimed_1_2 := comes_1 fun _ _ _ _ _ _ h hF => ⟨h.2.1, hF⟩
end Jvm.Pilot.@@N@@
namespace Jvm.Pilot.@@N@@
open Jvm Jvm.ClassFile Sem Op Lib Jvm.Free Jvm.Stand Jvm.Pilot.@@N@@.Jvm.D
/-! MADE BY PROGRAM (witnessworld.py) out of the Statement's table words and the real class files: 19 classes; the members and pool entries that the words name. The judged class is class 1, her method 1. -/
namespace start1
open Jvm.ClassFile
def u (s : String) : CpInfo := .utf8 (stringToUtf16 s)
/-- a pool by its gaps: so many unusable entries, then the entry; so many at the end -/
def gap : Nat → List CpInfo → List CpInfo
  | 0, r => r
  | n + 1, r => .unusable :: gap n r
def poolList (es : List (Nat × CpInfo)) (last : Nat) : List CpInfo := es.foldr (fun e r => gap e.1 (e.2 :: r)) (gap last [])
def pool (es : List (Nat × CpInfo)) (last : Nat) : Array CpInfo := ⟨poolList es last⟩
def fileOf (pool : Array CpInfo) (this : Nat) (attrs : Array Attribute := #[]) (ms : Array MethodInfo := #[]) (fl : Nat := 33) (sup : Nat := 0) (ifs : Array Nat := #[]) (fds : Array FieldInfo := #[]) : ClassFile where
  minorVersion := 0
  majorVersion := 65
  constantPool := pool
  accessFlags := fl
  thisClass := this
  superClass := sup
  interfaces := ifs
  fields := fds
  methods := ms
  attributes := attrs
def plain (name : String) (sup : Option ClassId) : Class where
  name := name
  kind := .ordinary
  loader := none
  accessFlags := 33
  super := sup
  interfaces := #[]
  cf := none
  fields := #[]
  methods := #[]
  instanceTypes := #[]
  staticTypes := #[]
  resolved := #[]
  callSites := []
  init := .initialized
  statics := none
  mirror := none

def pool0 : Array CpInfo := pool [(5, u "<init>"), (0, u "()V"), (1, .class_ 10), (1, u "java/lang/Object")] 113

def k0m0 : Method := { name := "<init>", desc := "()V", sig := { parameters := [], returnType := none }, accessFlags := 1, code := none }
/-- java/lang/Object -/
def k0 : Class := { plain "java/lang/Object" none with
  accessFlags := 33
  interfaces := #[]
  cf := some (fileOf pool0 8 #[] #[{ accessFlags := 1, nameIndex := 5, descriptorIndex := 6, attributes := #[] }] 33 0 #[] #[])
  fields := #[]
  methods := #[k0m0]
  instanceTypes := #[]
  staticTypes := #[]
  resolved := Array.replicate 124 none
  statics := none }

def pool1 : Array CpInfo := pool [(2, .class_ 4), (1, u "java/lang/Object"), (0, u "<init>"), (0, u "()V"), (0, .methodref 8 9), (0, .class_ 10), (0, .nameAndType 11 12), (0, u "com/example/veilquery/veilquery/scheme/PairCode"), (0, u "symbol"), (0, u "(I)C"), (0, .string 14), (0, u "ABCDEFGHIJKLMNOPQRSTUVWXYZ"), (0, .methodref 16 17), (0, .class_ 18), (0, .nameAndType 19 12), (0, u "java/lang/String"), (0, u "charAt"), (0, .class_ 21), (0, u "com/example/veilquery/veilquery/scheme/PairCodeSymbolPinLaw"), (2, u "law"), (0, u "(I)Z")] 3

def k1m0 : Method := { name := "<init>", desc := "()V", sig := { parameters := [], returnType := none }, accessFlags := 2, code := none }
def k1c1 : Code := { maxStack := 3, maxLocals := 5, code := code, exceptionTable := #[], attributes := #[] }
def k1m1 : Method := { name := "law", desc := "(I)Z", sig := { parameters := [.int], returnType := some .boolean }, accessFlags := 9, code := some k1c1 }
/-- com/example/veilquery/veilquery/scheme/PairCodeSymbolPinLaw -/
def k1 : Class := { plain "com/example/veilquery/veilquery/scheme/PairCodeSymbolPinLaw" (some 0) with
  accessFlags := 49
  interfaces := #[]
  cf := some (fileOf pool1 20 #[] #[{ accessFlags := 2, nameIndex := 5, descriptorIndex := 6, attributes := #[] }, { accessFlags := 9, nameIndex := 24, descriptorIndex := 25, attributes := #[] }] 49 2 #[] #[])
  fields := #[]
  methods := #[k1m0, k1m1]
  instanceTypes := #[]
  staticTypes := #[]
  resolved := Array.replicate 29 none
  statics := none }

def pool2 : Array CpInfo := pool [(5, .class_ 6), (0, u "com/example/veilquery/veilquery/scheme/SearchIndex"), (0, .class_ 8), (0, u "java/lang/Object")] 29

/-- com/example/veilquery/veilquery/scheme/SearchIndex -/
def k2 : Class := { plain "com/example/veilquery/veilquery/scheme/SearchIndex" (some 0) with
  accessFlags := 1537
  interfaces := #[]
  cf := some (fileOf pool2 5 #[] #[] 1537 7 #[] #[])
  fields := #[]
  methods := #[]
  instanceTypes := #[]
  staticTypes := #[]
  resolved := Array.replicate 38 none
  statics := none }

def pool3 : Array CpInfo := pool [(2, .class_ 4), (1, u "java/lang/Object"), (2, .class_ 8), (0, u "com/example/veilquery/veilquery/scheme/PairCode"), (18, u "key"), (0, u "Ljavax/crypto/spec/SecretKeySpec;"), (2, u "length"), (0, u "I"), (6, u "asciiPositions"), (0, u "[B"), (65, u "WHOLE_NUMBER"), (0, u "Ljava/util/regex/Pattern;"), (45, u "(II)I"), (7, u "symbol"), (0, u "(I)C"), (10, .methodref 174 175), (0, .class_ 176), (0, .nameAndType 177 153), (0, u "java/lang/Math"), (0, u "min"), (46, .class_ 225), (0, u "com/example/veilquery/veilquery/scheme/SearchIndex"), (0, u "MIN_LENGTH"), (2, u "MAX_LENGTH"), (1, u "KEY_BYTES"), (1, u "MOST"), (1, u "NONE"), (0, u "C"), (1, u "LENGTH"), (0, u "Ljava/lang/String;"), (0, u "MAC"), (0, u "ASCII")] 41

def k3c0 : Code := { maxStack := 3, maxLocals := 1, code := prog_10_method_7_code, exceptionTable := #[], attributes := #[] }
def k3m0 : Method := { name := "symbol", desc := "(I)C", sig := { parameters := [.int], returnType := some .char }, accessFlags := 9, code := some k3c0 }
/-- com/example/veilquery/veilquery/scheme/PairCode -/
def k3 : Class := { plain "com/example/veilquery/veilquery/scheme/PairCode" (some 0) with
  accessFlags := 49
  interfaces := #[2]
  cf := some (fileOf pool3 7 #[] #[{ accessFlags := 9, nameIndex := 161, descriptorIndex := 162, attributes := #[] }] 49 2 #[224] #[{ accessFlags := 25, nameIndex := 226, descriptorIndex := 32, attributes := #[] }, { accessFlags := 25, nameIndex := 229, descriptorIndex := 32, attributes := #[] }, { accessFlags := 24, nameIndex := 231, descriptorIndex := 32, attributes := #[] }, { accessFlags := 25, nameIndex := 233, descriptorIndex := 32, attributes := #[] }, { accessFlags := 26, nameIndex := 235, descriptorIndex := 236, attributes := #[] }, { accessFlags := 26, nameIndex := 238, descriptorIndex := 239, attributes := #[] }, { accessFlags := 26, nameIndex := 240, descriptorIndex := 239, attributes := #[] }, { accessFlags := 26, nameIndex := 106, descriptorIndex := 107, attributes := #[] }, { accessFlags := 26, nameIndex := 241, descriptorIndex := 32, attributes := #[] }, { accessFlags := 18, nameIndex := 27, descriptorIndex := 28, attributes := #[] }, { accessFlags := 18, nameIndex := 31, descriptorIndex := 32, attributes := #[] }, { accessFlags := 18, nameIndex := 39, descriptorIndex := 40, attributes := #[] }])
  fields := #[{ name := "MIN_LENGTH", type := .int, accessFlags := 25, slot := 0, constantValue := 0 }, { name := "MAX_LENGTH", type := .int, accessFlags := 25, slot := 1, constantValue := 0 }, { name := "KEY_BYTES", type := .int, accessFlags := 24, slot := 2, constantValue := 0 }, { name := "MOST", type := .int, accessFlags := 25, slot := 3, constantValue := 0 }, { name := "NONE", type := .char, accessFlags := 26, slot := 4, constantValue := 0 }, { name := "LENGTH", type := (.object "java/lang/String"), accessFlags := 26, slot := 5, constantValue := 0 }, { name := "MAC", type := (.object "java/lang/String"), accessFlags := 26, slot := 6, constantValue := 0 }, { name := "WHOLE_NUMBER", type := (.object "java/util/regex/Pattern"), accessFlags := 26, slot := 7, constantValue := 0 }, { name := "ASCII", type := .int, accessFlags := 26, slot := 8, constantValue := 0 }, { name := "key", type := (.object "javax/crypto/spec/SecretKeySpec"), accessFlags := 18, slot := 0, constantValue := 0 }, { name := "length", type := .int, accessFlags := 18, slot := 1, constantValue := 0 }, { name := "asciiPositions", type := (.array .byte), accessFlags := 18, slot := 2, constantValue := 0 }]
  methods := #[k3m0]
  instanceTypes := #[(.object "javax/crypto/spec/SecretKeySpec"), .int, (.array .byte)]
  staticTypes := #[.int, .int, .int, .int, .char, (.object "java/lang/String"), (.object "java/lang/String"), (.object "java/util/regex/Pattern"), .int]
  resolved := Array.replicate 283 none
  statics := none }

def pool4 : Array CpInfo := pool [(1, .class_ 2), (0, u "java/lang/Math"), (1, .class_ 6), (1, u "java/lang/Object"), (0, u "<init>"), (0, u "()V"), (89, .class_ 100), (1, u "java/lang/Math$RandomNumberGeneratorHolder"), (71, u "negativeZeroFloatBits"), (0, u "J"), (2, u "negativeZeroDoubleBits"), (24, u "min"), (43, u "$assertionsDisabled"), (0, u "Z"), (88, u "(II)I"), (2, u "twoToTheDoubleScaleDown"), (0, u "D"), (4, u "twoToTheDoubleScaleUp"), (9, u "E"), (3, u "PI"), (2, u "TAU"), (2, u "DEGREES_TO_RADIANS"), (0, u "RADIANS_TO_DEGREES")] 94

def k4m0 : Method := { name := "<init>", desc := "()V", sig := { parameters := [], returnType := none }, accessFlags := 2, code := none }
def k4c1 : Code := { maxStack := 2, maxLocals := 2, code := jdk_29_method_69_code, exceptionTable := #[], attributes := #[] }
def k4m1 : Method := { name := "min", desc := "(II)I", sig := { parameters := [.int, .int], returnType := some .int }, accessFlags := 9, code := some k4c1 }
/-- java/lang/Math -/
def k4 : Class := { plain "java/lang/Math" (some 0) with
  accessFlags := 49
  interfaces := #[]
  cf := some (fileOf pool4 1 #[.nestMembers #[98]] #[{ accessFlags := 2, nameIndex := 7, descriptorIndex := 8, attributes := #[] }, { accessFlags := 9, nameIndex := 201, descriptorIndex := 335, attributes := #[] }] 49 4 #[] #[{ accessFlags := 25, nameIndex := 354, descriptorIndex := 339, attributes := #[] }, { accessFlags := 25, nameIndex := 358, descriptorIndex := 339, attributes := #[] }, { accessFlags := 25, nameIndex := 361, descriptorIndex := 339, attributes := #[] }, { accessFlags := 26, nameIndex := 364, descriptorIndex := 339, attributes := #[] }, { accessFlags := 26, nameIndex := 365, descriptorIndex := 339, attributes := #[] }, { accessFlags := 26, nameIndex := 172, descriptorIndex := 173, attributes := #[] }, { accessFlags := 26, nameIndex := 176, descriptorIndex := 173, attributes := #[] }, { accessFlags := 8, nameIndex := 344, descriptorIndex := 339, attributes := #[] }, { accessFlags := 8, nameIndex := 338, descriptorIndex := 339, attributes := #[] }, { accessFlags := 4120, nameIndex := 245, descriptorIndex := 246, attributes := #[] }])
  fields := #[{ name := "E", type := .double, accessFlags := 25, slot := 0, constantValue := 0 }, { name := "PI", type := .double, accessFlags := 25, slot := 1, constantValue := 0 }, { name := "TAU", type := .double, accessFlags := 25, slot := 2, constantValue := 0 }, { name := "DEGREES_TO_RADIANS", type := .double, accessFlags := 26, slot := 3, constantValue := 0 }, { name := "RADIANS_TO_DEGREES", type := .double, accessFlags := 26, slot := 4, constantValue := 0 }, { name := "negativeZeroFloatBits", type := .long, accessFlags := 26, slot := 5, constantValue := 0 }, { name := "negativeZeroDoubleBits", type := .long, accessFlags := 26, slot := 6, constantValue := 0 }, { name := "twoToTheDoubleScaleUp", type := .double, accessFlags := 8, slot := 7, constantValue := 0 }, { name := "twoToTheDoubleScaleDown", type := .double, accessFlags := 8, slot := 8, constantValue := 0 }, { name := "$assertionsDisabled", type := .boolean, accessFlags := 4120, slot := 9, constantValue := 0 }]
  methods := #[k4m0, k4m1]
  instanceTypes := #[]
  staticTypes := #[.double, .double, .double, .double, .double, .long, .long, .double, .double, .boolean]
  resolved := Array.replicate 460 none
  statics := none }

def pool5 : Array CpInfo := pool [(1, .class_ 2), (0, u "java/io/Serializable"), (0, .class_ 4), (0, u "java/lang/Object")] 2

/-- java/io/Serializable -/
def k5 : Class := { plain "java/io/Serializable" (some 0) with
  accessFlags := 1537
  interfaces := #[]
  cf := some (fileOf pool5 1 #[] #[] 1537 3 #[] #[])
  fields := #[]
  methods := #[]
  instanceTypes := #[]
  staticTypes := #[]
  resolved := Array.replicate 7 none
  statics := none }

def pool6 : Array CpInfo := pool [(1, .class_ 2), (0, u "java/lang/Comparable"), (0, .class_ 4), (0, u "java/lang/Object")] 7

/-- java/lang/Comparable -/
def k6 : Class := { plain "java/lang/Comparable" (some 0) with
  accessFlags := 1537
  interfaces := #[]
  cf := some (fileOf pool6 1 #[] #[] 1537 3 #[] #[])
  fields := #[]
  methods := #[]
  instanceTypes := #[]
  staticTypes := #[]
  resolved := Array.replicate 12 none
  statics := none }

def pool7 : Array CpInfo := pool [(2, .class_ 4), (1, u "java/lang/CharSequence"), (42, .class_ 48), (0, u "java/lang/CharSequence$1CodePointIterator"), (10, .class_ 60), (0, u "java/lang/CharSequence$1CharIterator"), (5, .class_ 67), (0, u "java/lang/Object")] 63

/-- java/lang/CharSequence -/
def k7 : Class := { plain "java/lang/CharSequence" (some 0) with
  accessFlags := 1537
  interfaces := #[]
  cf := some (fileOf pool7 2 #[.nestMembers #[47, 59]] #[] 1537 66 #[] #[])
  fields := #[]
  methods := #[]
  instanceTypes := #[]
  staticTypes := #[]
  resolved := Array.replicate 131 none
  statics := none }

def pool8 : Array CpInfo := pool [(1, .class_ 2), (0, u "java/lang/constant/Constable"), (0, .class_ 4), (0, u "java/lang/Object")] 6

/-- java/lang/constant/Constable -/
def k8 : Class := { plain "java/lang/constant/Constable" (some 0) with
  accessFlags := 1537
  interfaces := #[]
  cf := some (fileOf pool8 1 #[] #[] 1537 3 #[] #[])
  fields := #[]
  methods := #[]
  instanceTypes := #[]
  staticTypes := #[]
  resolved := Array.replicate 11 none
  statics := none }

def pool9 : Array CpInfo := pool [(1, .class_ 2), (0, u "java/lang/constant/ConstantDesc"), (0, .class_ 4), (0, u "java/lang/Object")] 32

/-- java/lang/constant/ConstantDesc -/
def k9 : Class := { plain "java/lang/constant/ConstantDesc" (some 0) with
  accessFlags := 1537
  interfaces := #[]
  cf := some (fileOf pool9 1 #[] #[] 1537 3 #[] #[])
  fields := #[]
  methods := #[]
  instanceTypes := #[]
  staticTypes := #[]
  resolved := Array.replicate 37 none
  statics := none }

def pool10 : Array CpInfo := pool [(2, .class_ 4), (1, u "java/lang/Object"), (0, u "<init>"), (0, u "()V"), (2, .fieldref 10 11), (0, .class_ 12), (0, .nameAndType 13 14), (0, u "java/lang/String"), (0, u "value"), (0, u "[B"), (0, .fieldref 10 16), (0, .nameAndType 17 18), (0, u "coder"), (0, u "B"), (2, u "hash"), (0, u "I"), (2, u "hashIsZero"), (0, u "Z"), (11, .fieldref 10 39), (0, .nameAndType 40 26), (0, u "COMPACT_STRINGS"), (66, .class_ 109), (1, u "java/lang/StringLatin1"), (32, u "()Z"), (220, u "([BI)C"), (27, u "(II)V"), (35, u "(I)C"), (64, .methodref 10 493), (0, .nameAndType 494 142), (0, u "isLatin1"), (0, .methodref 107 496), (0, .nameAndType 497 363), (0, u "charAt"), (3, u "checkIndex"), (73, .class_ 576), (0, u "java/lang/CharSequence"), (22, u "CASE_INSENSITIVE_ORDER"), (0, u "Ljava/util/Comparator;"), (452, .fieldref 1054 1055), (0, .class_ 1056), (0, .nameAndType 1057 1058), (0, u "jdk/internal/util/Preconditions"), (0, u "SIOOBE_FORMATTER"), (0, u "Ljava/util/function/BiFunction;"), (0, .methodref 1054 1060), (0, .nameAndType 501 1061), (0, u "(IILjava/util/function/BiFunction;)I"), (39, u "serialPersistentFields"), (0, u "[Ljava/io/ObjectStreamField;"), (0, .class_ 1104), (0, u "java/lang/String$CaseInsensitiveComparator"), (1, .class_ 1107), (0, u "java/io/Serializable"), (0, .class_ 1109), (0, u "java/lang/Comparable"), (0, .class_ 1111), (0, u "java/lang/constant/Constable"), (0, .class_ 1113), (0, u "java/lang/constant/ConstantDesc"), (2, u "serialVersionUID"), (0, u "J"), (3, u "REPL"), (0, u "C"), (2, u "LATIN1"), (1, u "UTF16")] 323

def k10m0 : Method := { name := "<init>", desc := "()V", sig := { parameters := [], returnType := none }, accessFlags := 1, code := none }
def k10c1 : Code := { maxStack := 2, maxLocals := 2, code := jdk_42_method_56_code, exceptionTable := #[], attributes := #[] }
def k10m1 : Method := { name := "charAt", desc := "(I)C", sig := { parameters := [.int], returnType := some .char }, accessFlags := 1, code := some k10c1 }
def k10c2 : Code := { maxStack := 1, maxLocals := 1, code := jdk_42_method_154_code, exceptionTable := #[], attributes := #[] }
def k10m2 : Method := { name := "isLatin1", desc := "()Z", sig := { parameters := [], returnType := some .boolean }, accessFlags := 0, code := some k10c2 }
def k10c3 : Code := { maxStack := 3, maxLocals := 2, code := jdk_42_method_155_code, exceptionTable := #[], attributes := #[] }
def k10m3 : Method := { name := "checkIndex", desc := "(II)V", sig := { parameters := [.int, .int], returnType := none }, accessFlags := 8, code := some k10c3 }
/-- java/lang/String -/
def k10 : Class := { plain "java/lang/String" (some 0) with
  accessFlags := 49
  interfaces := #[5, 6, 7, 8, 9]
  cf := some (fileOf pool10 10 #[.nestMembers #[1103]] #[{ accessFlags := 1, nameIndex := 5, descriptorIndex := 6, attributes := #[] }, { accessFlags := 1, nameIndex := 497, descriptorIndex := 427, attributes := #[] }, { accessFlags := 0, nameIndex := 494, descriptorIndex := 142, attributes := #[] }, { accessFlags := 8, nameIndex := 501, descriptorIndex := 391, attributes := #[] }] 49 2 #[1106, 1108, 575, 1110, 1112] #[{ accessFlags := 18, nameIndex := 13, descriptorIndex := 14, attributes := #[] }, { accessFlags := 18, nameIndex := 17, descriptorIndex := 18, attributes := #[] }, { accessFlags := 2, nameIndex := 21, descriptorIndex := 22, attributes := #[] }, { accessFlags := 2, nameIndex := 25, descriptorIndex := 26, attributes := #[] }, { accessFlags := 26, nameIndex := 1116, descriptorIndex := 1117, attributes := #[] }, { accessFlags := 24, nameIndex := 40, descriptorIndex := 26, attributes := #[] }, { accessFlags := 26, nameIndex := 1101, descriptorIndex := 1102, attributes := #[] }, { accessFlags := 26, nameIndex := 1121, descriptorIndex := 1122, attributes := #[] }, { accessFlags := 25, nameIndex := 599, descriptorIndex := 600, attributes := #[] }, { accessFlags := 24, nameIndex := 1125, descriptorIndex := 18, attributes := #[] }, { accessFlags := 24, nameIndex := 1127, descriptorIndex := 18, attributes := #[] }])
  fields := #[{ name := "value", type := (.array .byte), accessFlags := 18, slot := 0, constantValue := 0 }, { name := "coder", type := .byte, accessFlags := 18, slot := 1, constantValue := 0 }, { name := "hash", type := .int, accessFlags := 2, slot := 2, constantValue := 0 }, { name := "hashIsZero", type := .boolean, accessFlags := 2, slot := 3, constantValue := 0 }, { name := "serialVersionUID", type := .long, accessFlags := 26, slot := 0, constantValue := 0 }, { name := "COMPACT_STRINGS", type := .boolean, accessFlags := 24, slot := 1, constantValue := 0 }, { name := "serialPersistentFields", type := (.array (.object "java/io/ObjectStreamField")), accessFlags := 26, slot := 2, constantValue := 0 }, { name := "REPL", type := .char, accessFlags := 26, slot := 3, constantValue := 0 }, { name := "CASE_INSENSITIVE_ORDER", type := (.object "java/util/Comparator"), accessFlags := 25, slot := 4, constantValue := 0 }, { name := "LATIN1", type := .byte, accessFlags := 24, slot := 5, constantValue := 0 }, { name := "UTF16", type := .byte, accessFlags := 24, slot := 6, constantValue := 0 }]
  methods := #[k10m0, k10m1, k10m2, k10m3]
  instanceTypes := #[(.array .byte), .byte, .int, .boolean]
  staticTypes := #[.long, .boolean, (.array (.object "java/io/ObjectStreamField")), .char, (.object "java/util/Comparator"), .byte, .byte]
  resolved := Array.replicate 1451 none
  statics := some 0 }

def pool11 : Array CpInfo := pool [(1, .class_ 2), (0, u "java/lang/String"), (1, .class_ 6), (1, u "java/lang/Object"), (0, u "<init>"), (0, u "()V"), (0, .methodref 1 10), (0, .nameAndType 11 12), (0, u "checkIndex"), (0, u "(II)V"), (1, .class_ 16), (1, u "java/lang/StringLatin1"), (36, u "([BI)C"), (67, u "$assertionsDisabled"), (0, u "Z"), (98, .class_ 223), (1, u "java/lang/StringLatin1$LinesSpliterator"), (28, u "charAt"), (137, .class_ 391), (0, u "java/lang/StringLatin1$CharsSpliterator")] 3

def k11m0 : Method := { name := "<init>", desc := "()V", sig := { parameters := [], returnType := none }, accessFlags := 0, code := none }
def k11c1 : Code := { maxStack := 2, maxLocals := 2, code := jdk_43_method_2_code, exceptionTable := #[], attributes := #[] }
def k11m1 : Method := { name := "charAt", desc := "([BI)C", sig := { parameters := [(.array .byte), .int], returnType := some .char }, accessFlags := 9, code := some k11c1 }
/-- java/lang/StringLatin1 -/
def k11 : Class := { plain "java/lang/StringLatin1" (some 0) with
  accessFlags := 48
  interfaces := #[]
  cf := some (fileOf pool11 14 #[.nestMembers #[390, 221]] #[{ accessFlags := 0, nameIndex := 7, descriptorIndex := 8, attributes := #[] }, { accessFlags := 9, nameIndex := 252, descriptorIndex := 53, attributes := #[] }] 48 4 #[] #[{ accessFlags := 4120, nameIndex := 121, descriptorIndex := 122, attributes := #[] }])
  fields := #[{ name := "$assertionsDisabled", type := .boolean, accessFlags := 4120, slot := 0, constantValue := 0 }]
  methods := #[k11m0, k11m1]
  instanceTypes := #[]
  staticTypes := #[.boolean]
  resolved := Array.replicate 395 none
  statics := none }

def pool12 : Array CpInfo := pool [(2, .class_ 4), (1, u "java/lang/Object"), (0, u "<init>"), (0, u "()V"), (17, .class_ 26), (1, u "jdk/internal/util/Preconditions"), (6, u "checkIndex"), (21, .class_ 56), (0, u "jdk/internal/util/Preconditions$4"), (57, .class_ 115), (0, u "jdk/internal/util/Preconditions$1"), (7, u "SIOOBE_FORMATTER"), (0, u "Ljava/util/function/BiFunction;"), (0, .class_ 126), (0, u "jdk/internal/util/Preconditions$2"), (3, u "AIOOBE_FORMATTER"), (0, .class_ 132), (0, u "jdk/internal/util/Preconditions$3"), (3, u "IOOBE_FORMATTER"), (41, u "(IILjava/util/function/BiFunction;)I")] 15

def k12m0 : Method := { name := "<init>", desc := "()V", sig := { parameters := [], returnType := none }, accessFlags := 1, code := none }
def k12c1 : Code := { maxStack := 3, maxLocals := 3, code := jdk_41_method_11_code, exceptionTable := #[], attributes := #[] }
def k12m1 : Method := { name := "checkIndex", desc := "(IILjava/util/function/BiFunction;)I", sig := { parameters := [.int, .int, (.object "java/util/function/BiFunction")], returnType := some .int }, accessFlags := 9, code := some k12c1 }
/-- jdk/internal/util/Preconditions -/
def k12 : Class := { plain "jdk/internal/util/Preconditions" (some 0) with
  accessFlags := 33
  interfaces := #[]
  cf := some (fileOf pool12 24 #[.nestMembers #[55, 131, 125, 114]] #[{ accessFlags := 1, nameIndex := 5, descriptorIndex := 6, attributes := #[] }, { accessFlags := 9, nameIndex := 33, descriptorIndex := 178, attributes := #[] }] 33 2 #[] #[{ accessFlags := 25, nameIndex := 123, descriptorIndex := 124, attributes := #[] }, { accessFlags := 25, nameIndex := 130, descriptorIndex := 124, attributes := #[] }, { accessFlags := 25, nameIndex := 136, descriptorIndex := 124, attributes := #[] }])
  fields := #[{ name := "SIOOBE_FORMATTER", type := (.object "java/util/function/BiFunction"), accessFlags := 25, slot := 0, constantValue := 0 }, { name := "AIOOBE_FORMATTER", type := (.object "java/util/function/BiFunction"), accessFlags := 25, slot := 1, constantValue := 0 }, { name := "IOOBE_FORMATTER", type := (.object "java/util/function/BiFunction"), accessFlags := 25, slot := 2, constantValue := 0 }]
  methods := #[k12m0, k12m1]
  instanceTypes := #[]
  staticTypes := #[(.object "java/util/function/BiFunction"), (.object "java/util/function/BiFunction"), (.object "java/util/function/BiFunction")]
  resolved := Array.replicate 194 none
  statics := some 1 }

def pool13 : Array CpInfo := pool [(9, u "<init>"), (6, .class_ 18), (1, u "java/lang/Object"), (0, u "()V"), (1, .class_ 23), (1, u "jdk/internal/util/ArraysSupport"), (0, u "LOG2_ARRAY_LONG_INDEX_SCALE"), (0, u "I"), (2, u "U"), (0, u "Ljdk/internal/misc/Unsafe;"), (8, u "BIG_ENDIAN"), (0, u "Z"), (8, u "LOG2_BYTE_BIT_SIZE"), (4, u "LOG2_ARRAY_INT_INDEX_SCALE"), (54, u "JLA"), (0, u "Ljdk/internal/access/JavaLangAccess;"), (11, u "LOG2_ARRAY_BOOLEAN_INDEX_SCALE"), (9, u "LOG2_ARRAY_BYTE_INDEX_SCALE"), (5, u "LOG2_ARRAY_CHAR_INDEX_SCALE"), (5, u "LOG2_ARRAY_SHORT_INDEX_SCALE"), (18, u "LOG2_ARRAY_FLOAT_INDEX_SCALE"), (24, u "LOG2_ARRAY_DOUBLE_INDEX_SCALE"), (89, u "T_BOOLEAN"), (2, u "T_CHAR"), (1, u "T_FLOAT"), (1, u "T_DOUBLE"), (1, u "T_BYTE"), (1, u "T_SHORT"), (1, u "T_INT"), (1, u "T_LONG"), (1, u "SOFT_MAX_ARRAY_LENGTH")] 83

def k13m0 : Method := { name := "<init>", desc := "()V", sig := { parameters := [], returnType := none }, accessFlags := 2, code := none }
/-- jdk/internal/util/ArraysSupport -/
def k13 : Class := { plain "jdk/internal/util/ArraysSupport" (some 0) with
  accessFlags := 33
  interfaces := #[]
  cf := some (fileOf pool13 21 #[] #[{ accessFlags := 2, nameIndex := 9, descriptorIndex := 19, attributes := #[] }] 33 16 #[] #[{ accessFlags := 24, nameIndex := 28, descriptorIndex := 29, attributes := #[] }, { accessFlags := 26, nameIndex := 38, descriptorIndex := 39, attributes := #[] }, { accessFlags := 25, nameIndex := 121, descriptorIndex := 25, attributes := #[] }, { accessFlags := 25, nameIndex := 131, descriptorIndex := 25, attributes := #[] }, { accessFlags := 25, nameIndex := 137, descriptorIndex := 25, attributes := #[] }, { accessFlags := 25, nameIndex := 143, descriptorIndex := 25, attributes := #[] }, { accessFlags := 25, nameIndex := 53, descriptorIndex := 25, attributes := #[] }, { accessFlags := 25, nameIndex := 24, descriptorIndex := 25, attributes := #[] }, { accessFlags := 25, nameIndex := 162, descriptorIndex := 25, attributes := #[] }, { accessFlags := 25, nameIndex := 187, descriptorIndex := 25, attributes := #[] }, { accessFlags := 26, nameIndex := 48, descriptorIndex := 25, attributes := #[] }, { accessFlags := 25, nameIndex := 277, descriptorIndex := 25, attributes := #[] }, { accessFlags := 25, nameIndex := 280, descriptorIndex := 25, attributes := #[] }, { accessFlags := 25, nameIndex := 282, descriptorIndex := 25, attributes := #[] }, { accessFlags := 25, nameIndex := 284, descriptorIndex := 25, attributes := #[] }, { accessFlags := 25, nameIndex := 286, descriptorIndex := 25, attributes := #[] }, { accessFlags := 25, nameIndex := 288, descriptorIndex := 25, attributes := #[] }, { accessFlags := 25, nameIndex := 290, descriptorIndex := 25, attributes := #[] }, { accessFlags := 25, nameIndex := 292, descriptorIndex := 25, attributes := #[] }, { accessFlags := 26, nameIndex := 108, descriptorIndex := 109, attributes := #[] }, { accessFlags := 25, nameIndex := 294, descriptorIndex := 25, attributes := #[] }])
  fields := #[{ name := "U", type := (.object "jdk/internal/misc/Unsafe"), accessFlags := 24, slot := 0, constantValue := 0 }, { name := "BIG_ENDIAN", type := .boolean, accessFlags := 26, slot := 1, constantValue := 0 }, { name := "LOG2_ARRAY_BOOLEAN_INDEX_SCALE", type := .int, accessFlags := 25, slot := 2, constantValue := 0 }, { name := "LOG2_ARRAY_BYTE_INDEX_SCALE", type := .int, accessFlags := 25, slot := 3, constantValue := 0 }, { name := "LOG2_ARRAY_CHAR_INDEX_SCALE", type := .int, accessFlags := 25, slot := 4, constantValue := 0 }, { name := "LOG2_ARRAY_SHORT_INDEX_SCALE", type := .int, accessFlags := 25, slot := 5, constantValue := 0 }, { name := "LOG2_ARRAY_INT_INDEX_SCALE", type := .int, accessFlags := 25, slot := 6, constantValue := 0 }, { name := "LOG2_ARRAY_LONG_INDEX_SCALE", type := .int, accessFlags := 25, slot := 7, constantValue := 0 }, { name := "LOG2_ARRAY_FLOAT_INDEX_SCALE", type := .int, accessFlags := 25, slot := 8, constantValue := 0 }, { name := "LOG2_ARRAY_DOUBLE_INDEX_SCALE", type := .int, accessFlags := 25, slot := 9, constantValue := 0 }, { name := "LOG2_BYTE_BIT_SIZE", type := .int, accessFlags := 26, slot := 10, constantValue := 0 }, { name := "T_BOOLEAN", type := .int, accessFlags := 25, slot := 11, constantValue := 0 }, { name := "T_CHAR", type := .int, accessFlags := 25, slot := 12, constantValue := 0 }, { name := "T_FLOAT", type := .int, accessFlags := 25, slot := 13, constantValue := 0 }, { name := "T_DOUBLE", type := .int, accessFlags := 25, slot := 14, constantValue := 0 }, { name := "T_BYTE", type := .int, accessFlags := 25, slot := 15, constantValue := 0 }, { name := "T_SHORT", type := .int, accessFlags := 25, slot := 16, constantValue := 0 }, { name := "T_INT", type := .int, accessFlags := 25, slot := 17, constantValue := 0 }, { name := "T_LONG", type := .int, accessFlags := 25, slot := 18, constantValue := 0 }, { name := "JLA", type := (.object "jdk/internal/access/JavaLangAccess"), accessFlags := 26, slot := 19, constantValue := 0 }, { name := "SOFT_MAX_ARRAY_LENGTH", type := .int, accessFlags := 25, slot := 20, constantValue := 0 }]
  methods := #[k13m0]
  instanceTypes := #[]
  staticTypes := #[(.object "jdk/internal/misc/Unsafe"), .boolean, .int, .int, .int, .int, .int, .int, .int, .int, .int, .int, .int, .int, .int, .int, .int, .int, .int, (.object "jdk/internal/access/JavaLangAccess"), .int]
  resolved := Array.replicate 378 none
  statics := none }

def pool14 : Array CpInfo := pool [(1, u "java/lang/Cloneable"), (0, .class_ 1), (0, u "java/lang/Object"), (0, .class_ 3)] 3

/-- java/lang/Cloneable -/
def k14 : Class := { plain "java/lang/Cloneable" (some 0) with
  accessFlags := 1537
  interfaces := #[]
  cf := some (fileOf pool14 2 #[] #[] 1537 4 #[] #[])
  fields := #[]
  methods := #[]
  instanceTypes := #[]
  staticTypes := #[]
  resolved := Array.replicate 8 none
  statics := none }

/-- the primitive byte -/
def k15 : Class := { plain "byte" none with kind := .primitive 'B', accessFlags := 0x411 }
/-- [B -/
def k16 : Class := { plain "[B" (some 0) with kind := .array 15 .byte, interfaces := #[14, 5], accessFlags := 1041 }

/-- the primitive int -/
def k17 : Class := { plain "int" none with kind := .primitive 'I', accessFlags := 0x411 }
/-- [I -/
def k18 : Class := { plain "[I" (some 0) with kind := .array 17 .int, interfaces := #[14, 5], accessFlags := 1041 }

def heap : Heap := #[{ cls := 10, slots := #[.long 0, .int 1, .null, .int 0, .null, .int 0, .int 0], vm := .statics 10 },
  { cls := 12, slots := #[.null, .null, .null], vm := .statics 12 }]
def classes : Array Class := #[k0, k1, k2, k3, k4, k5, k6, k7, k8, k9, k10, k11, k12, k13, k14, k15, k16, k17, k18]
def interned : List (Array UInt16 × Addr) := []
def slotsUsed : Nat := 10
def theMethod : MethodId := ⟨1, 1⟩
def args0 : Array Value := #[.int 5]
def aboutOver (below : List Frame) : State where
  vm := { classes := classes, interned := interned.toArray }
  heap := heap
  slotsUsed := slotsUsed
  threads := #[{ frames := .invoking theMethod args0 :: below }]
def below0 : List Frame := [.native { method := ⟨0, 0⟩, args := #[] }]
def about1 : State := aboutOver below0
def p0 : Program := .bare "" "" ""
def e0 : Env := launch0.env 0 0 0
theorem w_frames : about1.frames = Frame.invoking theMethod args0 :: below0 := rfl
set_option maxRecDepth 65536 in
theorem w_args : argsFit about1.vm theMethod args0 = true := by decide +kernel
set_option maxRecDepth 65536 in
theorem w_heap : heapFits about1 = true := by decide +kernel
set_option maxRecDepth 65536 in
theorem w_runnable : about1.curStatus? = some .runnable := by decide +kernel
set_option maxRecDepth 65536 in
theorem w_alone : about1.alone = true := by decide +kernel
set_option maxRecDepth 65536 in
theorem w_named : about1.methodNamed? x = some theMethod := by decide +kernel
set_option maxRecDepth 65536 in
theorem w_hears : about1.hears theMethod below0 = true := by decide +kernel
set_option maxRecDepth 65536 in
theorem w_ripe : about1.ripe theMethod args0 below0 = true := by decide +kernel
theorem w_running : about1.status = .running := rfl
set_option maxRecDepth 65536 in
theorem w_room : about1.hasRoom e0.platform room_1 = true :=
  launch0.hasRoom_least _ room_1 (by decide +kernel) (by decide +kernel) (by decide +kernel) (by decide +kernel) (by decide +kernel) (by decide +kernel)
theorem allAtoms_all (ts : List Jvm.Cond) (a : Array Jvm.Value) (st : Jvm.State) : (allAtoms ts).before a st = ts.all (fun c => c.before a st) := by
  induction ts with
  | nil => rfl
  | cons c t ih =>
    show (Jvm.Cond.and c (allAtoms t)).before a st = _
    rw [Jvm.Cond.before_and, ih, List.all_cons]
def words1 : List Jvm.Cond := Jvm.Cond.code x code maxLocals ret :: tables_1
/-- a 'code' word, met by the world's own term for the bytes: nothing is compared byte by byte -/
theorem code_word {y : MethodName} {bytes : ByteArray} {mx : Nat} {rt : Option FieldType} {a : Array Value} {s : State} {m : MethodId} {meth : Method} {c : Code} (h1 : s.methodNamed? y = some m) (h2 : s.vm.method? m = some meth) (h3 : meth.code = some c) (h4 : c.code = bytes)
    (h5 : (c.maxLocals == mx && c.exceptionTable.isEmpty && decide (c.maxStack ≤ mostOperands) && decide (meth.sig.returnType = rt) && !meth.locks && decide (parseMethodDescriptor y.desc = some meth.sig)) = true) : (Jvm.Cond.code y bytes mx rt).before a s = true := by
  simp only [Bool.and_eq_true, beq_iff_eq, Bool.not_eq_true', decide_eq_true_eq] at h5
  obtain ⟨⟨⟨⟨⟨g1, g2⟩, g3⟩, g4⟩, g5⟩, g6⟩ := h5
  simp [Cond.before, Cond.holds, Cond.value, h1, h2, h3, h4, g1, g2, g3, g4, g5, g6]
def isCode : Jvm.Cond → Bool
  | .code _ _ _ _ => true
  | _ => false
theorem all_split {L : List Jvm.Cond} {P : Jvm.Cond → Bool} (h1 : L.all (fun c => isCode c || P c) = true) (h2 : ∀ c ∈ L.filter isCode, P c = true) : L.all P = true := by
  refine List.all_eq_true.mpr fun c hc => ?_
  have h := List.all_eq_true.mp h1 c hc
  rcases Bool.eq_false_or_eq_true (isCode c) with hi | hi
  · exact h2 c (List.mem_filter.mpr ⟨hc, hi⟩)
  · simpa [hi] using h
set_option maxRecDepth 65536 in
theorem w_c0 : (Jvm.Cond.code x code maxLocals ret).before args0 about1 = true := code_word (m := ⟨1, 1⟩) (meth := k1m1) (c := k1c1) (by decide +kernel) rfl rfl rfl (by decide +kernel)
set_option maxRecDepth 65536 in
theorem w_c1 : (Jvm.Cond.code ({ cls := "com/example/veilquery/veilquery/scheme/PairCode", name := "symbol", desc := "(I)C" } : Jvm.MethodName) prog_10_method_7_code (1 : Nat) (Option.some Jvm.ClassFile.FieldType.char)).before args0 about1 = true := code_word (m := ⟨3, 0⟩) (meth := k3m0) (c := k3c0) (by decide +kernel) rfl rfl rfl (by decide +kernel)
set_option maxRecDepth 65536 in
theorem w_c2 : (Jvm.Cond.code ({ cls := "java/lang/Math", name := "min", desc := "(II)I" } : Jvm.MethodName) jdk_29_method_69_code (2 : Nat) (Option.some Jvm.ClassFile.FieldType.int)).before args0 about1 = true := code_word (m := ⟨4, 1⟩) (meth := k4m1) (c := k4c1) (by decide +kernel) rfl rfl rfl (by decide +kernel)
set_option maxRecDepth 65536 in
theorem w_c3 : (Jvm.Cond.code ({ cls := "java/lang/String", name := "charAt", desc := "(I)C" } : Jvm.MethodName) jdk_42_method_56_code (2 : Nat) (Option.some Jvm.ClassFile.FieldType.char)).before args0 about1 = true := code_word (m := ⟨10, 1⟩) (meth := k10m1) (c := k10c1) (by decide +kernel) rfl rfl rfl (by decide +kernel)
set_option maxRecDepth 65536 in
theorem w_c4 : (Jvm.Cond.code ({ cls := "java/lang/String", name := "isLatin1", desc := "()Z" } : Jvm.MethodName) jdk_42_method_154_code (1 : Nat) (Option.some Jvm.ClassFile.FieldType.boolean)).before args0 about1 = true := code_word (m := ⟨10, 2⟩) (meth := k10m2) (c := k10c2) (by decide +kernel) rfl rfl rfl (by decide +kernel)
set_option maxRecDepth 65536 in
theorem w_c5 : (Jvm.Cond.code ({ cls := "java/lang/StringLatin1", name := "charAt", desc := "([BI)C" } : Jvm.MethodName) jdk_43_method_2_code (2 : Nat) (Option.some Jvm.ClassFile.FieldType.char)).before args0 about1 = true := code_word (m := ⟨11, 1⟩) (meth := k11m1) (c := k11c1) (by decide +kernel) rfl rfl rfl (by decide +kernel)
set_option maxRecDepth 65536 in
theorem w_c6 : (Jvm.Cond.code ({ cls := "java/lang/String", name := "checkIndex", desc := "(II)V" } : Jvm.MethodName) jdk_42_method_155_code (2 : Nat) (Option.none : Option Jvm.ClassFile.FieldType)).before args0 about1 = true := code_word (m := ⟨10, 3⟩) (meth := k10m3) (c := k10c3) (by decide +kernel) rfl rfl rfl (by decide +kernel)
set_option maxRecDepth 65536 in
theorem w_c7 : (Jvm.Cond.code ({ cls := "jdk/internal/util/Preconditions", name := "checkIndex", desc := "(IILjava/util/function/BiFunction;)I" } : Jvm.MethodName) jdk_41_method_11_code (3 : Nat) (Option.some Jvm.ClassFile.FieldType.int)).before args0 about1 = true := code_word (m := ⟨12, 1⟩) (meth := k12m1) (c := k12c1) (by decide +kernel) rfl rfl rfl (by decide +kernel)
def codes1 : List Jvm.Cond := [Jvm.Cond.code x code maxLocals ret, Jvm.Cond.code ({ cls := "com/example/veilquery/veilquery/scheme/PairCode", name := "symbol", desc := "(I)C" } : Jvm.MethodName) prog_10_method_7_code (1 : Nat) (Option.some Jvm.ClassFile.FieldType.char), Jvm.Cond.code ({ cls := "java/lang/Math", name := "min", desc := "(II)I" } : Jvm.MethodName) jdk_29_method_69_code (2 : Nat) (Option.some Jvm.ClassFile.FieldType.int), Jvm.Cond.code ({ cls := "java/lang/String", name := "charAt", desc := "(I)C" } : Jvm.MethodName) jdk_42_method_56_code (2 : Nat) (Option.some Jvm.ClassFile.FieldType.char), Jvm.Cond.code ({ cls := "java/lang/String", name := "isLatin1", desc := "()Z" } : Jvm.MethodName) jdk_42_method_154_code (1 : Nat) (Option.some Jvm.ClassFile.FieldType.boolean), Jvm.Cond.code ({ cls := "java/lang/StringLatin1", name := "charAt", desc := "([BI)C" } : Jvm.MethodName) jdk_43_method_2_code (2 : Nat) (Option.some Jvm.ClassFile.FieldType.char), Jvm.Cond.code ({ cls := "java/lang/String", name := "checkIndex", desc := "(II)V" } : Jvm.MethodName) jdk_42_method_155_code (2 : Nat) (Option.none : Option Jvm.ClassFile.FieldType), Jvm.Cond.code ({ cls := "jdk/internal/util/Preconditions", name := "checkIndex", desc := "(IILjava/util/function/BiFunction;)I" } : Jvm.MethodName) jdk_41_method_11_code (3 : Nat) (Option.some Jvm.ClassFile.FieldType.int)]
set_option maxRecDepth 65536 in
theorem codes_eq : words1.filter isCode = codes1 := rfl
theorem w_codes : ∀ c ∈ words1.filter isCode, c.before args0 about1 = true := by
  rw [codes_eq]
  intro c hc
  simp only [codes1, List.mem_cons, List.not_mem_nil, or_false] at hc
  rcases hc with rfl | rfl | rfl | rfl | rfl | rfl | rfl | rfl
  · exact w_c0
  · exact w_c1
  · exact w_c2
  · exact w_c3
  · exact w_c4
  · exact w_c5
  · exact w_c6
  · exact w_c7
set_option maxRecDepth 65536 in
theorem w_t1 : (words1.take 24).all (fun c => isCode c || c.before args0 about1) = true := by decide +kernel
set_option maxRecDepth 65536 in
theorem w_t2 : (words1.drop 24).all (fun c => isCode c || c.before args0 about1) = true := by decide +kernel
theorem w_tables : (allAtoms (Jvm.Cond.code x code maxLocals ret :: tables_1)).before args0 about1 = true := by
  rw [allAtoms_all]
  show words1.all (fun c => c.before args0 about1) = true
  refine all_split ?_ w_codes
  rw [← List.take_append_drop 24 words1, List.all_append, w_t1, w_t2]
  rfl
set_option maxRecDepth 65536 in
theorem w_rest : rest_1_c.before args0 about1 = true := by decide +kernel
set_option maxRecDepth 65536 in
theorem w_case : (Jvm.Cond.and given_1 narrow_1).before args0 about1 = true := by decide +kernel
set_option maxRecDepth 65536 in
theorem w_consts : constsHeld consts_1 about1 := Jvm.Lit.constsHeldB_iff.mp (by decide +kernel)
theorem w_applies : (headSpec (Jvm.Cond.code x code maxLocals ret :: tables_1) room_1).applies x e0.platform about1 = true :=
  (Spec.applies_iff w_frames).mpr ⟨w_running, w_runnable, w_alone, w_named, w_hears, w_ripe, w_room, w_tables⟩
theorem atStart : AtStart classFile x code maxLocals ret World_1 tables_1 room_1 Calls_1 rest_1 Pre_1 launch0 p0 e0 about1 theMethod args0 below0 :=
  ⟨lists_1, trivial, launch0.admits_env _ _ _, launch0.least_env, fairChoices_fair.cas, fairChoices_fair.clock, w_frames, w_args, w_heap, w_applies, ⟨w_consts, trivial⟩, w_rest, w_case⟩
end start1
theorem witness_1 : WitnessClaimed_1 := ⟨start1.p0, start1.e0, start1.about1, start1.theMethod, start1.args0, start1.below0, start1.atStart⟩
end Jvm.Pilot.@@N@@
