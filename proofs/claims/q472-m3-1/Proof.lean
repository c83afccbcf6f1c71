import JvmDerived
import JvmDerived.Pilot.@@N@@Statement
import JvmDerived.Pilot.@@N@@Code
set_option linter.unusedVariables false
set_option linter.unusedSimpArgs false
namespace Jvm.Pilot.@@N@@
open Jvm Jvm.ClassFile Sem Op Lib Jvm.Free Jvm.Stand Jvm.LawKit Jvm.RoadKit Bundle Jvm.Pilot.@@N@@.Jvm.D
section Own
variable {p : Program} {l : Launch} {e : Env} {R : Room} {s : State} {m : MethodId} {args : Array Value} {below : List Frame} {meth : Method} {c : Code} {T : State} {locs : List Loc} {cells slots : Nat} {Z : State} {a0 : Array Value} {h : Heap} {W : Outcome → State → Prop} {B : ByteArray} {own : String} {ml : Nat} {pc pc' : Nat} {Ls : Array Slot} {st : List Value}
/-- the walk from T ends, and W holds of its end -/
def Go (p : Program) (e : Env) (below : List Frame) (W : Outcome → State → Prop) (T : State) : Prop := ∃ t o, Steps p.tables e below T t ∧ t.status = .running ∧ Ended t below o ∧ W o t
theorem Go.via {T' : State} (h : ∀ t, Steps p.tables e below T' t → Steps p.tables e below T t) (k : Go p e below W T') : Go p e below W T := by
  obtain ⟨t, o, s, r⟩ := k
  exact ⟨t, o, h t s, r⟩
def Ctx (p : Program) (s : State) (m : MethodId) (c : Code) (Z : State) (B : ByteArray) (own : String) (ml : Nat) : Prop := p.tables.exec = Jvm.exec ∧ c.code = B ∧ Z.Warmed39 s.vm ∧ s.vm.findClass own = some m.cls ∧ c.maxLocals = ml
theorem Ctx.at (K : Ctx p s m c Z B own ml) {r} (d : decode B pc = r) : decode c.code pc = r := K.2.1 ▸ d
def Con (l : Launch) (y : MethodName) (B : ByteArray) (ml : Nat) (rt : Option FieldType) (ws : List Jvm.Cond) (rm : Room) (Z : State) (as' : Array Value) (h0 : Heap) (Q : Option Value → Heap → List Loc → Prop) : Prop :=
  MetFree l y (head1 (Jvm.Cond.code y B ml rt :: ws) rm) (fun a U => a = as' ∧ Z.Warmed39 U.vm ∧ U.heap = h0) (fun _ _ _ _ _ => True) (fun _ U o U' => ∃ v L, o = .returned v ∧ Q v U'.heap L ∧ FrameEnd U o U' L rm.cells rm.slots)
/-- what a walk of a body owes at its end -/
def End (s : State) (R : Room) (Q : Option Value → Heap → List Loc → Prop) (o : Outcome) (U : State) : Prop := ∃ v L, o = .returned v ∧ Q v U.heap L ∧ FrameEnd s o U L R.cells R.slots
theorem own_enter {y : MethodName} {rt : Option FieldType} {ws : List Jvm.Cond} {rm : Room} {as' : Array Value} {h0 : Heap} {Q : Option Value → Heap → List Loc → Prop} (hpl : plainFor y = true) (hef : ∀ m, entryFrame m as' ml = mkF m 0 Ls [])
    (body : ∀ (p : Program) (e : Env) (s : State) (m : MethodId) (below : List Frame) (meth : Method) (c : Code) (T : State), Ctx p s m c Z B y.cls ml → Stand p l e rm s m as' below meth c T [] 0 0 → T.heap = h0 → meth.sig.returnType = rt → meth.locks = false → meth.name = y.name →
      Go p e below (End s rm Q) (T.setTop (mkF m 0 Ls []))) : Con l y B ml rt ws rm Z as' h0 Q := by
  refine MetFree.of_bodySF hpl hisR ?_
  intro p e s m args below meth c s₁ Bd hml0 hP hK
  obtain ⟨rfl, hZ, hh⟩ := hP
  have k := body p e s m below meth c s₁ ⟨Bd.exec, Bd.bytes, hZ, findClass_of_methodNamed Bd.named, hml0⟩ (Stand.of_body Bd) (by rw [← hh, Bd.state]; rfl) Bd.returns Bd.notSynchronized (name_of_methodNamed Bd.named Bd.method).1
  rw [← hef] at k
  exact k
theorem own_le {a b : Nat} (h : Nat.ble a b = true) : a ≤ b := Nat.le_of_ble_eq_true h
theorem own_sta_keep {h' : Heap} {C n d : String} {v : Value} (F : Sta Z h C n d v) (K : Keep h h' []) : Sta Z h' C n d v := by
  obtain ⟨cf, i, k, f, st, cell, h1, h2, h3, h4, h5, r⟩ := F
  exact ⟨cf, i, k, f, st, cell, h1, h2, h3, h4, K.2.1 _ _ h5 nin0, r⟩
theorem own_sto {h : Heap} {a y : Addr} {k : ClassId} {ty : FieldType} {n : Int32} {vs : List Value} {dv : Value} {C : String} (F : Arv Z h a k ty n vs dv) (O : Ovr Z k C) (I : Ins Z h y C true) : Sto Z h a (.ref y) := by
  obtain ⟨c, A, q, -⟩ := F
  exact Sto.ofV A q O I
theorem own_w {ts : List Jvm.Cond} (hw : ∀ d ∈ ts, d.before a0 Z = true) (i : Nat) {d : Jvm.Cond} (h : ts[i]? = some d) : d.before a0 Z = true := hw _ (List.mem_of_getElem? h)
theorem own_iloadN (K : Ctx p s m c Z B own ml) (X : Stand p l e R s m args below meth c T locs cells slots) {i : Fin 4} {v : Int32} (hd : decode B pc = .ok (.iload_n i, 1)) (hl : Ls[i.val]? = some (.val (.int v))) (hp : pc + 1 = pc') (k : Go p e below W (T.setTop (mkF m pc' Ls (.int v :: st)))) : Go p e below W (T.setTop (mkF m pc Ls st)) := by
  subst hp; exact k.via fun t k => XS.iloadN X.here K.1 rfl (K.at hd) hl k
theorem own_iload (K : Ctx p s m c Z B own ml) (X : Stand p l e R s m args below meth c T locs cells slots) {i : Nat} {v : Int32} (hd : decode B pc = .ok (.iload i, 2)) (hl : Ls[i]? = some (.val (.int v))) (hp : pc + 2 = pc') (k : Go p e below W (T.setTop (mkF m pc' Ls (.int v :: st)))) : Go p e below W (T.setTop (mkF m pc Ls st)) := by
  subst hp; exact k.via fun t k => XS.iload X.here K.1 rfl (K.at hd) hl k
theorem own_lloadN (K : Ctx p s m c Z B own ml) (X : Stand p l e R s m args below meth c T locs cells slots) {i : Fin 4} {v : Int64} (hd : decode B pc = .ok (.lload_n i, 1)) (hl : Ls[i.val]? = some (.val (.long v))) (hp : pc + 1 = pc') (k : Go p e below W (T.setTop (mkF m pc' Ls (.long v :: st)))) : Go p e below W (T.setTop (mkF m pc Ls st)) := by
  subst hp; exact k.via fun t k => XS.lloadN X.here K.1 rfl (K.at hd) hl k
theorem own_lload (K : Ctx p s m c Z B own ml) (X : Stand p l e R s m args below meth c T locs cells slots) {i : Nat} {v : Int64} (hd : decode B pc = .ok (.lload i, 2)) (hl : Ls[i]? = some (.val (.long v))) (hp : pc + 2 = pc') (k : Go p e below W (T.setTop (mkF m pc' Ls (.long v :: st)))) : Go p e below W (T.setTop (mkF m pc Ls st)) := by
  subst hp; exact k.via fun t k => XS.lload X.here K.1 rfl (K.at hd) hl k
theorem own_aloadN (K : Ctx p s m c Z B own ml) (X : Stand p l e R s m args below meth c T locs cells slots) {i : Fin 4} {v : Value} (hd : decode B pc = .ok (.aload_n i, 1)) (hl : Ls[i.val]? = some (.val v)) (hv : v.isRef = true) (hp : pc + 1 = pc') (k : Go p e below W (T.setTop (mkF m pc' Ls (v :: st)))) : Go p e below W (T.setTop (mkF m pc Ls st)) := by
  subst hp; exact k.via fun t k => XS.aloadN X.here K.1 rfl (K.at hd) hl hv k
theorem own_aload (K : Ctx p s m c Z B own ml) (X : Stand p l e R s m args below meth c T locs cells slots) {i : Nat} {v : Value} (hd : decode B pc = .ok (.aload i, 2)) (hl : Ls[i]? = some (.val v)) (hv : v.isRef = true) (hp : pc + 2 = pc') (k : Go p e below W (T.setTop (mkF m pc' Ls (v :: st)))) : Go p e below W (T.setTop (mkF m pc Ls st)) := by
  subst hp; exact k.via fun t k => XS.aload X.here K.1 rfl (K.at hd) hl hv k
theorem own_iconst (K : Ctx p s m c Z B own ml) (X : Stand p l e R s m args below meth c T locs cells slots) {i : Int} {v : Int32} (hd : decode B pc = .ok (.iconst i, 1)) (hv : Int32.ofInt i = v) (hp : pc + 1 = pc') (k : Go p e below W (T.setTop (mkF m pc' Ls (.int v :: st)))) : Go p e below W (T.setTop (mkF m pc Ls st)) := by
  subst hp hv; exact k.via fun t k => XS.iconst X.here K.1 rfl (K.at hd) k
theorem own_bipush (K : Ctx p s m c Z B own ml) (X : Stand p l e R s m args below meth c T locs cells slots) {i : Int} {v : Int32} (hd : decode B pc = .ok (.bipush i, 2)) (hv : (Int8.ofInt i).toInt32 = v) (hp : pc + 2 = pc') (k : Go p e below W (T.setTop (mkF m pc' Ls (.int v :: st)))) : Go p e below W (T.setTop (mkF m pc Ls st)) := by
  subst hp hv; exact k.via fun t k => XS.bipush X.here K.1 rfl (K.at hd) k
theorem own_sipush (K : Ctx p s m c Z B own ml) (X : Stand p l e R s m args below meth c T locs cells slots) {i : Int} {v : Int32} (hd : decode B pc = .ok (.sipush i, 3)) (hv : (Int16.ofInt i).toInt32 = v) (hp : pc + 3 = pc') (k : Go p e below W (T.setTop (mkF m pc' Ls (.int v :: st)))) : Go p e below W (T.setTop (mkF m pc Ls st)) := by
  subst hp hv; exact k.via fun t k => XS.sipush X.here K.1 rfl (K.at hd) k
theorem own_lconst (K : Ctx p s m c Z B own ml) (X : Stand p l e R s m args below meth c T locs cells slots) {i : Fin 2} {v : Int64} (hd : decode B pc = .ok (.lconst i, 1)) (hv : Int64.ofNat i = v) (hp : pc + 1 = pc') (k : Go p e below W (T.setTop (mkF m pc' Ls (.long v :: st)))) : Go p e below W (T.setTop (mkF m pc Ls st)) := by
  subst hp hv; exact k.via fun t k => XS.lconst X.here K.1 rfl (K.at hd) k
theorem own_aconst_null (K : Ctx p s m c Z B own ml) (X : Stand p l e R s m args below meth c T locs cells slots)  (hd : decode B pc = .ok (.aconst_null, 1))  (hp : pc + 1 = pc') (k : Go p e below W (T.setTop (mkF m pc' Ls (.null :: st)))) : Go p e below W (T.setTop (mkF m pc Ls st)) := by
  subst hp; exact k.via fun t k => XS.aconstNull X.here K.1 rfl (K.at hd) k
theorem own_iadd (K : Ctx p s m c Z B own ml) (X : Stand p l e R s m args below meth c T locs cells slots) {x y : Int32} (hd : decode B pc = .ok (.iadd, 1))  (hp : pc + 1 = pc') (k : Go p e below W (T.setTop (mkF m pc' Ls (.int (x + y) :: st)))) : Go p e below W (T.setTop (mkF m pc Ls (.int y :: .int x :: st))) := by
  subst hp; exact k.via fun t k => XS.iadd X.here K.1 rfl (K.at hd) rfl k
theorem own_isub (K : Ctx p s m c Z B own ml) (X : Stand p l e R s m args below meth c T locs cells slots) {x y : Int32} (hd : decode B pc = .ok (.isub, 1))  (hp : pc + 1 = pc') (k : Go p e below W (T.setTop (mkF m pc' Ls (.int (x - y) :: st)))) : Go p e below W (T.setTop (mkF m pc Ls (.int y :: .int x :: st))) := by
  subst hp; exact k.via fun t k => XS.isub X.here K.1 rfl (K.at hd) rfl k
theorem own_imul (K : Ctx p s m c Z B own ml) (X : Stand p l e R s m args below meth c T locs cells slots) {x y : Int32} (hd : decode B pc = .ok (.imul, 1))  (hp : pc + 1 = pc') (k : Go p e below W (T.setTop (mkF m pc' Ls (.int (x * y) :: st)))) : Go p e below W (T.setTop (mkF m pc Ls (.int y :: .int x :: st))) := by
  subst hp; exact k.via fun t k => XS.imul X.here K.1 rfl (K.at hd) rfl k
theorem own_iand (K : Ctx p s m c Z B own ml) (X : Stand p l e R s m args below meth c T locs cells slots) {x y : Int32} (hd : decode B pc = .ok (.iand, 1))  (hp : pc + 1 = pc') (k : Go p e below W (T.setTop (mkF m pc' Ls (.int (x &&& y) :: st)))) : Go p e below W (T.setTop (mkF m pc Ls (.int y :: .int x :: st))) := by
  subst hp; exact k.via fun t k => XS.iand X.here K.1 rfl (K.at hd) rfl k
theorem own_ior (K : Ctx p s m c Z B own ml) (X : Stand p l e R s m args below meth c T locs cells slots) {x y : Int32} (hd : decode B pc = .ok (.ior, 1))  (hp : pc + 1 = pc') (k : Go p e below W (T.setTop (mkF m pc' Ls (.int (x ||| y) :: st)))) : Go p e below W (T.setTop (mkF m pc Ls (.int y :: .int x :: st))) := by
  subst hp; exact k.via fun t k => XS.ior X.here K.1 rfl (K.at hd) rfl k
theorem own_ixor (K : Ctx p s m c Z B own ml) (X : Stand p l e R s m args below meth c T locs cells slots) {x y : Int32} (hd : decode B pc = .ok (.ixor, 1))  (hp : pc + 1 = pc') (k : Go p e below W (T.setTop (mkF m pc' Ls (.int (x ^^^ y) :: st)))) : Go p e below W (T.setTop (mkF m pc Ls (.int y :: .int x :: st))) := by
  subst hp; exact k.via fun t k => XS.ixor X.here K.1 rfl (K.at hd) rfl k
theorem own_ishl (K : Ctx p s m c Z B own ml) (X : Stand p l e R s m args below meth c T locs cells slots) {x y : Int32} (hd : decode B pc = .ok (.ishl, 1))  (hp : pc + 1 = pc') (k : Go p e below W (T.setTop (mkF m pc' Ls (.int (x <<< (y &&& 31)) :: st)))) : Go p e below W (T.setTop (mkF m pc Ls (.int y :: .int x :: st))) := by
  subst hp; exact k.via fun t k => XS.ishl X.here K.1 rfl (K.at hd) rfl k
theorem own_ishr (K : Ctx p s m c Z B own ml) (X : Stand p l e R s m args below meth c T locs cells slots) {x y : Int32} (hd : decode B pc = .ok (.ishr, 1))  (hp : pc + 1 = pc') (k : Go p e below W (T.setTop (mkF m pc' Ls (.int (x >>> (y &&& 31)) :: st)))) : Go p e below W (T.setTop (mkF m pc Ls (.int y :: .int x :: st))) := by
  subst hp; exact k.via fun t k => XS.ishr X.here K.1 rfl (K.at hd) rfl k
theorem own_iushr (K : Ctx p s m c Z B own ml) (X : Stand p l e R s m args below meth c T locs cells slots) {x y : Int32} (hd : decode B pc = .ok (.iushr, 1))  (hp : pc + 1 = pc') (k : Go p e below W (T.setTop (mkF m pc' Ls (.int (XT.ushr x y) :: st)))) : Go p e below W (T.setTop (mkF m pc Ls (.int y :: .int x :: st))) := by
  subst hp; exact k.via fun t k => XS.iushr X.here K.1 rfl (K.at hd) rfl k
theorem own_ladd (K : Ctx p s m c Z B own ml) (X : Stand p l e R s m args below meth c T locs cells slots) {x y : Int64} (hd : decode B pc = .ok (.ladd, 1))  (hp : pc + 1 = pc') (k : Go p e below W (T.setTop (mkF m pc' Ls (.long (x + y) :: st)))) : Go p e below W (T.setTop (mkF m pc Ls (.long y :: .long x :: st))) := by
  subst hp; exact k.via fun t k => XS.ladd X.here K.1 rfl (K.at hd) rfl k
theorem own_lsub (K : Ctx p s m c Z B own ml) (X : Stand p l e R s m args below meth c T locs cells slots) {x y : Int64} (hd : decode B pc = .ok (.lsub, 1))  (hp : pc + 1 = pc') (k : Go p e below W (T.setTop (mkF m pc' Ls (.long (x - y) :: st)))) : Go p e below W (T.setTop (mkF m pc Ls (.long y :: .long x :: st))) := by
  subst hp; exact k.via fun t k => XS.lsub X.here K.1 rfl (K.at hd) rfl k
theorem own_lmul (K : Ctx p s m c Z B own ml) (X : Stand p l e R s m args below meth c T locs cells slots) {x y : Int64} (hd : decode B pc = .ok (.lmul, 1))  (hp : pc + 1 = pc') (k : Go p e below W (T.setTop (mkF m pc' Ls (.long (x * y) :: st)))) : Go p e below W (T.setTop (mkF m pc Ls (.long y :: .long x :: st))) := by
  subst hp; exact k.via fun t k => XS.lmul X.here K.1 rfl (K.at hd) rfl k
theorem own_irem (K : Ctx p s m c Z B own ml) (X : Stand p l e R s m args below meth c T locs cells slots) {x y : Int32} (hd : decode B pc = .ok (.irem, 1)) (hy : y ≠ 0) (hp : pc + 1 = pc') (k : Go p e below W (T.setTop (mkF m pc' Ls (.int (x % y) :: st)))) : Go p e below W (T.setTop (mkF m pc Ls (.int y :: .int x :: st))) := by
  subst hp; exact k.via fun t k => iremM (g := mkF m pc Ls (.int y :: .int x :: st)) X K.1 rfl (K.at hd) rfl hy k
theorem own_idiv (K : Ctx p s m c Z B own ml) (X : Stand p l e R s m args below meth c T locs cells slots) {x y : Int32} (hd : decode B pc = .ok (.idiv, 1)) (hy : y ≠ 0) (hp : pc + 1 = pc') (k : Go p e below W (T.setTop (mkF m pc' Ls (.int (x / y) :: st)))) : Go p e below W (T.setTop (mkF m pc Ls (.int y :: .int x :: st))) := by
  subst hp; exact k.via fun t k => XS.idiv X.here K.1 rfl (K.at hd) rfl hy k
theorem own_lcmp (K : Ctx p s m c Z B own ml) (X : Stand p l e R s m args below meth c T locs cells slots) {x y : Int64} (hd : decode B pc = .ok (.lcmp, 1))  (hp : pc + 1 = pc') (k : Go p e below W (T.setTop (mkF m pc' Ls (.int (XT.cmpL x y) :: st)))) : Go p e below W (T.setTop (mkF m pc Ls (.long y :: .long x :: st))) := by
  subst hp; exact k.via fun t k => XS.lcmp X.here K.1 rfl (K.at hd) rfl k
theorem own_i2l (K : Ctx p s m c Z B own ml) (X : Stand p l e R s m args below meth c T locs cells slots) {x : Int32} (hd : decode B pc = .ok (.i2l, 1))  (hp : pc + 1 = pc') (k : Go p e below W (T.setTop (mkF m pc' Ls (.long x.toInt64 :: st)))) : Go p e below W (T.setTop (mkF m pc Ls (.int x :: st))) := by
  subst hp; exact k.via fun t k => XS.i2l X.here K.1 rfl (K.at hd) rfl k
theorem own_l2i (K : Ctx p s m c Z B own ml) (X : Stand p l e R s m args below meth c T locs cells slots) {x : Int64} (hd : decode B pc = .ok (.l2i, 1))  (hp : pc + 1 = pc') (k : Go p e below W (T.setTop (mkF m pc' Ls (.int x.toInt32 :: st)))) : Go p e below W (T.setTop (mkF m pc Ls (.long x :: st))) := by
  subst hp; exact k.via fun t k => XS.l2i X.here K.1 rfl (K.at hd) rfl k
theorem own_i2c (K : Ctx p s m c Z B own ml) (X : Stand p l e R s m args below meth c T locs cells slots) {x : Int32} (hd : decode B pc = .ok (.i2c, 1))  (hp : pc + 1 = pc') (k : Go p e below W (T.setTop (mkF m pc' Ls (.int x.toUInt32.toUInt16.toUInt32.toInt32 :: st)))) : Go p e below W (T.setTop (mkF m pc Ls (.int x :: st))) := by
  subst hp; exact k.via fun t k => XS.i2c X.here K.1 rfl (K.at hd) rfl k
theorem own_i2b (K : Ctx p s m c Z B own ml) (X : Stand p l e R s m args below meth c T locs cells slots) {x : Int32} (hd : decode B pc = .ok (.i2b, 1))  (hp : pc + 1 = pc') (k : Go p e below W (T.setTop (mkF m pc' Ls (.int x.toInt8.toInt32 :: st)))) : Go p e below W (T.setTop (mkF m pc Ls (.int x :: st))) := by
  subst hp; exact k.via fun t k => XS.i2b X.here K.1 rfl (K.at hd) rfl k
theorem own_dup (K : Ctx p s m c Z B own ml) (X : Stand p l e R s m args below meth c T locs cells slots) {x : Value} (hd : decode B pc = .ok (.dup, 1)) (hc : x.category = 1) (hp : pc + 1 = pc') (k : Go p e below W (T.setTop (mkF m pc' Ls (x :: x :: st)))) : Go p e below W (T.setTop (mkF m pc Ls (x :: st))) := by
  subst hp; exact k.via fun t k => XS.dup X.here K.1 rfl (K.at hd) rfl hc k
theorem own_dup_x1 (K : Ctx p s m c Z B own ml) (X : Stand p l e R s m args below meth c T locs cells slots) {x y : Value} (hd : decode B pc = .ok (.dup_x1, 1)) (hc : x.category = 1) (hc' : y.category = 1) (hp : pc + 1 = pc') (k : Go p e below W (T.setTop (mkF m pc' Ls (x :: y :: x :: st)))) : Go p e below W (T.setTop (mkF m pc Ls (x :: y :: st))) := by
  subst hp; exact k.via fun t k => XS.dupX1 X.here K.1 rfl (K.at hd) rfl hc hc' k
theorem own_dup2 (K : Ctx p s m c Z B own ml) (X : Stand p l e R s m args below meth c T locs cells slots) {x y : Value} (hd : decode B pc = .ok (.dup2, 1)) (hc : x.category = 1) (hc' : y.category = 1) (hp : pc + 1 = pc') (k : Go p e below W (T.setTop (mkF m pc' Ls (x :: y :: x :: y :: st)))) : Go p e below W (T.setTop (mkF m pc Ls (x :: y :: st))) := by
  subst hp; exact k.via fun t k => XT.dup2 X.here K.1 rfl (K.at hd) rfl hc hc' k
theorem own_dup2L (K : Ctx p s m c Z B own ml) (X : Stand p l e R s m args below meth c T locs cells slots) {x : Int64} (hd : decode B pc = .ok (.dup2, 1))  (hp : pc + 1 = pc') (k : Go p e below W (T.setTop (mkF m pc' Ls (.long x :: .long x :: st)))) : Go p e below W (T.setTop (mkF m pc Ls (.long x :: st))) := by
  subst hp; exact k.via fun t k => XT.dup2L X.here K.1 rfl (K.at hd) rfl k
theorem own_pop (K : Ctx p s m c Z B own ml) (X : Stand p l e R s m args below meth c T locs cells slots) {x : Value} (hd : decode B pc = .ok (.pop, 1)) (hc : x.category = 1) (hp : pc + 1 = pc') (k : Go p e below W (T.setTop (mkF m pc' Ls st))) : Go p e below W (T.setTop (mkF m pc Ls (x :: st))) := by
  subst hp; exact k.via fun t k => XS.pop X.here K.1 rfl (K.at hd) rfl hc k
theorem own_istoreN (K : Ctx p s m c Z B own ml) (X : Stand p l e R s m args below meth c T locs cells slots) {i : Fin 4} {x : Int32} {l' : Array Slot} (hd : decode B pc = .ok (.istore_n i, 1)) (hl : storeLocals Ls i.val (.int x) = some l') (hp : pc + 1 = pc') (k : Go p e below W (T.setTop (mkF m pc' l' st))) : Go p e below W (T.setTop (mkF m pc Ls (.int x :: st))) := by
  subst hp; exact k.via fun t k => XS.istoreN X.here K.1 rfl (K.at hd) rfl hl k
theorem own_istore (K : Ctx p s m c Z B own ml) (X : Stand p l e R s m args below meth c T locs cells slots) {i : Nat} {x : Int32} {l' : Array Slot} (hd : decode B pc = .ok (.istore i, 2)) (hl : storeLocals Ls i (.int x) = some l') (hp : pc + 2 = pc') (k : Go p e below W (T.setTop (mkF m pc' l' st))) : Go p e below W (T.setTop (mkF m pc Ls (.int x :: st))) := by
  subst hp; exact k.via fun t k => XS.istore X.here K.1 rfl (K.at hd) rfl hl k
theorem own_lstoreN (K : Ctx p s m c Z B own ml) (X : Stand p l e R s m args below meth c T locs cells slots) {i : Fin 4} {x : Int64} {l' : Array Slot} (hd : decode B pc = .ok (.lstore_n i, 1)) (hl : storeLocals Ls i.val (.long x) = some l') (hp : pc + 1 = pc') (k : Go p e below W (T.setTop (mkF m pc' l' st))) : Go p e below W (T.setTop (mkF m pc Ls (.long x :: st))) := by
  subst hp; exact k.via fun t k => XS.lstoreN X.here K.1 rfl (K.at hd) rfl hl k
theorem own_lstore (K : Ctx p s m c Z B own ml) (X : Stand p l e R s m args below meth c T locs cells slots) {i : Nat} {x : Int64} {l' : Array Slot} (hd : decode B pc = .ok (.lstore i, 2)) (hl : storeLocals Ls i (.long x) = some l') (hp : pc + 2 = pc') (k : Go p e below W (T.setTop (mkF m pc' l' st))) : Go p e below W (T.setTop (mkF m pc Ls (.long x :: st))) := by
  subst hp; exact k.via fun t k => XS.lstore X.here K.1 rfl (K.at hd) rfl hl k
theorem own_astoreN (K : Ctx p s m c Z B own ml) (X : Stand p l e R s m args below meth c T locs cells slots) {i : Fin 4} {x : Value} {l' : Array Slot} (hd : decode B pc = .ok (.astore_n i, 1)) (hv : x.isRef = true) (hl : storeLocals Ls i.val x = some l') (hp : pc + 1 = pc') (k : Go p e below W (T.setTop (mkF m pc' l' st))) : Go p e below W (T.setTop (mkF m pc Ls (x :: st))) := by
  subst hp; exact k.via fun t k => XS.astoreN X.here K.1 rfl (K.at hd) rfl hv hl k
theorem own_astore (K : Ctx p s m c Z B own ml) (X : Stand p l e R s m args below meth c T locs cells slots) {i : Nat} {x : Value} {l' : Array Slot} (hd : decode B pc = .ok (.astore i, 2)) (hv : x.isRef = true) (hl : storeLocals Ls i x = some l') (hp : pc + 2 = pc') (k : Go p e below W (T.setTop (mkF m pc' l' st))) : Go p e below W (T.setTop (mkF m pc Ls (x :: st))) := by
  subst hp; exact k.via fun t k => XS.astore X.here K.1 rfl (K.at hd) rfl hv hl k
theorem own_iinc (K : Ctx p s m c Z B own ml) (X : Stand p l e R s m args below meth c T locs cells slots) {i : Nat} {n : Int} {x v : Int32} {l' : Array Slot} (hd : decode B pc = .ok (.iinc i n, 3)) (hv : Int32.ofInt n = v) (hl : Ls[i]? = some (.val (.int x))) (hl' : storeLocals Ls i (.int (x + v)) = some l') (hp : pc + 3 = pc') (k : Go p e below W (T.setTop (mkF m pc' l' st))) : Go p e below W (T.setTop (mkF m pc Ls st)) := by
  subst hp hv; exact k.via fun t k => XS.iinc X.here K.1 rfl (K.at hd) hl hl' k
theorem own_ldcI (K : Ctx p s m c Z B own ml) (X : Stand p l e R s m args below meth c T locs cells slots) {i : Nat} {v : Int32} (hd : decode B pc = .ok (.ldc i, 2)) (w : (Jvm.Cond.constant own i v).before a0 Z = true) (hp : pc + 2 = pc') (k : Go p e below W (T.setTop (mkF m pc' Ls (.int v :: st)))) : Go p e below W (T.setTop (mkF m pc Ls st)) := by
  subst hp; exact k.via fun t k => X.ldcInt K.1 K.2.2.2.1 (mv K.2.2.1 w) (g := mkF m pc Ls st) rfl (K.at hd) t k
theorem own_ldc2J (K : Ctx p s m c Z B own ml) (X : Stand p l e R s m args below meth c T locs cells slots) {i : Nat} {v : Int64} (hd : decode B pc = .ok (.ldc2_w i, 3)) (w : (Jvm.Cond.constantLong own i v).before a0 Z = true) (hp : pc + 3 = pc') (k : Go p e below W (T.setTop (mkF m pc' Ls (.long v :: st)))) : Go p e below W (T.setTop (mkF m pc Ls st)) := by
  subst hp; exact k.via fun t k => X.ldc2Long K.1 K.2.2.2.1 (mv K.2.2.1 w) (g := mkF m pc Ls st) rfl (K.at hd) t k
theorem own_ifnullYes (K : Ctx p s m c Z B own ml) (X : Stand p l e R s m args below meth c T locs cells slots) {b : Addr} {o : Int} (hd : decode B pc = .ok (.ifnull o, 3)) (ho : 0 ≤ (pc : Int) + o) (hp : ((pc : Int) + o).toNat = pc') (k : Go p e below W (T.setTop (mkF m pc' Ls st))) : Go p e below W (T.setTop (mkF m pc Ls (.null :: st))) :=
  k.via fun t k => XS.ifnullYes X.here K.1 rfl rfl (K.at hd) rfl ho hp k
theorem own_ifnullNo (K : Ctx p s m c Z B own ml) (X : Stand p l e R s m args below meth c T locs cells slots) {b : Addr} {o : Int} (hd : decode B pc = .ok (.ifnull o, 3)) (hp : pc + 3 = pc') (k : Go p e below W (T.setTop (mkF m pc' Ls st))) : Go p e below W (T.setTop (mkF m pc Ls (.ref b :: st))) := by
  subst hp; exact k.via fun t k => XS.ifnullNo X.here K.1 rfl (K.at hd) rfl k
theorem own_ifnonnullYes (K : Ctx p s m c Z B own ml) (X : Stand p l e R s m args below meth c T locs cells slots) {b : Addr} {o : Int} (hd : decode B pc = .ok (.ifnonnull o, 3)) (ho : 0 ≤ (pc : Int) + o) (hp : ((pc : Int) + o).toNat = pc') (k : Go p e below W (T.setTop (mkF m pc' Ls st))) : Go p e below W (T.setTop (mkF m pc Ls (.ref b :: st))) :=
  k.via fun t k => XS.ifnonnullYes X.here K.1 rfl rfl (K.at hd) rfl ho hp k
theorem own_ifnonnullNo (K : Ctx p s m c Z B own ml) (X : Stand p l e R s m args below meth c T locs cells slots) {b : Addr} {o : Int} (hd : decode B pc = .ok (.ifnonnull o, 3)) (hp : pc + 3 = pc') (k : Go p e below W (T.setTop (mkF m pc' Ls st))) : Go p e below W (T.setTop (mkF m pc Ls (.null :: st))) := by
  subst hp; exact k.via fun t k => XS.ifnonnullNo X.here K.1 rfl (K.at hd) rfl k
theorem own_goto (K : Ctx p s m c Z B own ml) (X : Stand p l e R s m args below meth c T locs cells slots) {o : Int} (hd : decode B pc = .ok (.goto o, 3)) (ho : 0 ≤ (pc : Int) + o) (hp : ((pc : Int) + o).toNat = pc') (k : Go p e below W (T.setTop (mkF m pc' Ls st))) : Go p e below W (T.setTop (mkF m pc Ls st)) :=
  k.via fun t k => XS.goto X.here K.1 rfl rfl (K.at hd) ho hp k
theorem own_ifYes (K : Ctx p s m c Z B own ml) (X : Stand p l e R s m args below meth c T locs cells slots) {cd : ClassFile.Cond} {x : Int32} {o : Int} (hd : decode B pc = .ok (.ifCond cd o, 3)) (hc : if_icmp.holds cd x 0 = true) (ho : 0 ≤ (pc : Int) + o) (hp : ((pc : Int) + o).toNat = pc') (k : Go p e below W (T.setTop (mkF m pc' Ls st))) : Go p e below W (T.setTop (mkF m pc Ls (.int x :: st))) :=
  k.via fun t k => XS.ifYes X.here K.1 rfl rfl (K.at hd) rfl ((if0 _ _).trans hc) ho hp k
theorem own_ifNo (K : Ctx p s m c Z B own ml) (X : Stand p l e R s m args below meth c T locs cells slots) {cd : ClassFile.Cond} {x : Int32} {o : Int} (hd : decode B pc = .ok (.ifCond cd o, 3)) (hc : if_icmp.holds cd x 0 = false) (hp : pc + 3 = pc') (k : Go p e below W (T.setTop (mkF m pc' Ls st))) : Go p e below W (T.setTop (mkF m pc Ls (.int x :: st))) := by
  subst hp; exact k.via fun t k => XS.ifNo X.here K.1 rfl (K.at hd) rfl ((if0 _ _).trans hc) k
theorem own_icmpYes (K : Ctx p s m c Z B own ml) (X : Stand p l e R s m args below meth c T locs cells slots) {cd : ClassFile.Cond} {x y : Int32} {o : Int} (hd : decode B pc = .ok (.if_icmp cd o, 3)) (hc : if_icmp.holds cd x y = true) (ho : 0 ≤ (pc : Int) + o) (hp : ((pc : Int) + o).toNat = pc') (k : Go p e below W (T.setTop (mkF m pc' Ls st))) : Go p e below W (T.setTop (mkF m pc Ls (.int y :: .int x :: st))) :=
  k.via fun t k => XS.icmpYes X.here K.1 rfl rfl (K.at hd) rfl hc ho hp k
theorem own_icmpNo (K : Ctx p s m c Z B own ml) (X : Stand p l e R s m args below meth c T locs cells slots) {cd : ClassFile.Cond} {x y : Int32} {o : Int} (hd : decode B pc = .ok (.if_icmp cd o, 3)) (hc : if_icmp.holds cd x y = false) (hp : pc + 3 = pc') (k : Go p e below W (T.setTop (mkF m pc' Ls st))) : Go p e below W (T.setTop (mkF m pc Ls (.int y :: .int x :: st))) := by
  subst hp; exact k.via fun t k => XS.icmpNo X.here K.1 rfl (K.at hd) rfl hc k
theorem own_acmp (K : Ctx p s m c Z B own ml) (X : Stand p l e R s m args below meth c T locs cells slots) {cd : ACond} {x y : Value} {o : Int} {same : Bool} (hd : decode B pc = .ok (.if_acmp cd o, 3)) (h1 : x.isRef = true) (h2 : y.isRef = true) (hq : decide (x = y) = same) (ho : 0 ≤ (pc : Int) + o) (hp : pc' = if acV cd same = true then ((pc : Int) + o).toNat else pc + 3) (k : Go p e below W (T.setTop (mkF m pc' Ls st))) : Go p e below W (T.setTop (mkF m pc Ls (y :: x :: st))) :=
  k.via fun t k => Jvm.RoadKit.acmp (g := mkF m pc Ls (y :: x :: st)) X K.1 rfl h1 h2 rfl (K.at hd) rfl hq ho hp k
theorem own_getS (K : Ctx p s m c Z B own ml) (X : Stand p l e R s m args below meth c T locs cells slots) {R0 O n d : String} {index : Nat} (eT : T.heap = h) (w : (Jvm.Cond.fieldLink own index R0 n d).before a0 Z = true) (via : Via Z R0 O n d) {v : Value} (F : Sta Z h O n d v) (hd : decode B pc = .ok (.getstatic index, 3)) (hp : pc + 3 = pc')
    (k : ∀ T', Stand p l e R s m args below meth c T' locs cells slots → T'.heap = h → Go p e below W (T'.setTop (mkF m pc' Ls (v :: st)))) : Go p e below W (T.setTop (mkF m pc Ls st)) := by
  subst hp
  obtain ⟨T', X', e', q⟩ := getS X K.1 K.2.2.1 K.2.2.2.1 (host := "") w via eT F (g := mkF m pc Ls st) rfl (K.at hd)
  exact (k T' X' e').via q
theorem own_getSN (K : Ctx p s m c Z B own ml) (X : Stand p l e R s m args below meth c T locs cells slots) {R0 O n d host : String} {index : Nat} (eT : T.heap = h) (w : (Jvm.Cond.fieldLinkNest own index R0 n d host).before a0 Z = true) (via : Via Z R0 O n d) {v : Value} (F : Sta Z h O n d v) (hd : decode B pc = .ok (.getstatic index, 3)) (hp : pc + 3 = pc')
    (k : ∀ T', Stand p l e R s m args below meth c T' locs cells slots → T'.heap = h → Go p e below W (T'.setTop (mkF m pc' Ls (v :: st)))) : Go p e below W (T.setTop (mkF m pc Ls st)) := by
  subst hp
  obtain ⟨T', X', e', q⟩ := getS2 X K.1 K.2.2.1 K.2.2.2.1 (Or.inr w) via eT F (g := mkF m pc Ls st) rfl (K.at hd)
  exact (k T' X' e').via q
theorem own_getF (K : Ctx p s m c Z B own ml) (X : Stand p l e R s m args below meth c T locs cells slots) {R0 O n d : String} {index : Nat} {a : Addr} (eT : T.heap = h) (w : (Jvm.Cond.fieldLink own index R0 n d).before a0 Z = true) (via : Via Z R0 O n d) {v : Value} (F : Fld Z h a O n d v) (hd : decode B pc = .ok (.getfield index, 3)) (hp : pc + 3 = pc')
    (k : ∀ T', Stand p l e R s m args below meth c T' locs cells slots → T'.heap = h → Go p e below W (T'.setTop (mkF m pc' Ls (v :: st)))) : Go p e below W (T.setTop (mkF m pc Ls (.ref a :: st))) := by
  subst hp
  obtain ⟨T', X', e', q⟩ := getF X K.1 K.2.2.1 K.2.2.2.1 (host := "") (Or.inl w) via eT F (g := mkF m pc Ls (.ref a :: st)) rfl rfl (K.at hd)
  exact (k T' X' e').via q
theorem own_putF (K : Ctx p s m c Z B own ml) (X : Stand p l e R s m args below meth c T locs cells slots) {R0 O n d C : String} {index kk : Nat} {ty : FieldType} {a : Addr} {v v' old : Value} (eT : T.heap = h) (w : (Jvm.Cond.fieldLink own index R0 n d).before a0 Z = true) (via : Via Z R0 O n d) (F : Fld Z h a O n d old) (E : Exa Z h a C)
    (L : (Jvm.Cond.lays C O n d).before a0 Z = true ∨ ((Jvm.Cond.laysFinal C O n d).before a0 Z = true ∧ own = O ∧ meth.name = "<init>")) (wi : (Jvm.Cond.instantiable C kk).before a0 Z = true) (hty : parseFieldDescriptor d = some ty) (hn : narrow ty v = v') (hf : fits ty v' = true) (hd : decode B pc = .ok (.putfield index, 3)) (hp : pc + 3 = pc')
    (k : ∀ T' h', Stand p l e R s m args below meth c T' (locs ++ [⟨a, Jvm.RoadKit.slotOf Z O n d⟩]) cells slots → T'.heap = h' → Wr h h' a (Jvm.RoadKit.slotOf Z O n d) v' → Go p e below W (T'.setTop (mkF m pc' Ls st))) : Go p e below W (T.setTop (mkF m pc Ls (v :: .ref a :: st))) := by
  subst hp
  obtain ⟨T', h', X', e', W', q⟩ := putFN X K.1 K.2.2.1 K.2.2.2.1 w via eT F E L wi hty hn hf (g := mkF m pc Ls (v :: .ref a :: st)) rfl rfl (K.at hd)
  exact (k T' h' X' e' W').via q
theorem own_new (K : Ctx p s m c Z B own ml) (X : Stand p l e R s m args below meth c T locs cells slots) {C : String} {index n : Nat} (eT : T.heap = h) (w : (Jvm.Cond.classLink own index C).before a0 Z = true) (wi : (Jvm.Cond.instantiable C n).before a0 Z = true) (wz : (Jvm.Cond.initialized C).before a0 Z = true) (hd : decode B pc = .ok (.new index, 3)) (hc : cells + 1 ≤ R.cells) (hl : slots + n ≤ R.slots) (hp : pc + 3 = pc')
    (k : ∀ T' h' a, Stand p l e R s m args below meth c T' locs (cells + 1) (slots + n) → T'.heap = h' → a = h.size → Ext h h' → Exa Z h' a C → (∀ {O nm d : String} {ty : FieldType}, Laid Z a0 C O nm d → parseFieldDescriptor d = some ty → Fld Z h' a O nm d (defaultValue ty)) → Go p e below W (T'.setTop (mkF m pc' Ls (.ref a :: st)))) : Go p e below W (T.setTop (mkF m pc Ls st)) := by
  subst hp
  obtain ⟨T', h', X', e', E', A', D', -, q⟩ := newO X K.1 K.2.2.1 K.2.2.2.1 w wi wz eT (g := mkF m pc Ls st) rfl (K.at hd) hc hl
  exact (k T' h' _ X' e' rfl E' A' D').via q
theorem own_initO (K : Ctx p s m c Z B own ml) (X : Stand p l e R s m args below meth c T locs cells slots) {idx : Nat} {a : Addr} (eT : T.heap = h) (w1 : (Jvm.Cond.methodLink own idx Lib.objectInit).before a0 Z = true) (w2 : (Jvm.Cond.instanceMethod Lib.objectInit).before a0 Z = true) (w3 : (Jvm.Cond.code Lib.objectInit ⟨#[0xb1]⟩ 1 none).before a0 Z = true)
    (hd : decode B pc = .ok (.invokespecial idx, 3)) (hsz : Ls.size = ml) (hf : 1 ≤ R.frames) (hl : (st.map fun v => v.category).sum + 12 ≤ R.locals) (hp : pc + 3 = pc') (k : ∀ T', Stand p l e R s m args below meth c T' locs cells slots → T'.heap = h → Go p e below W (T'.setTop (mkF m pc' Ls st))) : Go p e below W (T.setTop (mkF m pc Ls (.ref a :: st))) := by
  subst hp
  obtain ⟨T', X', e', q⟩ := initO X K.1 K.2.2.1 K.2.2.2.1 w1 w2 w3 eT (g := mkF m pc Ls (.ref a :: st)) rfl (hsz.trans K.2.2.2.2.symm) rfl (K.at hd) hf (W := (st.map fun v => v.category).sum) (by show 2 * 0 + _ ≤ _; omega) hl
  exact (k T' X' e').via q
theorem own_callS (K : Ctx p s m c Z B own ml) (X : Stand p l e R s m args below meth c T locs cells slots) {y : MethodName} {By : ByteArray} {mly index : Nat} {rty r : Option FieldType} {ps : List FieldType} {rmy : Room} {Q : Option Value → Heap → List Loc → Prop} {argsL rest : List Value} (eT : T.heap = h)
    (w1 : (Jvm.Cond.methodLink own index y).before a0 Z = true) (w2 : (Jvm.Cond.static y).before a0 Z = true) (w3 : (Jvm.Cond.initialized y.cls).before a0 Z = true) (w4 : (Jvm.Cond.code y By mly rty).before a0 Z = true) (hM : Con l y By mly rty [] rmy Z argsL.toArray h Q)
    (hd : decode B pc = .ok (.invokestatic index, 3)) (hpd : parseMethodDescriptor y.desc = some ⟨ps, r⟩) (hlen : argsL.length = ps.length) (hst : st = argsL.reverse ++ rest) (hsz : Ls.size = ml) (hy : y.cls ≠ "java/lang/invoke/MethodHandle" ∧ y.cls ≠ "java/lang/invoke/VarHandle")
    (hf : rmy.frames + 1 ≤ R.frames) (hl : (rest.map fun v => v.category).sum + (mly + 11) + rmy.locals ≤ R.locals) (hc : cells + rmy.cells ≤ R.cells) (hs : slots + rmy.slots ≤ R.slots) (hp : pc + 3 = pc')
    (k : ∀ v T' L, Stand p l e R s m args below meth c T' (locs ++ L) (cells + rmy.cells) (slots + rmy.slots) → Q v T'.heap L → Go p e below W (T'.setTop (mkF m pc' Ls (v.toList ++ rest)))) : Go p e below W (T.setTop (mkF m pc Ls st)) := by
  subst hp hst
  obtain ⟨v, _, ⟨T1, L1, k1, n1⟩, -, X1, ⟨Lc, hQ, l1, y1, z1⟩, q⟩ := Jvm.LawKit.callS X K.1 (y := y) K.2.2.2.1 (mvT K.2.2.1 w1) (mvT K.2.2.1 w2) (mvT K.2.2.1 w3) (mvT K.2.2.1 w4) hy (backOf (W := (rest.map fun v => v.category).sum) hM K.2.2.1 w4 w3 hf hl) (g := mkF m pc Ls (argsL.reverse ++ rest)) rfl (hsz.trans K.2.2.2.2.symm) (argsL := argsL) (rest := rest) (lenOf hpd hlen) rfl (by show 2 * 0 + _ ≤ _; omega) (K.at hd) (fun _ _ => ⟨rfl, eT, hc, hs⟩)
  dsimp only [Pt.U, Pt.locs, Pt.cells, Pt.slots] at X1 l1 y1 z1 q hQ
  subst l1 y1 z1
  exact (k v T1 Lc X1 hQ).via q
theorem own_callV (K : Ctx p s m c Z B own ml) (X : Stand p l e R s m args below meth c T locs cells slots) {y z : MethodName} {C : String} {By : ByteArray} {mly index : Nat} {rty r : Option FieldType} {ps : List FieldType} {rmy : Room} {Q : Option Value → Heap → List Loc → Prop} {argsL rest : List Value} {b : Addr} (eT : T.heap = h)
    (w1 : (Jvm.Cond.methodLink own index y).before a0 Z = true) (w2 : (Jvm.Cond.declares y).before a0 Z = true) (nf : NotFace s y) (w3 : (Jvm.Cond.selects C y z).before a0 Z = true) (w4 : (Jvm.Cond.instanceMethod z).before a0 Z = true) (w5 : (Jvm.Cond.code z By mly rty).before a0 Z = true) (w6 : (Jvm.Cond.initialized z.cls).before a0 Z = true) (E : Exa Z h b C) (hM : Con l z By mly rty [] rmy Z (.ref b :: argsL).toArray h Q)
    (hd : decode B pc = .ok (.invokevirtual index, 3)) (hpd : parseMethodDescriptor y.desc = some ⟨ps, r⟩) (hlen : argsL.length = ps.length) (hst : st = argsL.reverse ++ .ref b :: rest) (hsz : Ls.size = ml) (hy : y.cls ≠ "java/lang/invoke/MethodHandle" ∧ y.cls ≠ "java/lang/invoke/VarHandle")
    (hf : rmy.frames + 1 ≤ R.frames) (hl : (rest.map fun v => v.category).sum + (mly + 11) + rmy.locals ≤ R.locals) (hc : cells + rmy.cells ≤ R.cells) (hs : slots + rmy.slots ≤ R.slots) (hp : pc + 3 = pc')
    (k : ∀ v T' L, Stand p l e R s m args below meth c T' (locs ++ L) (cells + rmy.cells) (slots + rmy.slots) → Q v T'.heap L → Go p e below W (T'.setTop (mkF m pc' Ls (v.toList ++ rest)))) : Go p e below W (T.setTop (mkF m pc Ls st)) := by
  subst hp hst
  obtain ⟨cq, kq, qa, qb, qc⟩ := isOf K.2.2.1 eT E
  obtain ⟨v, _, ⟨T1, L1, k1, n1⟩, -, X1, ⟨Lc, hQ, l1, y1, z1⟩, q⟩ := X.virtualBack K.1 (y := y) (z := z) K.2.2.2.1 (mvT K.2.2.1 w1) (mvT K.2.2.1 w2) nf (mvT K.2.2.1 w3) (mvT K.2.2.1 w4) hy (backOf (W := (rest.map fun v => v.category).sum) hM K.2.2.1 w5 w6 hf hl) qa qc (g := mkF m pc Ls (argsL.reverse ++ .ref b :: rest)) rfl (hsz.trans K.2.2.2.2.symm) (Steps.refl _) (argsL := argsL) (rest := rest) (lenOf hpd hlen) rfl (by show 2 * 0 + _ ≤ _; omega) (K.at hd) (fun _ _ => ⟨rfl, eT, hc, hs⟩)
  dsimp only [Pt.U, Pt.locs, Pt.cells, Pt.slots] at X1 l1 y1 z1 q hQ
  subst l1 y1 z1
  exact (k v T1 Lc X1 hQ).via fun t k => q.trans k
theorem own_callI (K : Ctx p s m c Z B own ml) (X : Stand p l e R s m args below meth c T locs cells slots) {y : MethodName} {By : ByteArray} {mly index : Nat} {r : Option FieldType} {ps : List FieldType} {rmy : Room} {Q : Option Value → Heap → List Loc → Prop} {argsL rest : List Value} {b : Addr} (eT : T.heap = h) (hy1 : y.name = "<init>")
    (w1 : (Jvm.Cond.methodLink own index y).before a0 Z = true) (w4 : (Jvm.Cond.instanceMethod y).before a0 Z = true) (w5 : (Jvm.Cond.code y By mly none).before a0 Z = true) (w6 : (Jvm.Cond.initialized y.cls).before a0 Z = true) (hM : Con l y By mly none [] rmy Z (.ref b :: argsL).toArray h Q)
    (hd : decode B pc = .ok (.invokespecial index, 3)) (hpd : parseMethodDescriptor y.desc = some ⟨ps, r⟩) (hlen : argsL.length = ps.length) (hst : st = argsL.reverse ++ .ref b :: rest) (hsz : Ls.size = ml) (hy : y.cls ≠ "java/lang/invoke/MethodHandle" ∧ y.cls ≠ "java/lang/invoke/VarHandle")
    (hf : rmy.frames + 1 ≤ R.frames) (hl : (rest.map fun v => v.category).sum + (mly + 11) + rmy.locals ≤ R.locals) (hc : cells + rmy.cells ≤ R.cells) (hs : slots + rmy.slots ≤ R.slots) (hp : pc + 3 = pc')
    (k : ∀ v T' L, Stand p l e R s m args below meth c T' (locs ++ L) (cells + rmy.cells) (slots + rmy.slots) → Q v T'.heap L → Go p e below W (T'.setTop (mkF m pc' Ls (v.toList ++ rest)))) : Go p e below W (T.setTop (mkF m pc Ls st)) := by
  subst hp hst
  obtain ⟨v, _, ⟨T1, L1, k1, n1⟩, -, X1, ⟨Lc, hQ, l1, y1, z1⟩, q⟩ := X.specialBack K.1 (y := y) hy1 K.2.2.2.1 (mvT K.2.2.1 w1) (mvT K.2.2.1 w4) (mvT K.2.2.1 w5) hy (backOf (W := (rest.map fun v => v.category).sum) hM K.2.2.1 w5 w6 hf hl) (g := mkF m pc Ls (argsL.reverse ++ .ref b :: rest)) rfl (hsz.trans K.2.2.2.2.symm) (Steps.refl _) (a := b) (argsL := argsL) (rest := rest) (lenOf hpd hlen) rfl (by show 2 * 0 + _ ≤ _; omega) (K.at hd) (fun _ _ => ⟨rfl, eT, hc, hs⟩)
  dsimp only [Pt.U, Pt.locs, Pt.cells, Pt.slots] at X1 l1 y1 z1 q hQ
  subst l1 y1 z1
  exact (k v T1 Lc X1 hQ).via fun t k => q.trans k
theorem own_ret {Q : Option Value → Heap → List Loc → Prop} {g : JFrame} (X : Stand p l e R s m args below meth c T locs cells slots) (hlk : meth.locks = false) {v : Option Value} (hv : meth.sig.returnType = none → v = none)
    (hstep : ∀ fs, (∀ (f : JFrame) (acts : List Action), f.method = m → f.locked = none → f.entered = [] → (doReturn e (T.setTop f) acts v).1 = T.setFrames fs) → Steps p.tables e below (T.setTop g) (T.setFrames fs)) (hc : cells ≤ R.cells) (hs : slots ≤ R.slots) (hq : Q v T.heap locs) : Go p e below (End s R Q) (T.setTop g) := by
  obtain ⟨fs, hr, hrun, hended, hW, hsame⟩ := X.leave hv hlk
  exact ⟨_, _, hstep fs hr, hrun, hended, v, locs, rfl, hq, ⟨_, rfl⟩, hW, hsame.mono hc hs⟩
theorem own_retI {Q : Option Value → Heap → List Loc → Prop} (K : Ctx p s m c Z B own ml) (X : Stand p l e R s m args below meth c T locs cells slots) (hret : meth.sig.returnType = some .int) (hlk : meth.locks = false) {z : Int32} (hd : decode B pc = .ok (.ireturn, 1)) (hc : cells ≤ R.cells) (hs : slots ≤ R.slots) (hq : Q (some (.int z)) T.heap locs) : Go p e below (End s R Q) (T.setTop (mkF m pc Ls (.int z :: st))) :=
  own_ret X hlk (fun h => by rw [hret] at h; cases h) (fun fs hr => retOut X K.1 hret rfl (Or.inl ⟨rfl, Or.inl rfl, _, rfl⟩) (K.at hd) hr) hc hs hq
theorem own_retN {Q : Option Value → Heap → List Loc → Prop} (K : Ctx p s m c Z B own ml) (X : Stand p l e R s m args below meth c T locs cells slots) {t : FieldType} (hret : meth.sig.returnType = some t) (hlk : meth.locks = false) {z z' : Int32} (ht : t = .boolean ∨ t = .byte ∨ t = .char ∨ t = .short) (hz : nar t z = z') (hd : decode B pc = .ok (.ireturn, 1)) (hc : cells ≤ R.cells) (hs : slots ≤ R.slots) (hq : Q (some (.int z')) T.heap locs) : Go p e below (End s R Q) (T.setTop (mkF m pc Ls (.int z :: st))) := by
  subst hz
  exact own_ret X hlk (fun h => by rw [hret] at h; cases h) (fun fs hr => retN X K.1 hret ht (K.at hd) hr) hc hs hq
theorem own_retJ {Q : Option Value → Heap → List Loc → Prop} (K : Ctx p s m c Z B own ml) (X : Stand p l e R s m args below meth c T locs cells slots) (hret : meth.sig.returnType = some .long) (hlk : meth.locks = false) {z : Int64} (hd : decode B pc = .ok (.lreturn, 1)) (hc : cells ≤ R.cells) (hs : slots ≤ R.slots) (hq : Q (some (.long z)) T.heap locs) : Go p e below (End s R Q) (T.setTop (mkF m pc Ls (.long z :: st))) :=
  own_ret X hlk (fun h => by rw [hret] at h; cases h) (fun fs hr => retOut X K.1 hret rfl (Or.inr (Or.inl ⟨rfl, rfl, _, rfl⟩)) (K.at hd) hr) hc hs hq
theorem own_retA {Q : Option Value → Heap → List Loc → Prop} (K : Ctx p s m c Z B own ml) (X : Stand p l e R s m args below meth c T locs cells slots) {t : FieldType} (hret : meth.sig.returnType = some t) (ht : t.isReference = true) (hlk : meth.locks = false) {w : Value} (hw : w.isRef = true) (hd : decode B pc = .ok (.areturn, 1)) (hc : cells ≤ R.cells) (hs : slots ≤ R.slots) (hq : Q (some w) T.heap locs) : Go p e below (End s R Q) (T.setTop (mkF m pc Ls (w :: st))) := by
  have hn : narrow t w = w := by cases t <;> first | (cases ht; done) | (cases w <;> first | rfl | (cases hw; done))
  exact own_ret X hlk (fun h => by rw [hret] at h; cases h) (fun fs hr => retOut X K.1 hret hn (Or.inr (Or.inr (Or.inr (Or.inr ⟨rfl, ht, hw⟩)))) (K.at hd) hr) hc hs hq
theorem own_retV {Q : Option Value → Heap → List Loc → Prop} (K : Ctx p s m c Z B own ml) (X : Stand p l e R s m args below meth c T locs cells slots) (hret : meth.sig.returnType = none) (hlk : meth.locks = false) (hd : decode B pc = .ok (.return_, 1)) (hc : cells ≤ R.cells) (hs : slots ≤ R.slots) (hq : Q none T.heap locs) : Go p e below (End s R Q) (T.setTop (mkF m pc Ls [])) :=
  own_ret X hlk (fun _ => rfl) (fun fs hr => X.returnOut K.1 hret (K.at hd) hr) hc hs hq
end Own

theorem own_kv (p q : Int32) : (p.toInt64 * (4294967296 : Int64) + (q.toInt64 - (-2147483648 : Int64))).toInt = p.toInt * 4294967296 + (q.toInt + 2147483648) := by
  have r1 := rng32 p
  have r2 := rng32 q
  have k1 : (4294967296 : Int64).toInt = 4294967296 := by decide
  have k2 : (-2147483648 : Int64).toInt = -2147483648 := by decide
  have a1 : (p.toInt64 * (4294967296 : Int64)).toInt = p.toInt * 4294967296 := by
    rw [XT.mul64 (by rw [k1, c_i2l]; exact ⟨by omega, by omega⟩), k1, c_i2l]
  have a2 : (q.toInt64 - (-2147483648 : Int64)).toInt = q.toInt + 2147483648 := by
    rw [XT.sub64 (by rw [k2, c_i2l]; exact ⟨by omega, by omega⟩), k2, c_i2l]; omega
  rw [XT.add64 (by rw [a1, a2]; exact ⟨by omega, by omega⟩), a1, a2]
theorem own_key (p1 q1 p2 q2 : Int32) : (p1.toInt64 * (4294967296 : Int64) + (q1.toInt64 - (-2147483648 : Int64))) < (p2.toInt64 * (4294967296 : Int64) + (q2.toInt64 - (-2147483648 : Int64))) ↔ (p1 < p2 ∨ (p1 = p2 ∧ q1 < q2)) := by
  have r1 := rng32 p1
  have r2 := rng32 q1
  have r3 := rng32 p2
  have r4 := rng32 q2
  rw [Int64.lt_iff_toInt_lt, own_kv, own_kv, Int32.lt_iff_toInt_lt, Int32.lt_iff_toInt_lt, ← Int32.toInt_inj]
  omega
theorem own_hr0 {p1 q1 p2 q2 : Int32} (h : (p1.toInt64 * (4294967296 : Int64) + (q1.toInt64 - (-2147483648 : Int64))) < (p2.toInt64 * (4294967296 : Int64) + (q2.toInt64 - (-2147483648 : Int64)))) : (0 : Int32) = if p1 = p2 then (if q1 < q2 then 0 else 1) else if p2 < p1 then 1 else 0 := by
  rcases (own_key p1 q1 p2 q2).mp h with h | ⟨h, h'⟩
  · rw [if_neg (fun e => by subst e; exact Int32.lt_irrefl h), if_neg (fun e => Int32.lt_asymm h e)]
  · rw [if_pos h, if_pos h']
theorem own_hr1 {p1 q1 p2 q2 : Int32} (h : ¬ (p1.toInt64 * (4294967296 : Int64) + (q1.toInt64 - (-2147483648 : Int64))) < (p2.toInt64 * (4294967296 : Int64) + (q2.toInt64 - (-2147483648 : Int64)))) : (1 : Int32) = if p1 = p2 then (if q1 < q2 then 0 else 1) else if p2 < p1 then 1 else 0 := by
  have h' := fun k => h ((own_key p1 q1 p2 q2).mpr k)
  by_cases c1 : p1 = p2
  · rw [if_pos c1, if_neg (fun k => h' (Or.inr ⟨c1, k⟩))]
  · rw [if_neg c1, if_pos]
    have h1 : ¬ p1 < p2 := fun k => h' (Or.inl k)
    rw [Int32.lt_iff_toInt_lt] at h1 ⊢
    rw [← Int32.toInt_inj] at c1
    omega
theorem d1_0 : decode prog_412_method_1_code 0 = .ok (.aload_n 0, 1) := by decide +kernel
theorem d1_1 : decode prog_412_method_1_code 1 = .ok (.invokespecial 1, 3) := by decide +kernel
theorem d1_4 : decode prog_412_method_1_code 4 = .ok (.aload_n 0, 1) := by decide +kernel
theorem d1_5 : decode prog_412_method_1_code 5 = .ok (.iload_n 1, 1) := by decide +kernel
theorem d1_6 : decode prog_412_method_1_code 6 = .ok (.putfield 7, 3) := by decide +kernel
theorem d1_9 : decode prog_412_method_1_code 9 = .ok (.aload_n 0, 1) := by decide +kernel
theorem d1_10 : decode prog_412_method_1_code 10 = .ok (.iload_n 2, 1) := by decide +kernel
theorem d1_11 : decode prog_412_method_1_code 11 = .ok (.putfield 13, 3) := by decide +kernel
theorem d1_14 : decode prog_412_method_1_code 14 = .ok (.return_, 1) := by decide +kernel
theorem d2_0 : decode jdk_30_method_1_code 0 = .ok (.aload_n 0, 1) := by decide +kernel
theorem d2_1 : decode jdk_30_method_1_code 1 = .ok (.invokespecial 1, 3) := by decide +kernel
theorem d2_4 : decode jdk_30_method_1_code 4 = .ok (.return_, 1) := by decide +kernel
theorem d4_0 : decode method_2_code 0 = .ok (.iload_n 0, 1) := by decide +kernel
theorem d4_1 : decode method_2_code 1 = .ok (.i2l, 1) := by decide +kernel
theorem d4_2 : decode method_2_code 2 = .ok (.ldc2_w 7, 3) := by decide +kernel
theorem d4_5 : decode method_2_code 5 = .ok (.lmul, 1) := by decide +kernel
theorem d4_6 : decode method_2_code 6 = .ok (.iload_n 1, 1) := by decide +kernel
theorem d4_7 : decode method_2_code 7 = .ok (.i2l, 1) := by decide +kernel
theorem d4_8 : decode method_2_code 8 = .ok (.ldc2_w 11, 3) := by decide +kernel
theorem d4_11 : decode method_2_code 11 = .ok (.lsub, 1) := by decide +kernel
theorem d4_12 : decode method_2_code 12 = .ok (.ladd, 1) := by decide +kernel
theorem d4_13 : decode method_2_code 13 = .ok (.lreturn, 1) := by decide +kernel
theorem d5_0 : decode prog_412_method_4_code 0 = .ok (.aload_n 0, 1) := by decide +kernel
theorem d5_1 : decode prog_412_method_4_code 1 = .ok (.getfield 7, 3) := by decide +kernel
theorem d5_4 : decode prog_412_method_4_code 4 = .ok (.aload_n 1, 1) := by decide +kernel
theorem d5_5 : decode prog_412_method_4_code 5 = .ok (.getfield 7, 3) := by decide +kernel
theorem d5_8 : decode prog_412_method_4_code 8 = .ok (.if_icmp .eq 22, 3) := by decide +kernel
theorem d5_11 : decode prog_412_method_4_code 11 = .ok (.aload_n 0, 1) := by decide +kernel
theorem d5_12 : decode prog_412_method_4_code 12 = .ok (.getfield 7, 3) := by decide +kernel
theorem d5_15 : decode prog_412_method_4_code 15 = .ok (.aload_n 1, 1) := by decide +kernel
theorem d5_16 : decode prog_412_method_4_code 16 = .ok (.getfield 7, 3) := by decide +kernel
theorem d5_19 : decode prog_412_method_4_code 19 = .ok (.if_icmp .le 7, 3) := by decide +kernel
theorem d5_22 : decode prog_412_method_4_code 22 = .ok (.iconst 1, 1) := by decide +kernel
theorem d5_23 : decode prog_412_method_4_code 23 = .ok (.goto 23, 3) := by decide +kernel
theorem d5_26 : decode prog_412_method_4_code 26 = .ok (.iconst 0, 1) := by decide +kernel
theorem d5_27 : decode prog_412_method_4_code 27 = .ok (.goto 19, 3) := by decide +kernel
theorem d5_30 : decode prog_412_method_4_code 30 = .ok (.aload_n 0, 1) := by decide +kernel
theorem d5_31 : decode prog_412_method_4_code 31 = .ok (.getfield 13, 3) := by decide +kernel
theorem d5_34 : decode prog_412_method_4_code 34 = .ok (.aload_n 1, 1) := by decide +kernel
theorem d5_35 : decode prog_412_method_4_code 35 = .ok (.getfield 13, 3) := by decide +kernel
theorem d5_38 : decode prog_412_method_4_code 38 = .ok (.if_icmp .lt 7, 3) := by decide +kernel
theorem d5_41 : decode prog_412_method_4_code 41 = .ok (.iconst 1, 1) := by decide +kernel
theorem d5_42 : decode prog_412_method_4_code 42 = .ok (.goto 4, 3) := by decide +kernel
theorem d5_45 : decode prog_412_method_4_code 45 = .ok (.iconst 0, 1) := by decide +kernel
theorem d5_46 : decode prog_412_method_4_code 46 = .ok (.ireturn, 1) := by decide +kernel
theorem pd_0 : parseMethodDescriptor "()V" = some ⟨[], none⟩ := by decide +kernel
theorem pd_1 : parseMethodDescriptor "(II)V" = some ⟨[.int, .int], none⟩ := by decide +kernel
theorem pd_2 : parseMethodDescriptor "(II)J" = some ⟨[.int, .int], some .long⟩ := by decide +kernel
theorem pd_3 : parseMethodDescriptor "(Lcom/example/stallgraph/stallgraph/tracer/Version;)Z" = some ⟨[(.object "com/example/stallgraph/stallgraph/tracer/Version")], some .boolean⟩ := by decide +kernel
set_option maxRecDepth 65536 in
set_option maxHeartbeats 40000000 in
theorem rmR (l : Launch) (Z : State) (a0 : Array Value) (hw : ∀ d ∈ tables_1, d.before a0 Z = true) (ws : List Jvm.Cond) (a1 : Addr) (h0 : Heap) (n0 : Nat) :
    Con l (⟨"java/lang/Record", "<init>", "()V"⟩ : MethodName) jdk_30_method_1_code 1 none ws ({ frames := 1, cells := 0, slots := 0, locals := 12 } : Room) Z #[(.ref a1)] h0 (fun v h L => v = none ∧ Fr n0 L ∧ h = h0) := by
  refine own_enter (Ls := #[.val (.ref a1)]) (by first | (simp [plainFor, plainName, overriddenIn]; done) | decide +kernel) (fun m => by first | (simp [entryFrame, mkF, argsToLocals, Value.category, maxLocals]; done) | rfl) fun p e s m below meth c T0 K X0 e0 hrt hlk hnm => ?_
  have N0 := Fr.nil n0
  have KB0 := Keep.refl h0 []
  refine own_aloadN (pc' := 1) K X0 d2_0 rfl rfl rfl ?_
  refine own_initO (pc' := 4) K X0 e0 (own_w hw 11 rfl) (own_w hw 12 rfl) (own_w hw 13 rfl) d2_1 rfl (own_le rfl) (own_le rfl) rfl fun T1 X1 e1 => ?_
  exact own_retV K X1 hrt hlk d2_4 (own_le rfl) (own_le rfl) (by (try rw [e1]); exact ⟨rfl, N0, rfl⟩)
set_option maxRecDepth 65536 in
set_option maxHeartbeats 40000000 in
theorem rmC (l : Launch) (Z : State) (a0 : Array Value) (hw : ∀ d ∈ tables_1, d.before a0 Z = true) (ws : List Jvm.Cond) (a1 : Addr) (p1 p2 : Int32) (h0 : Heap) (n0 : Nat) (Z0 : n0 ≤ h0.size) (g1 : n0 ≤ a1) (E1 : Exa Z h0 a1 "com/example/stallgraph/stallgraph/tracer/Version") (F1 : Fld Z h0 a1 "com/example/stallgraph/stallgraph/tracer/Version" "major" "I" (.int (0 : Int32))) (F2 : Fld Z h0 a1 "com/example/stallgraph/stallgraph/tracer/Version" "minor" "I" (.int (0 : Int32))) :
    Con l (⟨"com/example/stallgraph/stallgraph/tracer/Version", "<init>", "(II)V"⟩ : MethodName) prog_412_method_1_code 3 none ws ({ frames := 2, cells := 0, slots := 0, locals := 24 } : Room) Z #[(.ref a1), (.int p1), (.int p2)] h0 (fun v h L => v = none ∧ Fr n0 L ∧ Keep h0 h [a1] ∧ Exa Z h a1 "com/example/stallgraph/stallgraph/tracer/Version" ∧ Fld Z h a1 "com/example/stallgraph/stallgraph/tracer/Version" "major" "I" (.int p1) ∧ Fld Z h a1 "com/example/stallgraph/stallgraph/tracer/Version" "minor" "I" (.int p2)) := by
  refine own_enter (Ls := #[.val (.ref a1), .val (.int p1), .val (.int p2)]) (by first | (simp [plainFor, plainName, overriddenIn]; done) | decide +kernel) (fun m => by first | (simp [entryFrame, mkF, argsToLocals, Value.category, maxLocals]; done) | rfl) fun p e s m below meth c T0 K X0 e0 hrt hlk hnm => ?_
  have N0 := Fr.nil n0
  have KB0 := Keep.refl h0 [a1]
  refine own_aloadN (pc' := 1) K X0 d1_0 rfl rfl rfl ?_
  refine own_callI (pc' := 4) (argsL := []) (rest := []) K X0 e0 rfl (own_w hw 6 rfl) (own_w hw 7 rfl) (own_w hw 10 rfl) (own_w hw 9 rfl) (rmR l Z a0 hw [] a1 h0 n0) d1_1 pd_0 rfl rfl rfl (by decide) (own_le rfl) (own_le rfl) (own_le rfl) (own_le rfl) rfl fun v1 T1 L1 X1 hQ1 => ?_
  obtain ⟨rfl, N1q, e1⟩ := hQ1
  have N1 := Fr.app N0 N1q
  show Go p e below _ (T1.setTop (mkF m 4 #[.val (.ref a1), .val (.int p1), .val (.int p2)] []))
  refine own_aloadN (pc' := 5) K X1 d1_4 rfl rfl rfl ?_
  refine own_iloadN (pc' := 6) K X1 d1_5 rfl rfl ?_
  refine own_putF (pc' := 9) (v' := (.int p1)) K X1 e1 (own_w hw 14 rfl) Via.refl F1 E1 (Or.inr ⟨(own_w hw 15 rfl), rfl, hnm⟩) (own_w hw 1 rfl) (ty := .int) (by decide) rfl rfl d1_6 rfl fun T2 h2 X2 e2 W2 => ?_
  have N2 := Fr.snoc X2 N1 g1
  have Fw2 := F1.same W2
  have F_a1_minor_3 := F2.other W2 (Or.inr (slot_ne (Or.inr (own_w hw 17 rfl)) (Or.inr (own_w hw 15 rfl)) (by decide) (by decide : _ = some .int) (by decide : _ = some .int)))
  have E_a1_3 := E1.wr W2
  have KB4 := KB0.wr W2 (Or.inl (by simp))
  refine own_aloadN (pc' := 10) K X2 d1_9 rfl rfl rfl ?_
  refine own_iloadN (pc' := 11) K X2 d1_10 rfl rfl ?_
  refine own_putF (pc' := 14) (v' := (.int p2)) K X2 e2 (own_w hw 16 rfl) Via.refl F_a1_minor_3 E_a1_3 (Or.inr ⟨(own_w hw 17 rfl), rfl, hnm⟩) (own_w hw 1 rfl) (ty := .int) (by decide) rfl rfl d1_11 rfl fun T5 h5 X5 e5 W5 => ?_
  have N5 := Fr.snoc X5 N2 g1
  have Fw5 := F_a1_minor_3.same W5
  have F_a1_major_6 := Fw2.other W5 (Or.inr (slot_ne (Or.inr (own_w hw 15 rfl)) (Or.inr (own_w hw 17 rfl)) (by decide) (by decide : _ = some .int) (by decide : _ = some .int)))
  have E_a1_6 := E_a1_3.wr W5
  have KB7 := KB4.wr W5 (Or.inl (by simp))
  exact own_retV K X5 hrt hlk d1_14 (own_le rfl) (own_le rfl) (by (try rw [e5]); exact ⟨rfl, N5, KB7, E_a1_6, F_a1_major_6, Fw5⟩)
set_option maxRecDepth 65536 in
set_option maxHeartbeats 40000000 in
theorem rmK (l : Launch) (Z : State) (a0 : Array Value) (hw : ∀ d ∈ tables_1, d.before a0 Z = true) (ws : List Jvm.Cond) (p1 p2 : Int32) (h0 : Heap) (n0 : Nat) :
    Con l (⟨"com/example/stallgraph/stallgraph/tracer/VersionReachesPinLaw", "key", "(II)J"⟩ : MethodName) method_2_code 2 (some .long) ws ({ frames := 0, cells := 0, slots := 0, locals := 0 } : Room) Z #[(.int p1), (.int p2)] h0 (fun v h L => v = some (.long (p1.toInt64 * (4294967296 : Int64) + (p2.toInt64 - (-2147483648 : Int64)))) ∧ Fr n0 L ∧ h = h0) := by
  refine own_enter (Ls := #[.val (.int p1), .val (.int p2)]) (by first | (simp [plainFor, plainName, overriddenIn]; done) | decide +kernel) (fun m => by first | (simp [entryFrame, mkF, argsToLocals, Value.category, maxLocals]; done) | rfl) fun p e s m below meth c T0 K X0 e0 hrt hlk hnm => ?_
  have N0 := Fr.nil n0
  have KB0 := Keep.refl h0 []
  refine own_iloadN (pc' := 1) K X0 d4_0 rfl rfl ?_
  refine own_i2l (pc' := 2) K X0 d4_1 rfl ?_
  refine own_ldc2J (pc' := 5) K X0 d4_2 (own_w hw 22 rfl) rfl ?_
  refine own_lmul (pc' := 6) K X0 d4_5 rfl ?_
  refine own_iloadN (pc' := 7) K X0 d4_6 rfl rfl ?_
  refine own_i2l (pc' := 8) K X0 d4_7 rfl ?_
  refine own_ldc2J (pc' := 11) K X0 d4_8 (own_w hw 23 rfl) rfl ?_
  refine own_lsub (pc' := 12) K X0 d4_11 rfl ?_
  refine own_ladd (pc' := 13) K X0 d4_12 rfl ?_
  exact own_retJ K X0 hrt hlk d4_13 (own_le rfl) (own_le rfl) (by (try rw [e0]); exact ⟨rfl, N0, rfl⟩)
set_option maxRecDepth 65536 in
set_option maxHeartbeats 40000000 in
theorem rmV (l : Launch) (Z : State) (a0 : Array Value) (hw : ∀ d ∈ tables_1, d.before a0 Z = true) (ws : List Jvm.Cond) (a1 a2 : Addr) (p1 q1 p2 q2 r : Int32) (h0 : Heap) (n0 : Nat) (F1 : Fld Z h0 a1 "com/example/stallgraph/stallgraph/tracer/Version" "major" "I" (.int p1)) (F2 : Fld Z h0 a1 "com/example/stallgraph/stallgraph/tracer/Version" "minor" "I" (.int q1)) (F3 : Fld Z h0 a2 "com/example/stallgraph/stallgraph/tracer/Version" "major" "I" (.int p2)) (F4 : Fld Z h0 a2 "com/example/stallgraph/stallgraph/tracer/Version" "minor" "I" (.int q2)) (hr : r = if p1 = p2 then (if q1 < q2 then 0 else 1) else if p2 < p1 then 1 else 0) :
    Con l (⟨"com/example/stallgraph/stallgraph/tracer/Version", "reaches", "(Lcom/example/stallgraph/stallgraph/tracer/Version;)Z"⟩ : MethodName) prog_412_method_4_code 2 (some .boolean) ws ({ frames := 0, cells := 0, slots := 0, locals := 0 } : Room) Z #[(.ref a1), (.ref a2)] h0 (fun v h L => v = some (.int r) ∧ Fr n0 L ∧ h = h0) := by
  refine own_enter (Ls := #[.val (.ref a1), .val (.ref a2)]) (by first | (simp [plainFor, plainName, overriddenIn]; done) | decide +kernel) (fun m => by first | (simp [entryFrame, mkF, argsToLocals, Value.category, maxLocals]; done) | rfl) fun p e s m below meth c T0 K X0 e0 hrt hlk hnm => ?_
  have N0 := Fr.nil n0
  have KB0 := Keep.refl h0 []
  refine own_aloadN (pc' := 1) K X0 d5_0 rfl rfl rfl ?_
  refine own_getF (pc' := 4) K X0 e0 (own_w hw 14 rfl) Via.refl F1 d5_1 rfl fun T1 X1 e1 => ?_
  refine own_aloadN (pc' := 5) K X1 d5_4 rfl rfl rfl ?_
  refine own_getF (pc' := 8) K X1 e1 (own_w hw 14 rfl) Via.refl F3 d5_5 rfl fun T2 X2 e2 => ?_
  by_cases c1 : p1 = p2
  · refine own_icmpYes (pc' := 30) K X2 d5_8 (teq c1).1 (by decide) (by decide) ?_
    refine own_aloadN (pc' := 31) K X2 d5_30 rfl rfl rfl ?_
    refine own_getF (pc' := 34) K X2 e2 (own_w hw 16 rfl) Via.refl F2 d5_31 rfl fun T3 X3 e3 => ?_
    refine own_aloadN (pc' := 35) K X3 d5_34 rfl rfl rfl ?_
    refine own_getF (pc' := 38) K X3 e3 (own_w hw 16 rfl) Via.refl F4 d5_35 rfl fun T4 X4 e4 => ?_
    by_cases c2 : q1 < q2
    · refine own_icmpYes (pc' := 45) K X4 d5_38 (tlt c2).1 (by decide) (by decide) ?_
      refine own_iconst (v := (0 : Int32)) (pc' := 46) K X4 d5_45 rfl rfl ?_
      exact own_retN (t := .boolean) (z' := (0 : Int32)) K X4 hrt hlk (by simp) rfl d5_46 (own_le rfl) (own_le rfl) (by (try rw [e4]); exact ⟨by rw [hr, if_pos c1, if_pos c2], N0, rfl⟩)
    · refine own_icmpNo (pc' := 41) K X4 d5_38 (flt c2).1 rfl ?_
      refine own_iconst (v := (1 : Int32)) (pc' := 42) K X4 d5_41 rfl rfl ?_
      refine own_goto (pc' := 46) K X4 d5_42 (by decide) (by decide) ?_
      exact own_retN (t := .boolean) (z' := (1 : Int32)) K X4 hrt hlk (by simp) rfl d5_46 (own_le rfl) (own_le rfl) (by (try rw [e4]); exact ⟨by rw [hr, if_pos c1, if_neg c2], N0, rfl⟩)
  · refine own_icmpNo (pc' := 11) K X2 d5_8 (feq c1).1 rfl ?_
    refine own_aloadN (pc' := 12) K X2 d5_11 rfl rfl rfl ?_
    refine own_getF (pc' := 15) K X2 e2 (own_w hw 14 rfl) Via.refl F1 d5_12 rfl fun T5 X5 e5 => ?_
    refine own_aloadN (pc' := 16) K X5 d5_15 rfl rfl rfl ?_
    refine own_getF (pc' := 19) K X5 e5 (own_w hw 14 rfl) Via.refl F3 d5_16 rfl fun T6 X6 e6 => ?_
    by_cases c3 : p2 < p1
    · refine own_icmpNo (pc' := 22) K X6 d5_19 (tlt c3).2.2.2 rfl ?_
      refine own_iconst (v := (1 : Int32)) (pc' := 23) K X6 d5_22 rfl rfl ?_
      refine own_goto (pc' := 46) K X6 d5_23 (by decide) (by decide) ?_
      exact own_retN (t := .boolean) (z' := (1 : Int32)) K X6 hrt hlk (by simp) rfl d5_46 (own_le rfl) (own_le rfl) (by (try rw [e6]); exact ⟨by rw [hr, if_neg c1, if_pos c3], N0, rfl⟩)
    · refine own_icmpYes (pc' := 26) K X6 d5_19 (flt c3).2.2.2 (by decide) (by decide) ?_
      refine own_iconst (v := (0 : Int32)) (pc' := 27) K X6 d5_26 rfl rfl ?_
      refine own_goto (pc' := 46) K X6 d5_27 (by decide) (by decide) ?_
      exact own_retN (t := .boolean) (z' := (0 : Int32)) K X6 hrt hlk (by simp) rfl d5_46 (own_le rfl) (own_le rfl) (by (try rw [e6]); exact ⟨by rw [hr, if_neg c1, if_neg c3], N0, rfl⟩)
set_option maxRecDepth 65536 in
set_option maxHeartbeats 40000000 in
theorem rm0 (l : Launch) (Z : State) (a0 : Array Value) (hw : ∀ d ∈ tables_1, d.before a0 Z = true) (ws : List Jvm.Cond) (a b c' d fl : Int32) (h0 : Heap) (n0 : Nat) (Z0 : n0 ≤ h0.size) :
    Con l x code maxLocals ret ws room_1 Z #[(.int a), (.int b), (.int c'), (.int d), (.int fl)] h0 (fun v h L => v = some (.int 1) ∧ Fr n0 L) := by
  refine own_enter (Ls := #[.val (.int a), .val (.int b), .val (.int c'), .val (.int d), .val (.int fl), .unset, .unset, .unset, .unset, .unset]) (by first | (simp [plainFor, plainName, overriddenIn]; done) | decide +kernel) (fun m => by first | (simp [entryFrame, mkF, argsToLocals, Value.category, maxLocals]; done) | rfl) fun p e s m below meth c T0 K X0 e0 hrt hlk hnm => ?_
  have N0 := Fr.nil n0
  have KB0 := Keep.refl h0 []
  have seg : ∀ lM lN : Int32, Go p e below (End s room_1 (fun v h L => v = some (.int 1) ∧ Fr n0 L)) (T0.setTop (mkF m 28 #[.val (.int a), .val (.int b), .val (.int c'), .val (.int d), .val (.int fl), .val (.int lM), .val (.int lN), .unset, .unset, .unset] [])) := by
    intro lM lN
    refine own_new (pc' := 31) K X0 e0 (own_w hw 0 rfl) (own_w hw 1 rfl) (own_w hw 2 rfl) at_28 (own_le rfl) (own_le rfl) rfl fun T101 h101 b101 X101 e101 g101 E101 A101 D101 => ?_
    have sz101 : h0.size ≤ b101 := Nat.le_trans KB0.1 (Nat.le_of_eq g101.symm)
    have ge101 : n0 ≤ b101 := Nat.le_trans Z0 sz101
    have KB103 := KB0.ext E101
    have F_b101_major : Fld Z h101 b101 "com/example/stallgraph/stallgraph/tracer/Version" "major" "I" (.int (0 : Int32)) := D101 (Or.inr (own_w hw 15 rfl)) (ty := .int) (by decide)
    have F_b101_minor : Fld Z h101 b101 "com/example/stallgraph/stallgraph/tracer/Version" "minor" "I" (.int (0 : Int32)) := D101 (Or.inr (own_w hw 17 rfl)) (ty := .int) (by decide)
    refine own_dup (pc' := 32) K X101 at_31 rfl rfl ?_
    refine own_iloadN (pc' := 33) K X101 at_32 rfl rfl ?_
    refine own_iloadN (pc' := 34) K X101 at_33 rfl rfl ?_
    refine own_callI (pc' := 37) (argsL := [(.int a), (.int b)]) (rest := [(.ref b101)]) K X101 e101 rfl (own_w hw 3 rfl) (own_w hw 4 rfl) (own_w hw 5 rfl) (own_w hw 2 rfl) (rmC l Z a0 hw [] b101 a b h101 n0 (Nat.le_trans Z0 KB103.1) ge101 A101 F_b101_major F_b101_minor) at_34 pd_1 rfl rfl rfl (by decide) (own_le rfl) (own_le rfl) (own_le rfl) (own_le rfl) rfl fun v104 T104 L104 X104 hQ104 => ?_
    obtain ⟨h104, e104⟩ : ∃ h, T104.heap = h := ⟨_, rfl⟩
    rw [e104] at hQ104
    obtain ⟨rfl, N104q, K104, E104, FM104, FN104⟩ := hQ104
    have N104 := Fr.app N0 N104q
    show Go p e below _ (T104.setTop (mkF m 37 #[.val (.int a), .val (.int b), .val (.int c'), .val (.int d), .val (.int fl), .val (.int lM), .val (.int lN), .unset, .unset, .unset] [(.ref b101)]))
    have E_b101_105 := A101.keep K104
    have KB106 := KB103.trans K104 (allS (Or.inr sz101) all0)
    refine own_astore (l' := #[.val (.int a), .val (.int b), .val (.int c'), .val (.int d), .val (.int fl), .val (.int lM), .val (.int lN), .val (.ref b101), .unset, .unset]) (pc' := 39) K X104 at_37 rfl rfl rfl ?_
    refine own_new (pc' := 42) K X104 e104 (own_w hw 0 rfl) (own_w hw 1 rfl) (own_w hw 2 rfl) at_39 (own_le rfl) (own_le rfl) rfl fun T107 h107 b107 X107 e107 g107 E107 A107 D107 => ?_
    have sz107 : h0.size ≤ b107 := Nat.le_trans KB106.1 (Nat.le_of_eq g107.symm)
    have ge107 : n0 ≤ b107 := Nat.le_trans Z0 sz107
    have lt_b101_b107 : @LT.lt Nat _ b101 b107 := g107 ▸ E_b101_105.lt
    have F_b101_major_108 := FM104.ext E107
    have F_b101_minor_108 := FN104.ext E107
    have E_b101_108 := E_b101_105.ext E107
    have KB109 := KB106.ext E107
    have F_b107_major : Fld Z h107 b107 "com/example/stallgraph/stallgraph/tracer/Version" "major" "I" (.int (0 : Int32)) := D107 (Or.inr (own_w hw 15 rfl)) (ty := .int) (by decide)
    have F_b107_minor : Fld Z h107 b107 "com/example/stallgraph/stallgraph/tracer/Version" "minor" "I" (.int (0 : Int32)) := D107 (Or.inr (own_w hw 17 rfl)) (ty := .int) (by decide)
    refine own_dup (pc' := 43) K X107 at_42 rfl rfl ?_
    refine own_iload (pc' := 45) K X107 at_43 rfl rfl ?_
    refine own_iload (pc' := 47) K X107 at_45 rfl rfl ?_
    refine own_callI (pc' := 50) (argsL := [(.int lM), (.int lN)]) (rest := [(.ref b107)]) K X107 e107 rfl (own_w hw 3 rfl) (own_w hw 4 rfl) (own_w hw 5 rfl) (own_w hw 2 rfl) (rmC l Z a0 hw [] b107 lM lN h107 n0 (Nat.le_trans Z0 KB109.1) ge107 A107 F_b107_major F_b107_minor) at_47 pd_1 rfl rfl rfl (by decide) (own_le rfl) (own_le rfl) (own_le rfl) (own_le rfl) rfl fun v110 T110 L110 X110 hQ110 => ?_
    obtain ⟨h110, e110⟩ : ∃ h, T110.heap = h := ⟨_, rfl⟩
    rw [e110] at hQ110
    obtain ⟨rfl, N110q, K110, E110, FM110, FN110⟩ := hQ110
    have N110 := Fr.app N104 N110q
    show Go p e below _ (T110.setTop (mkF m 50 #[.val (.int a), .val (.int b), .val (.int c'), .val (.int d), .val (.int fl), .val (.int lM), .val (.int lN), .val (.ref b101), .unset, .unset] [(.ref b107)]))
    have F_b101_major_111 := F_b101_major_108.keep K110 (ninS (Nat.ne_of_lt lt_b101_b107) nin0)
    have F_b101_minor_111 := F_b101_minor_108.keep K110 (ninS (Nat.ne_of_lt lt_b101_b107) nin0)
    have E_b101_111 := E_b101_108.keep K110
    have E_b107_111 := A107.keep K110
    have KB112 := KB109.trans K110 (allS (Or.inr sz107) all0)
    refine own_astore (l' := #[.val (.int a), .val (.int b), .val (.int c'), .val (.int d), .val (.int fl), .val (.int lM), .val (.int lN), .val (.ref b101), .val (.ref b107), .unset]) (pc' := 52) K X110 at_50 rfl rfl rfl ?_
    refine own_iloadN (pc' := 53) K X110 at_52 rfl rfl ?_
    refine own_iloadN (pc' := 54) K X110 at_53 rfl rfl ?_
    refine own_callS (pc' := 57) (argsL := [(.int a), (.int b)]) (rest := []) K X110 e110 (own_w hw 18 rfl) (own_w hw 19 rfl) (own_w hw 20 rfl) (own_w hw 21 rfl) (rmK l Z a0 hw [] a b h110 n0) at_54 pd_2 rfl rfl rfl (by decide) (own_le rfl) (own_le rfl) (own_le rfl) (own_le rfl) rfl fun v113 T113 L113 X113 hQ113 => ?_
    obtain ⟨rfl, N113q, e113⟩ := hQ113
    have N113 := Fr.app N110 N113q
    show Go p e below _ (T113.setTop (mkF m 57 #[.val (.int a), .val (.int b), .val (.int c'), .val (.int d), .val (.int fl), .val (.int lM), .val (.int lN), .val (.ref b101), .val (.ref b107), .unset] [(.long (a.toInt64 * (4294967296 : Int64) + (b.toInt64 - (-2147483648 : Int64))))]))
    refine own_iload (pc' := 59) K X113 at_57 rfl rfl ?_
    refine own_iload (pc' := 61) K X113 at_59 rfl rfl ?_
    refine own_callS (pc' := 64) (argsL := [(.int lM), (.int lN)]) (rest := [(.long (a.toInt64 * (4294967296 : Int64) + (b.toInt64 - (-2147483648 : Int64))))]) K X113 e113 (own_w hw 18 rfl) (own_w hw 19 rfl) (own_w hw 20 rfl) (own_w hw 21 rfl) (rmK l Z a0 hw [] lM lN h110 n0) at_61 pd_2 rfl rfl rfl (by decide) (own_le rfl) (own_le rfl) (own_le rfl) (own_le rfl) rfl fun v114 T114 L114 X114 hQ114 => ?_
    obtain ⟨rfl, N114q, e114⟩ := hQ114
    have N114 := Fr.app N113 N114q
    show Go p e below _ (T114.setTop (mkF m 64 #[.val (.int a), .val (.int b), .val (.int c'), .val (.int d), .val (.int fl), .val (.int lM), .val (.int lN), .val (.ref b101), .val (.ref b107), .unset] [(.long (lM.toInt64 * (4294967296 : Int64) + (lN.toInt64 - (-2147483648 : Int64)))), (.long (a.toInt64 * (4294967296 : Int64) + (b.toInt64 - (-2147483648 : Int64))))]))
    refine own_lcmp (pc' := 65) K X114 at_64 rfl ?_
    by_cases ck : (a.toInt64 * (4294967296 : Int64) + (b.toInt64 - (-2147483648 : Int64))) < (lM.toInt64 * (4294967296 : Int64) + (lN.toInt64 - (-2147483648 : Int64)))
    · refine own_ifYes (pc' := 72) K X114 at_65 ((if0 _ _).symm.trans (XT.ll_lt_t ck)) (by decide) (by decide) ?_
      refine own_iconst (v := (0 : Int32)) (pc' := 73) K X114 at_72 rfl rfl ?_
      refine own_istore (l' := #[.val (.int a), .val (.int b), .val (.int c'), .val (.int d), .val (.int fl), .val (.int lM), .val (.int lN), .val (.ref b101), .val (.ref b107), .val (.int (0 : Int32))]) (pc' := 75) K X114 at_73 rfl rfl ?_
      refine own_aload (pc' := 77) K X114 at_75 rfl rfl rfl ?_
      refine own_aload (pc' := 79) K X114 at_77 rfl rfl rfl ?_
      refine own_callV (pc' := 82) (argsL := [(.ref b107)]) (rest := []) K X114 e114 (own_w hw 24 rfl) (own_w hw 25 rfl) (notFace_of_selects (args := #[]) (mvT K.2.2.1 (own_w hw 27 rfl))) (own_w hw 27 rfl) (own_w hw 26 rfl) (own_w hw 28 rfl) (own_w hw 2 rfl) E_b101_111 (rmV l Z a0 hw [] b101 b107 a b lM lN 0 h110 n0 F_b101_major_111 F_b101_minor_111 FM110 FN110 (own_hr0 ck)) at_79 pd_3 rfl rfl rfl (by decide) (own_le rfl) (own_le rfl) (own_le rfl) (own_le rfl) rfl fun v115 T115 L115 X115 hQ115 => ?_
      obtain ⟨rfl, N115q, e115⟩ := hQ115
      have N115 := Fr.app N114 N115q
      show Go p e below _ (T115.setTop (mkF m 82 #[.val (.int a), .val (.int b), .val (.int c'), .val (.int d), .val (.int fl), .val (.int lM), .val (.int lN), .val (.ref b101), .val (.ref b107), .val (.int (0 : Int32))] [(.int (0 : Int32))]))
      refine own_iload (pc' := 84) K X115 at_82 rfl rfl ?_
      refine own_icmpNo (pc' := 87) K X115 at_84 rfl rfl ?_
      refine own_iconst (v := (1 : Int32)) (pc' := 88) K X115 at_87 rfl rfl ?_
      refine own_goto (pc' := 92) K X115 at_88 (by decide) (by decide) ?_
      exact own_retN (t := .boolean) (z' := (1 : Int32)) K X115 hrt hlk (by simp) rfl at_92 (own_le rfl) (own_le rfl) (by (try rw [e115]); exact ⟨rfl, N115⟩)
    · refine own_ifNo (pc' := 68) K X114 at_65 ((if0 _ _).symm.trans (XT.ll_lt_f ck)) rfl ?_
      refine own_iconst (v := (1 : Int32)) (pc' := 69) K X114 at_68 rfl rfl ?_
      refine own_goto (pc' := 73) K X114 at_69 (by decide) (by decide) ?_
      refine own_istore (l' := #[.val (.int a), .val (.int b), .val (.int c'), .val (.int d), .val (.int fl), .val (.int lM), .val (.int lN), .val (.ref b101), .val (.ref b107), .val (.int (1 : Int32))]) (pc' := 75) K X114 at_73 rfl rfl ?_
      refine own_aload (pc' := 77) K X114 at_75 rfl rfl rfl ?_
      refine own_aload (pc' := 79) K X114 at_77 rfl rfl rfl ?_
      refine own_callV (pc' := 82) (argsL := [(.ref b107)]) (rest := []) K X114 e114 (own_w hw 24 rfl) (own_w hw 25 rfl) (notFace_of_selects (args := #[]) (mvT K.2.2.1 (own_w hw 27 rfl))) (own_w hw 27 rfl) (own_w hw 26 rfl) (own_w hw 28 rfl) (own_w hw 2 rfl) E_b101_111 (rmV l Z a0 hw [] b101 b107 a b lM lN 1 h110 n0 F_b101_major_111 F_b101_minor_111 FM110 FN110 (own_hr1 ck)) at_79 pd_3 rfl rfl rfl (by decide) (own_le rfl) (own_le rfl) (own_le rfl) (own_le rfl) rfl fun v116 T116 L116 X116 hQ116 => ?_
      obtain ⟨rfl, N116q, e116⟩ := hQ116
      have N116 := Fr.app N114 N116q
      show Go p e below _ (T116.setTop (mkF m 82 #[.val (.int a), .val (.int b), .val (.int c'), .val (.int d), .val (.int fl), .val (.int lM), .val (.int lN), .val (.ref b101), .val (.ref b107), .val (.int (1 : Int32))] [(.int (1 : Int32))]))
      refine own_iload (pc' := 84) K X116 at_82 rfl rfl ?_
      refine own_icmpNo (pc' := 87) K X116 at_84 rfl rfl ?_
      refine own_iconst (v := (1 : Int32)) (pc' := 88) K X116 at_87 rfl rfl ?_
      refine own_goto (pc' := 92) K X116 at_88 (by decide) (by decide) ?_
      exact own_retN (t := .boolean) (z' := (1 : Int32)) K X116 hrt hlk (by simp) rfl at_92 (own_le rfl) (own_le rfl) (by (try rw [e116]); exact ⟨rfl, N116⟩)
  refine own_iload (pc' := 2) K X0 at_0 rfl rfl ?_
  refine own_iconst (v := (1 : Int32)) (pc' := 3) K X0 at_2 rfl rfl ?_
  refine own_iand (pc' := 4) K X0 at_3 rfl ?_
  by_cases c1 : (fl &&& (1 : Int32)) = (0 : Int32)
  · refine own_ifYes (pc' := 11) K X0 at_4 (teq c1).1 (by decide) (by decide) ?_
    refine own_iloadN (pc' := 12) K X0 at_11 rfl rfl ?_
    refine own_istore (l' := #[.val (.int a), .val (.int b), .val (.int c'), .val (.int d), .val (.int fl), .val (.int c'), .unset, .unset, .unset, .unset]) (pc' := 14) K X0 at_12 rfl rfl ?_
    refine own_iload (pc' := 16) K X0 at_14 rfl rfl ?_
    refine own_iconst (v := (2 : Int32)) (pc' := 17) K X0 at_16 rfl rfl ?_
    refine own_iand (pc' := 18) K X0 at_17 rfl ?_
    by_cases c2 : (fl &&& (2 : Int32)) = (0 : Int32)
    · refine own_ifYes (pc' := 25) K X0 at_18 (teq c2).1 (by decide) (by decide) ?_
      refine own_iloadN (pc' := 26) K X0 at_25 rfl rfl ?_
      refine own_istore (l' := #[.val (.int a), .val (.int b), .val (.int c'), .val (.int d), .val (.int fl), .val (.int c'), .val (.int d), .unset, .unset, .unset]) (pc' := 28) K X0 at_26 rfl rfl ?_
      exact seg _ _
    · refine own_ifNo (pc' := 21) K X0 at_18 (feq c2).1 rfl ?_
      refine own_iloadN (pc' := 22) K X0 at_21 rfl rfl ?_
      refine own_goto (pc' := 26) K X0 at_22 (by decide) (by decide) ?_
      refine own_istore (l' := #[.val (.int a), .val (.int b), .val (.int c'), .val (.int d), .val (.int fl), .val (.int c'), .val (.int b), .unset, .unset, .unset]) (pc' := 28) K X0 at_26 rfl rfl ?_
      exact seg _ _
  · refine own_ifNo (pc' := 7) K X0 at_4 (feq c1).1 rfl ?_
    refine own_iloadN (pc' := 8) K X0 at_7 rfl rfl ?_
    refine own_goto (pc' := 12) K X0 at_8 (by decide) (by decide) ?_
    refine own_istore (l' := #[.val (.int a), .val (.int b), .val (.int c'), .val (.int d), .val (.int fl), .val (.int a), .unset, .unset, .unset, .unset]) (pc' := 14) K X0 at_12 rfl rfl ?_
    refine own_iload (pc' := 16) K X0 at_14 rfl rfl ?_
    refine own_iconst (v := (2 : Int32)) (pc' := 17) K X0 at_16 rfl rfl ?_
    refine own_iand (pc' := 18) K X0 at_17 rfl ?_
    by_cases c2 : (fl &&& (2 : Int32)) = (0 : Int32)
    · refine own_ifYes (pc' := 25) K X0 at_18 (teq c2).1 (by decide) (by decide) ?_
      refine own_iloadN (pc' := 26) K X0 at_25 rfl rfl ?_
      refine own_istore (l' := #[.val (.int a), .val (.int b), .val (.int c'), .val (.int d), .val (.int fl), .val (.int a), .val (.int d), .unset, .unset, .unset]) (pc' := 28) K X0 at_26 rfl rfl ?_
      exact seg _ _
    · refine own_ifNo (pc' := 21) K X0 at_18 (feq c2).1 rfl ?_
      refine own_iloadN (pc' := 22) K X0 at_21 rfl rfl ?_
      refine own_goto (pc' := 26) K X0 at_22 (by decide) (by decide) ?_
      refine own_istore (l' := #[.val (.int a), .val (.int b), .val (.int c'), .val (.int d), .val (.int fl), .val (.int a), .val (.int b), .unset, .unset, .unset]) (pc' := 28) K X0 at_26 rfl rfl ?_
      exact seg _ _
set_option maxRecDepth 65536 in
set_option maxHeartbeats 40000000 in
theorem comes_1 {Post : Tables → Env → Array Value → State → Outcome → State → Prop} (hpost : ∀ tb e args s v u, (limb_1_1.after args s (.returned v) u = true ∧ limb_1_2.after args s (.returned v) u = true ∧ True) → FrameEnd s (.returned v) u (Jvm.fieldLocs frame_1_writes args s ++ Jvm.arrayLocs frame_1_arrays args s ++ Jvm.staticLocs frame_1_statics s) 16 128 → Post tb e args s (.returned v) u) :
    ArmFor flags0 classFile x code maxLocals ret World_1 tables_1 room_1 Calls_1 rest_1 Pre_1 Post := by
  intro l hfl _ _ p e ha hc hk s m args below hf hA hF happ hP
  obtain ⟨hcalls, hrest, hpre⟩ := hP
  obtain ⟨-, -, -, hnamed, -, -, -, hat⟩ := (Spec.applies_iff hf).mp happ
  obtain ⟨hg, hn⟩ := and_e (Cond.before_iff.mp (show (Jvm.Cond.and given_1 narrow_1).before args s = true from hpre))
  obtain ⟨gc, g0⟩ := and_e hg
  obtain ⟨gi0, g1⟩ := and_e g0
  obtain ⟨gi1, g2⟩ := and_e g1
  obtain ⟨gi2, g3⟩ := and_e g2
  obtain ⟨gi3, g4⟩ := and_e g3
  have gi4 := g4
  obtain ⟨w0, w1, w2, w3, w4, rfl⟩ : ∃ w0 w1 w2 w3 w4 : Value, args = #[w0, w1, w2, w3, w4] := by
    have hs : args.size = 5 := by simpa [Cond.value, given_1] using gc
    obtain ⟨L⟩ := args
    match L, hs with
    | [w0, w1, w2, w3, w4], _ => exact ⟨w0, w1, w2, w3, w4, rfl⟩
  have hw := fun d (hd : d ∈ tables_1) => atoms_spec (ws := Jvm.Cond.code x code maxLocals ret :: tables_1) hat d (List.mem_cons_of_mem _ hd)
  have hfit : Fit s := fun {y c} hc i hi => by
    obtain ⟨ha, rfl⟩ := Array.getElem?_eq_some_iff.mp hc
    have q := List.all_eq_true.mp ((Array.all_eq_true_iff_forall_mem.mp hF) _ (Array.getElem_mem ha)) i (List.mem_range.mpr hi)
    simpa [Array.getElem?_eq_getElem hi] using q
  obtain ⟨i0, ei0⟩ := is_v gi0
  obtain rfl : w0 = (.int i0) := Option.some.inj ei0
  obtain ⟨i1, ei1⟩ := is_v gi1
  obtain rfl : w1 = (.int i1) := Option.some.inj ei1
  obtain ⟨i2, ei2⟩ := is_v gi2
  obtain rfl : w2 = (.int i2) := Option.some.inj ei2
  obtain ⟨i3, ei3⟩ := is_v gi3
  obtain rfl : w3 = (.int i3) := Option.some.inj ei3
  obtain ⟨i4, ei4⟩ := is_v gi4
  obtain rfl : w4 = (.int i4) := Option.some.inj ei4
  obtain ⟨n, o, h1, h2, h3, _, L, rfl, ⟨rfl, N⟩, hq⟩ := rm0 l s _ hw tables_1 i0 i1 i2 i3 i4 s.heap s.heap.size (Nat.le_refl _) p e ha hc hk s m _ below hf ((Spec.applies_iff_loose hf).mp happ).1 ⟨rfl, State.Warmed39.refl s, rfl⟩ trivial
  refine ⟨n, _, h1, h2, h3, hpost _ _ _ _ _ _ ⟨Cond.after_iff.mpr rfl, Cond.after_iff.mpr (eq_i res_at (Term.int_eval (1)) rfl), trivial⟩ ⟨hq.1, hq.2.1, (hq.2.2.sift fun y hy => Or.inr (N y hy)).mono (by decide) (by decide)⟩⟩
theorem main_1_1 : Claimed_1_1 := comes_1 fun _ _ _ _ _ _ h hF => ⟨h.1, hF⟩
theorem main_1_2 : Claimed_1_2 := comes_1 fun _ _ _ _ _ _ h hF => ⟨h.2.1, hF⟩
end Jvm.Pilot.@@N@@
namespace Jvm.Pilot.@@N@@
open Jvm Jvm.ClassFile Sem Op Lib Jvm.Free Jvm.Stand Jvm.Pilot.@@N@@.Jvm.D
/-! MADE BY PROGRAM (witnessworld.py) out of the Statement's table words and the real class files: 10 classes; the members and pool entries that the words name. The judged class is class 1, her method 2. -/
namespace start1
open Jvm.ClassFile
def u (s : String) : CpInfo := .utf8 (stringToUtf16 s)
/-- a pool by its gaps: so many unusable entries, then the entry; so many at the end -/
def gap : Nat → List CpInfo → List CpInfo
  | 0, r => r
  | n + 1, r => .unusable :: gap n r
def poolList (es : List (Nat × CpInfo)) (last : Nat) : List CpInfo := es.foldr (fun e r => gap e.1 (e.2 :: r)) (gap last [])
def pool (es : List (Nat × CpInfo)) (last : Nat) : Array CpInfo := ⟨poolList es last⟩
def fileOf (pool : Array CpInfo) (this : Nat) (attrs : Array Attribute := #[]) (ms : Array MethodInfo := #[]) (fl : Nat := 33) (sup : Nat := 0) (ifs : Array Nat := #[]) (fds : Array FieldInfo := #[]) : ClassFile where
  minorVersion := 0
  majorVersion := 65
  constantPool := pool
  accessFlags := fl
  thisClass := this
  superClass := sup
  interfaces := ifs
  fields := fds
  methods := ms
  attributes := attrs
def plain (name : String) (sup : Option ClassId) : Class where
  name := name
  kind := .ordinary
  loader := none
  accessFlags := 33
  super := sup
  interfaces := #[]
  cf := none
  fields := #[]
  methods := #[]
  instanceTypes := #[]
  staticTypes := #[]
  resolved := #[]
  callSites := []
  init := .initialized
  statics := none
  mirror := none

def pool0 : Array CpInfo := pool [(5, u "<init>"), (0, u "()V"), (1, .class_ 10), (1, u "java/lang/Object")] 113

def k0c0 : Code := { maxStack := 0, maxLocals := 1, code := object_method_1_code, exceptionTable := #[], attributes := #[] }
def k0m0 : Method := { name := "<init>", desc := "()V", sig := { parameters := [], returnType := none }, accessFlags := 1, code := some k0c0 }
/-- java/lang/Object -/
def k0 : Class := { plain "java/lang/Object" none with
  accessFlags := 33
  interfaces := #[]
  cf := some (fileOf pool0 8 #[] #[{ accessFlags := 1, nameIndex := 5, descriptorIndex := 6, attributes := #[] }] 33 0 #[] #[])
  fields := #[]
  methods := #[k0m0]
  instanceTypes := #[]
  staticTypes := #[]
  resolved := Array.replicate 124 none
  statics := none }

def pool1 : Array CpInfo := pool [(2, .class_ 4), (1, u "java/lang/Object"), (0, u "<init>"), (0, u "()V"), (0, .long 4294967296), (3, .long 18446744071562067968), (1, .class_ 14), (0, u "com/example/stallgraph/stallgraph/tracer/Version"), (0, .methodref 13 16), (0, .nameAndType 5 17), (0, u "(II)V"), (0, .methodref 19 20), (0, .class_ 21), (0, .nameAndType 22 23), (0, u "com/example/stallgraph/stallgraph/tracer/VersionReachesPinLaw"), (0, u "key"), (0, u "(II)J"), (0, .methodref 13 25), (0, .nameAndType 26 27), (0, u "reaches"), (0, u "(Lcom/example/stallgraph/stallgraph/tracer/Version;)Z"), (2, u "law"), (0, u "(IIIII)Z")] 3

def k1m0 : Method := { name := "<init>", desc := "()V", sig := { parameters := [], returnType := none }, accessFlags := 1, code := none }
def k1c1 : Code := { maxStack := 6, maxLocals := 2, code := method_2_code, exceptionTable := #[], attributes := #[] }
def k1m1 : Method := { name := "key", desc := "(II)J", sig := { parameters := [.int, .int], returnType := some .long }, accessFlags := 10, code := some k1c1 }
def k1c2 : Code := { maxStack := 4, maxLocals := 10, code := code, exceptionTable := #[], attributes := #[] }
def k1m2 : Method := { name := "law", desc := "(IIIII)Z", sig := { parameters := [.int, .int, .int, .int, .int], returnType := some .boolean }, accessFlags := 9, code := some k1c2 }
/-- com/example/stallgraph/stallgraph/tracer/VersionReachesPinLaw -/
def k1 : Class := { plain "com/example/stallgraph/stallgraph/tracer/VersionReachesPinLaw" (some 0) with
  accessFlags := 49
  interfaces := #[]
  cf := some (fileOf pool1 19 #[] #[{ accessFlags := 1, nameIndex := 5, descriptorIndex := 6, attributes := #[] }, { accessFlags := 10, nameIndex := 22, descriptorIndex := 23, attributes := #[] }, { accessFlags := 9, nameIndex := 30, descriptorIndex := 31, attributes := #[] }] 49 2 #[] #[])
  fields := #[]
  methods := #[k1m0, k1m1, k1m2]
  instanceTypes := #[]
  staticTypes := #[]
  resolved := Array.replicate 35 none
  statics := none }

def pool2 : Array CpInfo := pool [(1, .methodref 2 3), (0, .class_ 4), (0, .nameAndType 5 6), (0, u "java/lang/Object"), (0, u "<init>"), (0, u "()V"), (0, .class_ 8), (0, u "java/lang/Record")] 13

def k2c0 : Code := { maxStack := 1, maxLocals := 1, code := jdk_30_method_1_code, exceptionTable := #[], attributes := #[] }
def k2m0 : Method := { name := "<init>", desc := "()V", sig := { parameters := [], returnType := none }, accessFlags := 4, code := some k2c0 }
/-- java/lang/Record -/
def k2 : Class := { plain "java/lang/Record" (some 0) with
  accessFlags := 1057
  interfaces := #[]
  cf := some (fileOf pool2 7 #[] #[{ accessFlags := 4, nameIndex := 5, descriptorIndex := 6, attributes := #[] }] 1057 2 #[] #[])
  fields := #[]
  methods := #[k2m0]
  instanceTypes := #[]
  staticTypes := #[]
  resolved := Array.replicate 22 none
  statics := none }

def pool3 : Array CpInfo := pool [(1, .methodref 2 3), (0, .class_ 4), (0, .nameAndType 5 6), (0, u "java/lang/Record"), (0, u "<init>"), (0, u "()V"), (0, .fieldref 8 9), (0, .class_ 10), (0, .nameAndType 11 12), (0, u "com/example/stallgraph/stallgraph/tracer/Version"), (0, u "major"), (0, u "I"), (0, .fieldref 8 14), (0, .nameAndType 15 12), (0, u "minor"), (14, u "(II)V"), (2, u "UNTOLD"), (0, u "Lcom/example/stallgraph/stallgraph/tracer/Version;"), (38, u "FIRST"), (1, u "MOST_DIGITS"), (8, u "reaches"), (0, u "(Lcom/example/stallgraph/stallgraph/tracer/Version;)Z")] 24

def k3c0 : Code := { maxStack := 2, maxLocals := 3, code := prog_412_method_1_code, exceptionTable := #[], attributes := #[] }
def k3m0 : Method := { name := "<init>", desc := "(II)V", sig := { parameters := [.int, .int], returnType := none }, accessFlags := 0, code := some k3c0 }
def k3c1 : Code := { maxStack := 2, maxLocals := 2, code := prog_412_method_4_code, exceptionTable := #[], attributes := #[] }
def k3m1 : Method := { name := "reaches", desc := "(Lcom/example/stallgraph/stallgraph/tracer/Version;)Z", sig := { parameters := [(.object "com/example/stallgraph/stallgraph/tracer/Version")], returnType := some .boolean }, accessFlags := 0, code := some k3c1 }
/-- com/example/stallgraph/stallgraph/tracer/Version -/
def k3 : Class := { plain "com/example/stallgraph/stallgraph/tracer/Version" (some 2) with
  accessFlags := 48
  interfaces := #[]
  cf := some (fileOf pool3 8 #[] #[{ accessFlags := 0, nameIndex := 5, descriptorIndex := 30, attributes := #[] }, { accessFlags := 0, nameIndex := 84, descriptorIndex := 85, attributes := #[] }] 48 2 #[] #[{ accessFlags := 18, nameIndex := 11, descriptorIndex := 12, attributes := #[] }, { accessFlags := 18, nameIndex := 15, descriptorIndex := 12, attributes := #[] }, { accessFlags := 24, nameIndex := 73, descriptorIndex := 34, attributes := #[] }, { accessFlags := 24, nameIndex := 33, descriptorIndex := 34, attributes := #[] }, { accessFlags := 26, nameIndex := 75, descriptorIndex := 12, attributes := #[] }])
  fields := #[{ name := "major", type := .int, accessFlags := 18, slot := 0, constantValue := 0 }, { name := "minor", type := .int, accessFlags := 18, slot := 1, constantValue := 0 }, { name := "FIRST", type := (.object "com/example/stallgraph/stallgraph/tracer/Version"), accessFlags := 24, slot := 0, constantValue := 0 }, { name := "UNTOLD", type := (.object "com/example/stallgraph/stallgraph/tracer/Version"), accessFlags := 24, slot := 1, constantValue := 0 }, { name := "MOST_DIGITS", type := .int, accessFlags := 26, slot := 2, constantValue := 0 }]
  methods := #[k3m0, k3m1]
  instanceTypes := #[.int, .int]
  staticTypes := #[(.object "com/example/stallgraph/stallgraph/tracer/Version"), (.object "com/example/stallgraph/stallgraph/tracer/Version"), .int]
  resolved := Array.replicate 110 none
  statics := none }

def pool4 : Array CpInfo := pool [(1, u "java/lang/Cloneable"), (0, .class_ 1), (0, u "java/lang/Object"), (0, .class_ 3)] 3

/-- java/lang/Cloneable -/
def k4 : Class := { plain "java/lang/Cloneable" (some 0) with
  accessFlags := 1537
  interfaces := #[]
  cf := some (fileOf pool4 2 #[] #[] 1537 4 #[] #[])
  fields := #[]
  methods := #[]
  instanceTypes := #[]
  staticTypes := #[]
  resolved := Array.replicate 8 none
  statics := none }

def pool5 : Array CpInfo := pool [(1, u "java/io/Serializable"), (0, .class_ 1), (0, u "java/lang/Object"), (0, .class_ 3)] 3

/-- java/io/Serializable -/
def k5 : Class := { plain "java/io/Serializable" (some 0) with
  accessFlags := 1537
  interfaces := #[]
  cf := some (fileOf pool5 2 #[] #[] 1537 4 #[] #[])
  fields := #[]
  methods := #[]
  instanceTypes := #[]
  staticTypes := #[]
  resolved := Array.replicate 8 none
  statics := none }

/-- the primitive byte -/
def k6 : Class := { plain "byte" none with kind := .primitive 'B', accessFlags := 0x411 }
/-- [B -/
def k7 : Class := { plain "[B" (some 0) with kind := .array 6 .byte, interfaces := #[4, 5], accessFlags := 1041 }

/-- the primitive int -/
def k8 : Class := { plain "int" none with kind := .primitive 'I', accessFlags := 0x411 }
/-- [I -/
def k9 : Class := { plain "[I" (some 0) with kind := .array 8 .int, interfaces := #[4, 5], accessFlags := 1041 }

def heap : Heap := #[]
def classes : Array Class := #[k0, k1, k2, k3, k4, k5, k6, k7, k8, k9]
def interned : List (Array UInt16 × Addr) := []
def slotsUsed : Nat := 0
def theMethod : MethodId := ⟨1, 2⟩
def args0 : Array Value := #[.int 5, .int 6, .int 7, .int 8, .int 3]
def aboutOver (below : List Frame) : State where
  vm := { classes := classes, interned := interned.toArray }
  heap := heap
  slotsUsed := slotsUsed
  threads := #[{ frames := .invoking theMethod args0 :: below }]
def below0 : List Frame := [.native { method := ⟨0, 0⟩, args := #[] }]
def about1 : State := aboutOver below0
def p0 : Program := .bare "" "" ""
def e0 : Env := launch0.env 0 0 0
theorem w_frames : about1.frames = Frame.invoking theMethod args0 :: below0 := rfl
set_option maxRecDepth 65536 in
theorem w_args : argsFit about1.vm theMethod args0 = true := by decide +kernel
set_option maxRecDepth 65536 in
theorem w_heap : heapFits about1 = true := by decide +kernel
set_option maxRecDepth 65536 in
theorem w_runnable : about1.curStatus? = some .runnable := by decide +kernel
set_option maxRecDepth 65536 in
theorem w_alone : about1.alone = true := by decide +kernel
set_option maxRecDepth 65536 in
theorem w_named : about1.methodNamed? x = some theMethod := by decide +kernel
set_option maxRecDepth 65536 in
theorem w_hears : about1.hears theMethod below0 = true := by decide +kernel
set_option maxRecDepth 65536 in
theorem w_ripe : about1.ripe theMethod args0 below0 = true := by decide +kernel
theorem w_running : about1.status = .running := rfl
set_option maxRecDepth 65536 in
theorem w_room : about1.hasRoom e0.platform room_1 = true :=
  launch0.hasRoom_least _ room_1 (by decide +kernel) (by decide +kernel) (by decide +kernel) (by decide +kernel) (by decide +kernel) (by decide +kernel)
theorem allAtoms_all (ts : List Jvm.Cond) (a : Array Jvm.Value) (st : Jvm.State) : (allAtoms ts).before a st = ts.all (fun c => c.before a st) := by
  induction ts with
  | nil => rfl
  | cons c t ih =>
    show (Jvm.Cond.and c (allAtoms t)).before a st = _
    rw [Jvm.Cond.before_and, ih, List.all_cons]
def words1 : List Jvm.Cond := Jvm.Cond.code x code maxLocals ret :: tables_1
/-- a 'code' word, met by the world's own term for the bytes: nothing is compared byte by byte -/
theorem code_word {y : MethodName} {bytes : ByteArray} {mx : Nat} {rt : Option FieldType} {a : Array Value} {s : State} {m : MethodId} {meth : Method} {c : Code} (h1 : s.methodNamed? y = some m) (h2 : s.vm.method? m = some meth) (h3 : meth.code = some c) (h4 : c.code = bytes)
    (h5 : (c.maxLocals == mx && c.exceptionTable.isEmpty && decide (c.maxStack ≤ mostOperands) && decide (meth.sig.returnType = rt) && !meth.locks && decide (parseMethodDescriptor y.desc = some meth.sig)) = true) : (Jvm.Cond.code y bytes mx rt).before a s = true := by
  simp only [Bool.and_eq_true, beq_iff_eq, Bool.not_eq_true', decide_eq_true_eq] at h5
  obtain ⟨⟨⟨⟨⟨g1, g2⟩, g3⟩, g4⟩, g5⟩, g6⟩ := h5
  simp [Cond.before, Cond.holds, Cond.value, h1, h2, h3, h4, g1, g2, g3, g4, g5, g6]
def isCode : Jvm.Cond → Bool
  | .code _ _ _ _ => true
  | _ => false
theorem all_split {L : List Jvm.Cond} {P : Jvm.Cond → Bool} (h1 : L.all (fun c => isCode c || P c) = true) (h2 : ∀ c ∈ L.filter isCode, P c = true) : L.all P = true := by
  refine List.all_eq_true.mpr fun c hc => ?_
  have h := List.all_eq_true.mp h1 c hc
  rcases Bool.eq_false_or_eq_true (isCode c) with hi | hi
  · exact h2 c (List.mem_filter.mpr ⟨hc, hi⟩)
  · simpa [hi] using h
set_option maxRecDepth 65536 in
theorem w_c0 : (Jvm.Cond.code x code maxLocals ret).before args0 about1 = true := code_word (m := ⟨1, 2⟩) (meth := k1m2) (c := k1c2) (by decide +kernel) rfl rfl rfl (by decide +kernel)
set_option maxRecDepth 65536 in
theorem w_c1 : (Jvm.Cond.code ({ cls := "com/example/stallgraph/stallgraph/tracer/Version", name := "<init>", desc := "(II)V" } : Jvm.MethodName) prog_412_method_1_code (3 : Nat) (Option.none : Option Jvm.ClassFile.FieldType)).before args0 about1 = true := code_word (m := ⟨3, 0⟩) (meth := k3m0) (c := k3c0) (by decide +kernel) rfl rfl rfl (by decide +kernel)
set_option maxRecDepth 65536 in
theorem w_c2 : (Jvm.Cond.code ({ cls := "java/lang/Record", name := "<init>", desc := "()V" } : Jvm.MethodName) jdk_30_method_1_code (1 : Nat) (Option.none : Option Jvm.ClassFile.FieldType)).before args0 about1 = true := code_word (m := ⟨2, 0⟩) (meth := k2m0) (c := k2c0) (by decide +kernel) rfl rfl rfl (by decide +kernel)
set_option maxRecDepth 65536 in
theorem w_c3 : (Jvm.Cond.code ({ cls := "java/lang/Object", name := "<init>", desc := "()V" } : Jvm.MethodName) object_method_1_code (1 : Nat) (Option.none : Option Jvm.ClassFile.FieldType)).before args0 about1 = true := code_word (m := ⟨0, 0⟩) (meth := k0m0) (c := k0c0) (by decide +kernel) rfl rfl rfl (by decide +kernel)
set_option maxRecDepth 65536 in
theorem w_c4 : (Jvm.Cond.code ({ cls := "com/example/stallgraph/stallgraph/tracer/VersionReachesPinLaw", name := "key", desc := "(II)J" } : Jvm.MethodName) method_2_code (2 : Nat) (Option.some Jvm.ClassFile.FieldType.long)).before args0 about1 = true := code_word (m := ⟨1, 1⟩) (meth := k1m1) (c := k1c1) (by decide +kernel) rfl rfl rfl (by decide +kernel)
set_option maxRecDepth 65536 in
theorem w_c5 : (Jvm.Cond.code ({ cls := "com/example/stallgraph/stallgraph/tracer/Version", name := "reaches", desc := "(Lcom/example/stallgraph/stallgraph/tracer/Version;)Z" } : Jvm.MethodName) prog_412_method_4_code (2 : Nat) (Option.some Jvm.ClassFile.FieldType.boolean)).before args0 about1 = true := code_word (m := ⟨3, 1⟩) (meth := k3m1) (c := k3c1) (by decide +kernel) rfl rfl rfl (by decide +kernel)
def codes1 : List Jvm.Cond := [Jvm.Cond.code x code maxLocals ret, Jvm.Cond.code ({ cls := "com/example/stallgraph/stallgraph/tracer/Version", name := "<init>", desc := "(II)V" } : Jvm.MethodName) prog_412_method_1_code (3 : Nat) (Option.none : Option Jvm.ClassFile.FieldType), Jvm.Cond.code ({ cls := "java/lang/Record", name := "<init>", desc := "()V" } : Jvm.MethodName) jdk_30_method_1_code (1 : Nat) (Option.none : Option Jvm.ClassFile.FieldType), Jvm.Cond.code ({ cls := "java/lang/Object", name := "<init>", desc := "()V" } : Jvm.MethodName) object_method_1_code (1 : Nat) (Option.none : Option Jvm.ClassFile.FieldType), Jvm.Cond.code ({ cls := "com/example/stallgraph/stallgraph/tracer/VersionReachesPinLaw", name := "key", desc := "(II)J" } : Jvm.MethodName) method_2_code (2 : Nat) (Option.some Jvm.ClassFile.FieldType.long), Jvm.Cond.code ({ cls := "com/example/stallgraph/stallgraph/tracer/Version", name := "reaches", desc := "(Lcom/example/stallgraph/stallgraph/tracer/Version;)Z" } : Jvm.MethodName) prog_412_method_4_code (2 : Nat) (Option.some Jvm.ClassFile.FieldType.boolean)]
set_option maxRecDepth 65536 in
theorem codes_eq : words1.filter isCode = codes1 := rfl
theorem w_codes : ∀ c ∈ words1.filter isCode, c.before args0 about1 = true := by
  rw [codes_eq]
  intro c hc
  simp only [codes1, List.mem_cons, List.not_mem_nil, or_false] at hc
  rcases hc with rfl | rfl | rfl | rfl | rfl | rfl
  · exact w_c0
  · exact w_c1
  · exact w_c2
  · exact w_c3
  · exact w_c4
  · exact w_c5
set_option maxRecDepth 65536 in
theorem w_t1 : (words1.take 24).all (fun c => isCode c || c.before args0 about1) = true := by decide +kernel
set_option maxRecDepth 65536 in
theorem w_t2 : (words1.drop 24).all (fun c => isCode c || c.before args0 about1) = true := by decide +kernel
theorem w_tables : (allAtoms (Jvm.Cond.code x code maxLocals ret :: tables_1)).before args0 about1 = true := by
  rw [allAtoms_all]
  show words1.all (fun c => c.before args0 about1) = true
  refine all_split ?_ w_codes
  rw [← List.take_append_drop 24 words1, List.all_append, w_t1, w_t2]
  rfl
set_option maxRecDepth 65536 in
theorem w_case : (Jvm.Cond.and given_1 narrow_1).before args0 about1 = true := by decide +kernel
theorem w_applies : (headSpec (Jvm.Cond.code x code maxLocals ret :: tables_1) room_1).applies x e0.platform about1 = true :=
  (Spec.applies_iff w_frames).mpr ⟨w_running, w_runnable, w_alone, w_named, w_hears, w_ripe, w_room, w_tables⟩
theorem atStart : AtStart classFile x code maxLocals ret World_1 tables_1 room_1 Calls_1 rest_1 Pre_1 launch0 p0 e0 about1 theMethod args0 below0 :=
  ⟨lists_1, trivial, launch0.admits_env _ _ _, launch0.least_env, fairChoices_fair.cas, fairChoices_fair.clock, w_frames, w_args, w_heap, w_applies, trivial, trivial, w_case⟩
end start1
theorem witness_1 : WitnessClaimed_1 := ⟨start1.p0, start1.e0, start1.about1, start1.theMethod, start1.args0, start1.below0, start1.atStart⟩
end Jvm.Pilot.@@N@@
