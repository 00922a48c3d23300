import JvmDerived
import JvmDerived.Pilot.@@N@@Statement
import JvmDerived.Pilot.@@N@@Code
set_option linter.unusedVariables false
set_option linter.unusedSimpArgs false
@@BLOCK:HandJ.lean.txt@@
@@BLOCK:HandW.lean.txt@@
@@BLOCK:HandBits.lean.txt@@
@@BLOCK:SymMore.lean.txt@@
namespace Jvm.Pilot.@@N@@
open Jvm Jvm.ClassFile Sem Op Lib Jvm.Free Jvm.Stand Jvm.LawKit Jvm.RoadKit Bundle Jvm.Pilot.@@N@@.Jvm.D
/-- the body's goal from a state on -/
def Go (p : Program) (e : Env) (below : List Frame) (P : Outcome → State → Prop) (U : State) : Prop :=
  ∃ s₂ o, Steps p.tables e below U s₂ ∧ s₂.status = .running ∧ Ended s₂ below o ∧ P o s₂
/-- the unsigned shifts, the remainders -/
def uI (x y : Int32) : Int32 := (x.toUInt32 >>> (y &&& 31).toUInt32).toInt32
def uL (x : Int64) (y : Int32) : Int64 := (x.toUInt64 >>> (y &&& 0x3f).toInt64.toUInt64).toInt64
def sL (x : Int64) (y : Int32) : Int64 := x >>> (y &&& 0x3f).toInt64
def lL (x : Int64) (y : Int32) : Int64 := x <<< (y &&& 0x3f).toInt64
theorem own_narZ {z : Int32} (h : z = 0 ∨ z = 1) : narrow .boolean (.int z) = .int z := by rcases h with rfl | rfl <;> rfl
section Own
variable {p : Program} {l : Launch} {e : Env} {R : Room} {s : State} {m : MethodId} {args : Array Value} {below : List Frame} {meth : Method} {c : Code} {T : State} {locs : List Loc} {cells slots : Nat} {P : Outcome → State → Prop} {pc pc' : Nat} {L L' : Array Slot} {S : List Value} {Z : State} {a0 : Array Value} {h : Heap}
theorem Go.via {U U' : State} (q : ∀ t, Steps p.tables e below U' t → Steps p.tables e below U t) (k : Go p e below P U') : Go p e below P U := by
  obtain ⟨s₂, o, h1, h2⟩ := k
  exact ⟨s₂, o, q _ h1, h2⟩
theorem Go.tr {U U' : State} (q : Steps p.tables e below U U') (k : Go p e below P U') : Go p e below P U := k.via fun _ h => q.trans h
theorem o_iload (X : Stand p l e R s m args below meth c T locs cells slots) (hx : p.tables.exec = Jvm.exec) {k : Nat} {v : Int32} (hd : decode c.code pc = .ok (.iload k, 2)) (hp : pc + 2 = pc') (hl : L[k]? = some (.val (.int v))) (K : Go p e below P (T.setTop (mkF m pc' L (.int v :: S)))) : Go p e below P (T.setTop (mkF m pc L (S))) := by
  subst hp; exact K.via fun t k => XS.iload X.here hx rfl hd hl k
theorem o_iloadN (X : Stand p l e R s m args below meth c T locs cells slots) (hx : p.tables.exec = Jvm.exec) {k : Fin 4} {v : Int32} (hd : decode c.code pc = .ok (.iload_n k, 1)) (hp : pc + 1 = pc') (hl : L[k.val]? = some (.val (.int v))) (K : Go p e below P (T.setTop (mkF m pc' L (.int v :: S)))) : Go p e below P (T.setTop (mkF m pc L (S))) := by
  subst hp; exact K.via fun t k => XS.iloadN X.here hx rfl hd hl k
theorem o_lload (X : Stand p l e R s m args below meth c T locs cells slots) (hx : p.tables.exec = Jvm.exec) {k : Nat} {v : Int64} (hd : decode c.code pc = .ok (.lload k, 2)) (hp : pc + 2 = pc') (hl : L[k]? = some (.val (.long v))) (K : Go p e below P (T.setTop (mkF m pc' L (.long v :: S)))) : Go p e below P (T.setTop (mkF m pc L (S))) := by
  subst hp; exact K.via fun t k => XS.lload X.here hx rfl hd hl k
theorem o_lloadN (X : Stand p l e R s m args below meth c T locs cells slots) (hx : p.tables.exec = Jvm.exec) {k : Fin 4} {v : Int64} (hd : decode c.code pc = .ok (.lload_n k, 1)) (hp : pc + 1 = pc') (hl : L[k.val]? = some (.val (.long v))) (K : Go p e below P (T.setTop (mkF m pc' L (.long v :: S)))) : Go p e below P (T.setTop (mkF m pc L (S))) := by
  subst hp; exact K.via fun t k => XS.lloadN X.here hx rfl hd hl k
theorem o_aload (X : Stand p l e R s m args below meth c T locs cells slots) (hx : p.tables.exec = Jvm.exec) {k : Nat} {v : Value} (hd : decode c.code pc = .ok (.aload k, 2)) (hp : pc + 2 = pc') (hl : L[k]? = some (.val v)) (hv : v.isRef = true) (K : Go p e below P (T.setTop (mkF m pc' L (v :: S)))) : Go p e below P (T.setTop (mkF m pc L (S))) := by
  subst hp; exact K.via fun t k => XS.aload X.here hx rfl hd hl hv k
theorem o_aloadN (X : Stand p l e R s m args below meth c T locs cells slots) (hx : p.tables.exec = Jvm.exec) {k : Fin 4} {v : Value} (hd : decode c.code pc = .ok (.aload_n k, 1)) (hp : pc + 1 = pc') (hl : L[k.val]? = some (.val v)) (hv : v.isRef = true) (K : Go p e below P (T.setTop (mkF m pc' L (v :: S)))) : Go p e below P (T.setTop (mkF m pc L (S))) := by
  subst hp; exact K.via fun t k => XS.aloadN X.here hx rfl hd hl hv k
theorem o_istore (X : Stand p l e R s m args below meth c T locs cells slots) (hx : p.tables.exec = Jvm.exec) {k : Nat} {x : Int32} (hd : decode c.code pc = .ok (.istore k, 2)) (hp : pc + 2 = pc') (hl : storeLocals L k (.int x) = some L') (K : Go p e below P (T.setTop (mkF m pc' L' (S)))) : Go p e below P (T.setTop (mkF m pc L (.int x :: S))) := by
  subst hp; exact K.via fun t k => XS.istore X.here hx rfl hd rfl hl k
theorem o_istoreN (X : Stand p l e R s m args below meth c T locs cells slots) (hx : p.tables.exec = Jvm.exec) {k : Fin 4} {x : Int32} (hd : decode c.code pc = .ok (.istore_n k, 1)) (hp : pc + 1 = pc') (hl : storeLocals L k.val (.int x) = some L') (K : Go p e below P (T.setTop (mkF m pc' L' (S)))) : Go p e below P (T.setTop (mkF m pc L (.int x :: S))) := by
  subst hp; exact K.via fun t k => XS.istoreN X.here hx rfl hd rfl hl k
theorem o_lstore (X : Stand p l e R s m args below meth c T locs cells slots) (hx : p.tables.exec = Jvm.exec) {k : Nat} {x : Int64} (hd : decode c.code pc = .ok (.lstore k, 2)) (hp : pc + 2 = pc') (hl : storeLocals L k (.long x) = some L') (K : Go p e below P (T.setTop (mkF m pc' L' (S)))) : Go p e below P (T.setTop (mkF m pc L (.long x :: S))) := by
  subst hp; exact K.via fun t k => XS.lstore X.here hx rfl hd rfl hl k
theorem o_lstoreN (X : Stand p l e R s m args below meth c T locs cells slots) (hx : p.tables.exec = Jvm.exec) {k : Fin 4} {x : Int64} (hd : decode c.code pc = .ok (.lstore_n k, 1)) (hp : pc + 1 = pc') (hl : storeLocals L k.val (.long x) = some L') (K : Go p e below P (T.setTop (mkF m pc' L' (S)))) : Go p e below P (T.setTop (mkF m pc L (.long x :: S))) := by
  subst hp; exact K.via fun t k => XS.lstoreN X.here hx rfl hd rfl hl k
theorem o_astore (X : Stand p l e R s m args below meth c T locs cells slots) (hx : p.tables.exec = Jvm.exec) {k : Nat} {x : Value} (hd : decode c.code pc = .ok (.astore k, 2)) (hp : pc + 2 = pc') (hv : x.isRef = true) (hl : storeLocals L k x = some L') (K : Go p e below P (T.setTop (mkF m pc' L' (S)))) : Go p e below P (T.setTop (mkF m pc L (x :: S))) := by
  subst hp; exact K.via fun t k => XS.astore X.here hx rfl hd rfl hv hl k
theorem o_astoreN (X : Stand p l e R s m args below meth c T locs cells slots) (hx : p.tables.exec = Jvm.exec) {k : Fin 4} {x : Value} (hd : decode c.code pc = .ok (.astore_n k, 1)) (hp : pc + 1 = pc') (hv : x.isRef = true) (hl : storeLocals L k.val x = some L') (K : Go p e below P (T.setTop (mkF m pc' L' (S)))) : Go p e below P (T.setTop (mkF m pc L (x :: S))) := by
  subst hp; exact K.via fun t k => XS.astoreN X.here hx rfl hd rfl hv hl k
theorem o_iconst (X : Stand p l e R s m args below meth c T locs cells slots) (hx : p.tables.exec = Jvm.exec) {i : Int} (v : Int32) (hd : decode c.code pc = .ok (.iconst i, 1)) (hp : pc + 1 = pc') (hv : Int32.ofInt i = v) (K : Go p e below P (T.setTop (mkF m pc' L (.int v :: S)))) : Go p e below P (T.setTop (mkF m pc L (S))) := by
  subst hp; exact K.via fun t k => XS.iconst X.here hx rfl hd (hv ▸ k)
theorem o_bipush (X : Stand p l e R s m args below meth c T locs cells slots) (hx : p.tables.exec = Jvm.exec) {i : Int} (v : Int32) (hd : decode c.code pc = .ok (.bipush i, 2)) (hp : pc + 2 = pc') (hv : (Int8.ofInt i).toInt32 = v) (K : Go p e below P (T.setTop (mkF m pc' L (.int v :: S)))) : Go p e below P (T.setTop (mkF m pc L (S))) := by
  subst hp; exact K.via fun t k => XS.bipush X.here hx rfl hd (hv ▸ k)
theorem o_lconst (X : Stand p l e R s m args below meth c T locs cells slots) (hx : p.tables.exec = Jvm.exec) {i : Fin 2} (v : Int64) (hd : decode c.code pc = .ok (.lconst i, 1)) (hp : pc + 1 = pc') (hv : Int64.ofNat i = v) (K : Go p e below P (T.setTop (mkF m pc' L (.long v :: S)))) : Go p e below P (T.setTop (mkF m pc L (S))) := by
  subst hp; exact K.via fun t k => XS.lconst X.here hx rfl hd (hv ▸ k)
theorem o_aconst_null (X : Stand p l e R s m args below meth c T locs cells slots) (hx : p.tables.exec = Jvm.exec)  (hd : decode c.code pc = .ok (.aconst_null, 1)) (hp : pc + 1 = pc')  (K : Go p e below P (T.setTop (mkF m pc' L (.null :: S)))) : Go p e below P (T.setTop (mkF m pc L (S))) := by
  subst hp; exact K.via fun t k => XS.aconstNull X.here hx rfl hd  k
theorem o_iadd (X : Stand p l e R s m args below meth c T locs cells slots) (hx : p.tables.exec = Jvm.exec) {x y : Int32} (hd : decode c.code pc = .ok (.iadd, 1)) (hp : pc + 1 = pc')  (K : Go p e below P (T.setTop (mkF m pc' L (.int (x + y) :: S)))) : Go p e below P (T.setTop (mkF m pc L (.int y :: .int x :: S))) := by
  subst hp; exact K.via fun t k => XS.iadd X.here hx rfl hd rfl k
theorem o_isub (X : Stand p l e R s m args below meth c T locs cells slots) (hx : p.tables.exec = Jvm.exec) {x y : Int32} (hd : decode c.code pc = .ok (.isub, 1)) (hp : pc + 1 = pc')  (K : Go p e below P (T.setTop (mkF m pc' L (.int (x - y) :: S)))) : Go p e below P (T.setTop (mkF m pc L (.int y :: .int x :: S))) := by
  subst hp; exact K.via fun t k => XS.isub X.here hx rfl hd rfl k
theorem o_imul (X : Stand p l e R s m args below meth c T locs cells slots) (hx : p.tables.exec = Jvm.exec) {x y : Int32} (hd : decode c.code pc = .ok (.imul, 1)) (hp : pc + 1 = pc')  (K : Go p e below P (T.setTop (mkF m pc' L (.int (x * y) :: S)))) : Go p e below P (T.setTop (mkF m pc L (.int y :: .int x :: S))) := by
  subst hp; exact K.via fun t k => XS.imul X.here hx rfl hd rfl k
theorem o_iand (X : Stand p l e R s m args below meth c T locs cells slots) (hx : p.tables.exec = Jvm.exec) {x y : Int32} (hd : decode c.code pc = .ok (.iand, 1)) (hp : pc + 1 = pc')  (K : Go p e below P (T.setTop (mkF m pc' L (.int (x &&& y) :: S)))) : Go p e below P (T.setTop (mkF m pc L (.int y :: .int x :: S))) := by
  subst hp; exact K.via fun t k => XS.iand X.here hx rfl hd rfl k
theorem o_iushr (X : Stand p l e R s m args below meth c T locs cells slots) (hx : p.tables.exec = Jvm.exec) {x y : Int32} (hd : decode c.code pc = .ok (.iushr, 1)) (hp : pc + 1 = pc')  (K : Go p e below P (T.setTop (mkF m pc' L (.int (uI x y) :: S)))) : Go p e below P (T.setTop (mkF m pc L (.int y :: .int x :: S))) := by
  subst hp; exact K.via fun t k => XS.iushr X.here hx rfl hd rfl k
theorem o_idiv (X : Stand p l e R s m args below meth c T locs cells slots) (hx : p.tables.exec = Jvm.exec) {x y : Int32} (hd : decode c.code pc = .ok (.idiv, 1)) (hp : pc + 1 = pc') (hy : y ≠ 0) (K : Go p e below P (T.setTop (mkF m pc' L (.int (x / y) :: S)))) : Go p e below P (T.setTop (mkF m pc L (.int y :: .int x :: S))) := by
  subst hp; exact K.via fun t k => XS.idiv X.here hx rfl hd rfl hy k
theorem o_irem (X : Stand p l e R s m args below meth c T locs cells slots) (hx : p.tables.exec = Jvm.exec) {x y : Int32} (hd : decode c.code pc = .ok (.irem, 1)) (hp : pc + 1 = pc') (hy : y ≠ 0) (K : Go p e below P (T.setTop (mkF m pc' L (.int (x % y) :: S)))) : Go p e below P (T.setTop (mkF m pc L (.int y :: .int x :: S))) := by
  subst hp; exact K.via fun t k => Jvm.RoadKit.iremM (g := mkF m pc L (.int y :: .int x :: S)) X hx rfl hd rfl hy k
theorem o_dup (X : Stand p l e R s m args below meth c T locs cells slots) (hx : p.tables.exec = Jvm.exec) {x : Value} (hd : decode c.code pc = .ok (.dup, 1)) (hp : pc + 1 = pc') (hc : x.category = 1) (K : Go p e below P (T.setTop (mkF m pc' L (x :: x :: S)))) : Go p e below P (T.setTop (mkF m pc L (x :: S))) := by
  subst hp; exact K.via fun t k => XS.dup X.here hx rfl hd rfl hc k
theorem o_pop (X : Stand p l e R s m args below meth c T locs cells slots) (hx : p.tables.exec = Jvm.exec) {x : Value} (hd : decode c.code pc = .ok (.pop, 1)) (hp : pc + 1 = pc') (hc : x.category = 1) (K : Go p e below P (T.setTop (mkF m pc' L (S)))) : Go p e below P (T.setTop (mkF m pc L (x :: S))) := by
  subst hp; exact K.via fun t k => XS.pop X.here hx rfl hd rfl hc k
theorem o_dup_x1 (X : Stand p l e R s m args below meth c T locs cells slots) (hx : p.tables.exec = Jvm.exec) {x y : Value} (hd : decode c.code pc = .ok (.dup_x1, 1)) (hp : pc + 1 = pc') (hc : x.category = 1) (hc' : y.category = 1) (K : Go p e below P (T.setTop (mkF m pc' L (x :: y :: x :: S)))) : Go p e below P (T.setTop (mkF m pc L (x :: y :: S))) := by
  subst hp; exact K.via fun t k => XS.dupX1 X.here hx rfl hd rfl hc hc' k
theorem o_iinc (X : Stand p l e R s m args below meth c T locs cells slots) (hx : p.tables.exec = Jvm.exec) {k : Nat} {i : Int} {v v' : Int32} (hd : decode c.code pc = .ok (.iinc k i, 3)) (hp : pc + 3 = pc') (hl : L[k]? = some (.val (.int v))) (hv : v + Int32.ofInt i = v') (hs : storeLocals L k (.int v') = some L') (K : Go p e below P (T.setTop (mkF m pc' L' S))) : Go p e below P (T.setTop (mkF m pc L S)) := by
  subst hp hv; exact K.via fun t k => XS.iinc X.here hx rfl hd hl hs k
theorem o_goto (X : Stand p l e R s m args below meth c T locs cells slots) (hx : p.tables.exec = Jvm.exec) {o : Int} (hd : decode c.code pc = .ok (.goto o, 3)) (ho : 0 ≤ (pc : Int) + o) (hp : ((pc : Int) + o).toNat = pc') (K : Go p e below P (T.setTop (mkF m pc' L S))) : Go p e below P (T.setTop (mkF m pc L S)) :=
  K.via fun t k => XS.goto X.here hx rfl rfl hd ho hp k
theorem o_ifY (X : Stand p l e R s m args below meth c T locs cells slots) (hx : p.tables.exec = Jvm.exec) {cd : ClassFile.Cond} {x : Int32} {o : Int} (hd : decode c.code pc = .ok (.ifCond cd o, 3)) (hc : if_icmp.holds cd x 0 = true) (ho : 0 ≤ (pc : Int) + o) (hp : ((pc : Int) + o).toNat = pc') (K : Go p e below P (T.setTop (mkF m pc' L S))) : Go p e below P (T.setTop (mkF m pc L (.int x :: S))) :=
  K.via fun t k => XS.ifYes X.here hx rfl rfl hd rfl ((if0 _ _).trans hc) ho hp k
theorem o_ifN (X : Stand p l e R s m args below meth c T locs cells slots) (hx : p.tables.exec = Jvm.exec) {cd : ClassFile.Cond} {x : Int32} {o : Int} (hd : decode c.code pc = .ok (.ifCond cd o, 3)) (hc : if_icmp.holds cd x 0 = false) (hp : pc + 3 = pc') (K : Go p e below P (T.setTop (mkF m pc' L S))) : Go p e below P (T.setTop (mkF m pc L (.int x :: S))) := by
  subst hp; exact K.via fun t k => XS.ifNo X.here hx rfl hd rfl ((if0 _ _).trans hc) k
theorem o_cmpY (X : Stand p l e R s m args below meth c T locs cells slots) (hx : p.tables.exec = Jvm.exec) {cd : ClassFile.Cond} {x y : Int32} {o : Int} (hd : decode c.code pc = .ok (.if_icmp cd o, 3)) (hc : if_icmp.holds cd x y = true) (ho : 0 ≤ (pc : Int) + o) (hp : ((pc : Int) + o).toNat = pc') (K : Go p e below P (T.setTop (mkF m pc' L S))) : Go p e below P (T.setTop (mkF m pc L (.int y :: .int x :: S))) :=
  K.via fun t k => XS.icmpYes X.here hx rfl rfl hd rfl hc ho hp k
theorem o_cmpN (X : Stand p l e R s m args below meth c T locs cells slots) (hx : p.tables.exec = Jvm.exec) {cd : ClassFile.Cond} {x y : Int32} {o : Int} (hd : decode c.code pc = .ok (.if_icmp cd o, 3)) (hc : if_icmp.holds cd x y = false) (hp : pc + 3 = pc') (K : Go p e below P (T.setTop (mkF m pc' L S))) : Go p e below P (T.setTop (mkF m pc L (.int y :: .int x :: S))) := by
  subst hp; exact K.via fun t k => XS.icmpNo X.here hx rfl hd rfl hc k
theorem o_lcmp (X : Stand p l e R s m args below meth c T locs cells slots) (hx : p.tables.exec = Jvm.exec) {x y : Int64} (hd : decode c.code pc = .ok (.lcmp, 1)) (hp : pc + 1 = pc') (K : Go p e below P (T.setTop (mkF m pc' L (.int (lcmpW x y) :: S)))) : Go p e below P (T.setTop (mkF m pc L (.long y :: .long x :: S))) := by
  subst hp; exact K.via fun t k => XS.lcmp X.here hx rfl hd rfl k
theorem tltL {x y : Int64} (q : x < y) : if_icmp.holds .lt (lcmpW x y) 0 = true ∧ if_icmp.holds .ge (lcmpW x y) 0 = false ∧ if_icmp.holds .gt (lcmpW y x) 0 = true ∧ if_icmp.holds .le (lcmpW y x) 0 = false :=
  ⟨(tlt ((lw_lt x y).mpr q)).1, (tlt ((lw_lt x y).mpr q)).2.1, (tlt ((lw_gt y x).mpr q)).2.2.1, (tlt ((lw_gt y x).mpr q)).2.2.2⟩
theorem fltL {x y : Int64} (q : ¬ x < y) : if_icmp.holds .lt (lcmpW x y) 0 = false ∧ if_icmp.holds .ge (lcmpW x y) 0 = true ∧ if_icmp.holds .gt (lcmpW y x) 0 = false ∧ if_icmp.holds .le (lcmpW y x) 0 = true :=
  ⟨(flt (mt (lw_lt x y).mp q)).1, (flt (mt (lw_lt x y).mp q)).2.1, (flt (mt (lw_gt y x).mp q)).2.2.1, (flt (mt (lw_gt y x).mp q)).2.2.2⟩
theorem teqL {x y : Int64} (q : x = y) : if_icmp.holds .eq (lcmpW x y) 0 = true ∧ if_icmp.holds .ne (lcmpW x y) 0 = false := teq ((lw_eq x y).mpr q)
theorem feqL {x y : Int64} (q : ¬ x = y) : if_icmp.holds .eq (lcmpW x y) 0 = false ∧ if_icmp.holds .ne (lcmpW x y) 0 = true := feq (mt (lw_eq x y).mp q)
theorem o_ldcJ (X : Stand p l e R s m args below meth c T locs cells slots) (hx : p.tables.exec = Jvm.exec) (hZ : Z.Warmed39 s.vm) {own : String} {index : Nat} (v : Int64) (hown : s.vm.findClass own = some m.cls) (w : (Cond.constantLong own index v).before a0 Z = true) (hd : decode c.code pc = .ok (.ldc2_w index, 3)) (hp : pc + 3 = pc') (K : Go p e below P (T.setTop (mkF m pc' L (.long v :: S)))) : Go p e below P (T.setTop (mkF m pc L S)) := by
  subst hp; exact K.via (X.ldc2Long hx hown (mvT hZ w) (g := mkF m pc L S) rfl hd)
/-- what a body's end owes -/
abbrev Owe (s : State) (Q : Option Value → Heap → List Loc → Prop) (C D : Nat) : Outcome → State → Prop := fun o U' => ∃ v L, o = .returned v ∧ Q v U'.heap L ∧ FrameEnd s o U' L C D
/-- a body's contract -/
abbrev Con (l : Launch) (y : MethodName) (bytes : ByteArray) (ml : Nat) (ret : Option FieldType) (ws : List Jvm.Cond) (rm : Room) (as' : Array Value) (Z : State) (h0 : Heap) (Q : Option Value → Heap → List Loc → Prop) (C D : Nat) : Prop :=
  MetFree l y (head1 (Jvm.Cond.code y bytes ml ret :: ws) rm) (fun b U => b = as' ∧ Z.Warmed39 U.vm ∧ U.heap = h0) (fun _ _ _ _ _ => True) (fun _ U o U' => ∃ v L, o = .returned v ∧ Q v U'.heap L ∧ FrameEnd U o U' L C D)
theorem own_body {y : MethodName} {bytes : ByteArray} {ml : Nat} {ret : Option FieldType} {ws : List Jvm.Cond} {rm : Room} {as' : Array Value} {h0 : Heap} {Q : Option Value → Heap → List Loc → Prop} {C D : Nat} (hpl : plainFor y = true)
    (K : ∀ (p : Program) (e : Env) (s : State) (m : MethodId) (below : List Frame) (meth : Method) (c : Code) (s₁ : State), p.tables.exec = Jvm.exec → c.code = bytes → meth.locks = false → c.maxLocals = ml → s.vm.findClass y.cls = some m.cls → meth.name = y.name → meth.sig.returnType = ret → Z.Warmed39 s.vm →
      Stand p l e rm s m as' below meth c s₁ [] 0 0 → s₁.heap = h0 → Go p e below (Owe s Q C D) (s₁.setTop (entryFrame m as' ml))) : Con l y bytes ml ret ws rm as' Z h0 Q C D := by
  refine MetFree.of_bodySF hpl hisR ?_
  intro p e s m args below meth c s₁ Bd hml0 hP hK
  obtain ⟨rfl, hZ, hh⟩ := hP
  exact K p e s m below meth c s₁ Bd.exec Bd.bytes (BodyLoose.notSynchronized Bd) hml0 (findClass_of_methodNamed Bd.named) (name_of_methodNamed Bd.named Bd.method).1 Bd.returns hZ (Stand.of_body Bd) (by rw [← hh, Bd.state]; rfl)
theorem o_ret (X : Stand p l e R s m args below meth c T locs cells slots) (hx : p.tables.exec = Jvm.exec) {Q : Option Value → Heap → List Loc → Prop} {C D : Nat} {w : Value} {t : FieldType} {i : Instr} (hlocks : meth.locks = false) (hret : meth.sig.returnType = some t) (hn : narrow t w = w)
    (hi : (i = .ireturn ∧ (t = .int ∨ t = .boolean ∨ t = .byte ∨ t = .char ∨ t = .short) ∧ ∃ z, w = .int z) ∨ (i = .lreturn ∧ t = .long ∧ ∃ z, w = .long z) ∨ (i = .dreturn ∧ t = .double ∧ ∃ z, w = .double z) ∨ (i = .freturn ∧ t = .float ∧ ∃ z, w = .float z) ∨ (i = .areturn ∧ t.isReference = true ∧ w.isRef = true))
    (hd : decode c.code pc = .ok (i, 1)) (hc : cells ≤ C) (hs : slots ≤ D) (hq : Q (some w) T.heap locs) : Go p e below (Owe s Q C D) (T.setTop (mkF m pc L (w :: S))) := by
  obtain ⟨fs, hr, hrun, hended, hW, hsame⟩ := X.leave (v := some w) (fun h => by rw [hret] at h; cases h) hlocks
  exact ⟨_, _, retOut X hx hret hn hi hd hr, hrun, hended, _, _, rfl, hq, ⟨_, rfl⟩, hW, hsame.mono hc hs⟩
theorem o_retI (X : Stand p l e R s m args below meth c T locs cells slots) (hx : p.tables.exec = Jvm.exec) {Q : Option Value → Heap → List Loc → Prop} {C D : Nat} {z : Int32} (hlocks : meth.locks = false) (hret : meth.sig.returnType = some .int) (hd : decode c.code pc = .ok (.ireturn, 1)) (hc : cells ≤ C) (hs : slots ≤ D) (hq : Q (some (.int z)) T.heap locs) : Go p e below (Owe s Q C D) (T.setTop (mkF m pc L (.int z :: S))) :=
  o_ret X hx hlocks hret rfl (Or.inl ⟨rfl, Or.inl rfl, z, rfl⟩) hd hc hs hq
theorem o_retZ (X : Stand p l e R s m args below meth c T locs cells slots) (hx : p.tables.exec = Jvm.exec) {Q : Option Value → Heap → List Loc → Prop} {C D : Nat} {z : Int32} (hz : narrow .boolean (.int z) = .int z) (hlocks : meth.locks = false) (hret : meth.sig.returnType = some .boolean) (hd : decode c.code pc = .ok (.ireturn, 1)) (hc : cells ≤ C) (hs : slots ≤ D) (hq : Q (some (.int z)) T.heap locs) : Go p e below (Owe s Q C D) (T.setTop (mkF m pc L (.int z :: S))) :=
  o_ret X hx hlocks hret hz (Or.inl ⟨rfl, Or.inr (Or.inl rfl), z, rfl⟩) hd hc hs hq
theorem o_retV (X : Stand p l e R s m args below meth c T locs cells slots) (hx : p.tables.exec = Jvm.exec) {Q : Option Value → Heap → List Loc → Prop} {C D : Nat} (hlocks : meth.locks = false) (hret : meth.sig.returnType = none) (hd : decode c.code pc = .ok (.return_, 1)) (hc : cells ≤ C) (hs : slots ≤ D) (hq : Q none T.heap locs) : Go p e below (Owe s Q C D) (T.setTop (mkF m pc L [])) := by
  obtain ⟨fs, hr, hrun, hended, hW, hsame⟩ := X.leave (v := none) (fun _ => rfl) hlocks
  exact ⟨_, _, X.returnOut hx hret hd hr, hrun, hended, _, _, rfl, hq, ⟨_, rfl⟩, hW, hsame.mono hc hs⟩
theorem o_callS (X : Stand p l e R s m args below meth c T locs cells slots) (hx : p.tables.exec = Jvm.exec) (hZ : Z.Warmed39 s.vm) {own : String} {index : Nat} {y : MethodName} {bytes : ByteArray} {maxL : Nat} {ret : Option FieldType} {rm : Room} (W : Nat) {argsL rest : List Value} {Q : Option Value → Heap → List Loc → Prop} {cells' slots' : Nat}
    (hown : s.vm.findClass own = some m.cls) (w1 : (Cond.methodLink own index y).before a0 Z = true) (w2 : (Cond.static y).before a0 Z = true) (w3 : (Cond.initialized y.cls).before a0 Z = true) (w4 : (Cond.code y bytes maxL ret).before a0 Z = true) (hy : y.cls ≠ "java/lang/invoke/MethodHandle" ∧ y.cls ≠ "java/lang/invoke/VarHandle")
    (hM : MetFree l y (head1 [Cond.code y bytes maxL ret] rm) (fun a U => a = argsL.toArray ∧ Z.Warmed39 U.vm ∧ U.heap = h) (fun _ _ _ _ _ => True) (fun _ U o U' => ∃ v L, o = .returned v ∧ Q v U'.heap L ∧ FrameEnd U o U' L rm.cells rm.slots))
    (hf : rm.frames + 1 ≤ R.frames) (hl : W + (maxL + 11) + rm.locals ≤ R.locals) (hcc : cells + rm.cells = cells') (hss : slots + rm.slots = slots') (hc : cells' ≤ R.cells) (hs : slots' ≤ R.slots) (eT : T.heap = h) (hsize : L.size = c.maxLocals) (hlen : ∀ sig, parseMethodDescriptor y.desc = some sig → argsL.length = sig.parameters.length) (hstk : S = argsL.reverse ++ rest)
    (hW : (rest.map fun v => v.category).sum = W) (hd : decode c.code pc = .ok (.invokestatic index, 3)) (hp : pc + 3 = pc') (K : ∀ T' v Lc, Stand p l e R s m args below meth c T' (locs ++ Lc) cells' slots' → Q v T'.heap Lc → Go p e below P (T'.setTop (mkF m pc' L (v.toList ++ rest)))) : Go p e below P (T.setTop (mkF m pc L S)) := by
  subst hp hcc hss
  obtain ⟨v, _, ⟨T', L', k', n'⟩, -, X', ⟨Lc, hQ, l', y', z'⟩, st⟩ := Jvm.LawKit.callS X hx hown (mvT hZ w1) (mvT hZ w2) (mvT hZ w3) (mvT hZ w4) hy (backOf (W := W) hM hZ w4 w3 hf hl) (g := mkF m pc L S) rfl hsize (argsL := argsL) (rest := rest) hlen hstk (by show 2 * 0 + _ ≤ _; rw [hW]; exact Nat.le_of_eq (by simp)) hd (fun _ _ => ⟨rfl, eT, hc, hs⟩)
  dsimp only [Pt.U, Pt.locs, Pt.cells, Pt.slots] at X' l' y' z' st hQ
  subst l' y' z'
  exact (K T' v Lc X' hQ).via st
theorem o_callI (X : Stand p l e R s m args below meth c T locs cells slots) (hx : p.tables.exec = Jvm.exec) (hZ : Z.Warmed39 s.vm) {own : String} {index : Nat} {y : MethodName} {bytes : ByteArray} {maxL : Nat} {rm : Room} (W : Nat) {argsL rest : List Value} {a : Addr} {Q : Option Value → Heap → List Loc → Prop} {cells' slots' : Nat}
    (hn : y.name = "<init>") (hown : s.vm.findClass own = some m.cls) (w1 : (Cond.methodLink own index y).before a0 Z = true) (w2 : (Cond.instanceMethod y).before a0 Z = true) (w3 : (Cond.initialized y.cls).before a0 Z = true) (w4 : (Cond.code y bytes maxL none).before a0 Z = true) (hy : y.cls ≠ "java/lang/invoke/MethodHandle" ∧ y.cls ≠ "java/lang/invoke/VarHandle")
    (hM : MetFree l y (head1 [Cond.code y bytes maxL none] rm) (fun b U => b = (.ref a :: argsL).toArray ∧ Z.Warmed39 U.vm ∧ U.heap = h) (fun _ _ _ _ _ => True) (fun _ U o U' => ∃ v L, o = .returned v ∧ Q v U'.heap L ∧ FrameEnd U o U' L rm.cells rm.slots))
    (hf : rm.frames + 1 ≤ R.frames) (hl : W + (maxL + 11) + rm.locals ≤ R.locals) (hcc : cells + rm.cells = cells') (hss : slots + rm.slots = slots') (hc : cells' ≤ R.cells) (hs : slots' ≤ R.slots) (eT : T.heap = h) (hsize : L.size = c.maxLocals) (hlen : ∀ sig, parseMethodDescriptor y.desc = some sig → argsL.length = sig.parameters.length) (hstk : S = argsL.reverse ++ .ref a :: rest)
    (hW : (rest.map fun v => v.category).sum = W) (hd : decode c.code pc = .ok (.invokespecial index, 3)) (hp : pc + 3 = pc') (K : ∀ T' v Lc, Stand p l e R s m args below meth c T' (locs ++ Lc) cells' slots' → Q v T'.heap Lc → Go p e below P (T'.setTop (mkF m pc' L (v.toList ++ rest)))) : Go p e below P (T.setTop (mkF m pc L S)) := by
  subst hp hcc hss
  obtain ⟨v, _, ⟨T', L', k', n'⟩, -, X', ⟨Lc, hQ, l', y', z'⟩, st⟩ := X.specialBack hx hn hown (mvT hZ w1) (mvT hZ w2) (mvT hZ w4) hy (backOf (W := W) hM hZ w4 w3 hf hl) (g := mkF m pc L S) rfl hsize (Steps.refl _) (a := a) (argsL := argsL) (rest := rest) hlen hstk (by show 2 * 0 + _ ≤ _; rw [hW]; exact Nat.le_of_eq (by simp)) hd (fun _ _ => ⟨rfl, eT, hc, hs⟩)
  dsimp only [Pt.U, Pt.locs, Pt.cells, Pt.slots] at X' l' y' z' st hQ
  subst l' y' z'
  exact (K T' v Lc X' hQ).tr st
theorem o_callV (X : Stand p l e R s m args below meth c T locs cells slots) (hx : p.tables.exec = Jvm.exec) (hZ : Z.Warmed39 s.vm) {own C : String} {index : Nat} {y : MethodName} {bytes : ByteArray} {maxL : Nat} {ret : Option FieldType} {rm : Room} (W : Nat) {argsL rest : List Value} {a : Addr} {Q : Option Value → Heap → List Loc → Prop} {cells' slots' : Nat}
    (hown : s.vm.findClass own = some m.cls) (w1 : (Cond.methodLink own index y).before a0 Z = true) (w2 : (Cond.declares y).before a0 Z = true) (w5 : (Cond.selects C y y).before a0 Z = true) (w6 : (Cond.instanceMethod y).before a0 Z = true) (w3 : (Cond.initialized y.cls).before a0 Z = true) (w4 : (Cond.code y bytes maxL ret).before a0 Z = true) (hy : y.cls ≠ "java/lang/invoke/MethodHandle" ∧ y.cls ≠ "java/lang/invoke/VarHandle")
    (hM : MetFree l y (head1 [Cond.code y bytes maxL ret] rm) (fun b U => b = (.ref a :: argsL).toArray ∧ Z.Warmed39 U.vm ∧ U.heap = h) (fun _ _ _ _ _ => True) (fun _ U o U' => ∃ v L, o = .returned v ∧ Q v U'.heap L ∧ FrameEnd U o U' L rm.cells rm.slots))
    (hE : Exa Z h a C) (hf : rm.frames + 1 ≤ R.frames) (hl : W + (maxL + 11) + rm.locals ≤ R.locals) (hcc : cells + rm.cells = cells') (hss : slots + rm.slots = slots') (hc : cells' ≤ R.cells) (hs : slots' ≤ R.slots) (eT : T.heap = h) (hsize : L.size = c.maxLocals) (hlen : ∀ sig, parseMethodDescriptor y.desc = some sig → argsL.length = sig.parameters.length) (hstk : S = argsL.reverse ++ .ref a :: rest)
    (hW : (rest.map fun v => v.category).sum = W) (hd : decode c.code pc = .ok (.invokevirtual index, 3)) (hp : pc + 3 = pc') (K : ∀ T' v Lc, Stand p l e R s m args below meth c T' (locs ++ Lc) cells' slots' → Q v T'.heap Lc → Go p e below P (T'.setTop (mkF m pc' L (v.toList ++ rest)))) : Go p e below P (T.setTop (mkF m pc L S)) := by
  subst hp hcc hss
  obtain ⟨cq, kq, qa, qb, qc⟩ := isOf hZ eT hE
  obtain ⟨v, _, ⟨T', L', k', n'⟩, -, X', ⟨Lc, hQ, l', y', z'⟩, st⟩ := X.virtualBack hx (y := y) (z := y) hown (mvT hZ w1) (mvT hZ w2) (notFace_of_selects (args := #[]) (mvT hZ w5)) (mvT hZ w5) (mvT hZ w6) hy (backOf (W := W) hM hZ w4 w3 hf hl) qa qc (g := mkF m pc L S) rfl hsize (Steps.refl _) (argsL := argsL) (rest := rest) hlen hstk (by show 2 * 0 + _ ≤ _; rw [hW]; exact Nat.le_of_eq (by simp)) hd (fun _ _ => ⟨rfl, eT, hc, hs⟩)
  dsimp only [Pt.U, Pt.locs, Pt.cells, Pt.slots] at X' l' y' z' st hQ
  subst l' y' z'
  exact (K T' v Lc X' hQ).tr st
theorem o_new (X : Stand p l e R s m args below meth c T locs cells slots) (hx : p.tables.exec = Jvm.exec) (hZ : Z.Warmed39 s.vm) {own C : String} {index n : Nat} {cells' slots' : Nat} (hown : s.vm.findClass own = some m.cls) (w1 : (Cond.classLink own index C).before a0 Z = true) (w2 : (Cond.instantiable C n).before a0 Z = true) (w3 : (Cond.initialized C).before a0 Z = true) (eT : T.heap = h)
    (hd : decode c.code pc = .ok (.new index, 3)) (hp : pc + 3 = pc') (hcc : cells + 1 = cells') (hss : slots + n = slots') (hc : cells' ≤ R.cells) (hs : slots' ≤ R.slots)
    (K : ∀ T' h' a, a = h.size → Stand p l e R s m args below meth c T' locs cells' slots' → T'.heap = h' → Ext h h' → Exa Z h' a C → (∀ {O nm d : String} {ty : FieldType}, Laid Z a0 C O nm d → parseFieldDescriptor d = some ty → Fld Z h' a O nm d (defaultValue ty)) → Go p e below P (T'.setTop (mkF m pc' L (.ref a :: S)))) : Go p e below P (T.setTop (mkF m pc L S)) := by
  subst hp hcc hss
  obtain ⟨T', h', X', e', E', A', D', -, st⟩ := newO X hx hZ hown w1 w2 w3 eT (g := mkF m pc L S) rfl hd hc hs
  exact (K T' h' h.size rfl X' e' E' A' D').via st
theorem o_initO (X : Stand p l e R s m args below meth c T locs cells slots) (hx : p.tables.exec = Jvm.exec) (hZ : Z.Warmed39 s.vm) {own : String} {index : Nat} {a : Addr} (W : Nat) (hown : s.vm.findClass own = some m.cls) (w1 : (Cond.methodLink own index Lib.objectInit).before a0 Z = true) (w2 : (Cond.instanceMethod Lib.objectInit).before a0 Z = true) (w3 : (Cond.code Lib.objectInit ⟨#[0xb1]⟩ 1 none).before a0 Z = true) (eT : T.heap = h) (hsize : L.size = c.maxLocals)
    (hd : decode c.code pc = .ok (.invokespecial index, 3)) (hp : pc + 3 = pc') (hf : 1 ≤ R.frames) (hW : (S.map fun v => v.category).sum = W) (hl : W + 12 ≤ R.locals) (K : ∀ T', Stand p l e R s m args below meth c T' locs cells slots → T'.heap = h → Go p e below P (T'.setTop (mkF m pc' L S))) : Go p e below P (T.setTop (mkF m pc L (.ref a :: S))) := by
  subst hp
  obtain ⟨T', X', e', st⟩ := initO X hx hZ hown w1 w2 w3 eT (g := mkF m pc L (.ref a :: S)) rfl hsize rfl hd hf (W := W) (by show 2 * 0 + _ ≤ _; rw [hW]; exact Nat.le_of_eq (by simp)) hl
  exact (K T' X' e').via st
theorem o_getF (X : Stand p l e R s m args below meth c T locs cells slots) (hx : p.tables.exec = Jvm.exec) (hZ : Z.Warmed39 s.vm) {own O n d : String} {index : Nat} {a : Addr} {v : Value} (hown : s.vm.findClass own = some m.cls) (w : (Cond.fieldLink own index O n d).before a0 Z = true) (eT : T.heap = h) (F : Fld Z h a O n d v) (hd : decode c.code pc = .ok (.getfield index, 3)) (hp : pc + 3 = pc')
    (K : ∀ T', Stand p l e R s m args below meth c T' locs cells slots → T'.heap = h → Go p e below P (T'.setTop (mkF m pc' L (v :: S)))) : Go p e below P (T.setTop (mkF m pc L (.ref a :: S))) := by
  subst hp
  obtain ⟨T', X', e', st⟩ := getF X hx hZ hown (host := "") (Or.inl w) Via.refl eT F (g := mkF m pc L (.ref a :: S)) rfl rfl hd
  exact (K T' X' e').via st
theorem o_putF (X : Stand p l e R s m args below meth c T locs cells slots) (hx : p.tables.exec = Jvm.exec) (hZ : Z.Warmed39 s.vm) {own O n d C : String} {index kk : Nat} {a : Addr} {v old : Value} {ty : FieldType} (hown : s.vm.findClass own = some m.cls) (w : (Cond.fieldLink own index O n d).before a0 Z = true) (eT : T.heap = h) (F : Fld Z h a O n d old) (E : Exa Z h a C)
    (LL : (Cond.lays C O n d).before a0 Z = true ∨ ((Cond.laysFinal C O n d).before a0 Z = true ∧ own = O ∧ meth.name = "<init>")) (wi : (Cond.instantiable C kk).before a0 Z = true) (hty : parseFieldDescriptor d = some ty) (hn : narrow ty v = v) (hf : fits ty v = true) (hd : decode c.code pc = .ok (.putfield index, 3)) (hp : pc + 3 = pc')
    (K : ∀ T' h', Stand p l e R s m args below meth c T' (locs ++ [⟨a, Jvm.RoadKit.slotOf Z O n d⟩]) cells slots → T'.heap = h' → Wr h h' a (Jvm.RoadKit.slotOf Z O n d) v → Go p e below P (T'.setTop (mkF m pc' L S))) : Go p e below P (T.setTop (mkF m pc L (v :: .ref a :: S))) := by
  subst hp
  obtain ⟨T', h', X', e', W', st⟩ := putF X hx hZ hown (host := "") (Or.inl w) Via.refl eT F E LL wi hty hn hf (g := mkF m pc L (v :: .ref a :: S)) rfl rfl hd
  exact (K T' h' X' e' W').via st
theorem o_newP (X : Stand p l e R s m args below meth c T locs cells slots) (hx : p.tables.exec = Jvm.exec) (hZ : Z.Warmed39 s.vm) {aty : ArrayType} {n : Int32} {cells' slots' : Nat} (cap : Nat) (w : (Cond.arrayClass (newarray.typeOf aty)).before a0 Z = true) (eT : T.heap = h) (hd : decode c.code pc = .ok (.newarray aty, 2)) (hp : pc + 2 = pc') (hn : ¬ n < 0) (hcap : n.toNatClampNeg ≤ cap) (hb : cap * 8 ≤ 536870912) (hcc : cells + 1 = cells') (hss : slots + cap = slots') (hc : cells' ≤ R.cells) (hs : slots' ≤ R.slots)
    (K : ∀ T' h' a k, a = h.size → Stand p l e R s m args below meth c T' locs cells' slots' → T'.heap = h' → Ext h h' → Arv Z h' a k (newarray.typeOf aty) n [] (defaultValue (newarray.typeOf aty)) → Go p e below P (T'.setTop (mkF m pc' L (.ref a :: S)))) : Go p e below P (T.setTop (mkF m pc L (.int n :: S))) := by
  subst hp hcc hss
  obtain ⟨T', h', cA, X', e', E', A', st⟩ := newP X hx hZ w eT (g := mkF m pc L (.int n :: S)) rfl hd rfl hn hcap hb hc hs
  exact (K T' h' h.size cA rfl X' e' E' (Arv.new A' hn)).via st
theorem o_newPE (X : Stand p l e R s m args below meth c T locs cells slots) (hx : p.tables.exec = Jvm.exec) (hZ : Z.Warmed39 s.vm) {aty : ArrayType} {n : Int32} {cells' slots' : Nat} (cap : Nat) (w : (Cond.arrayClass (newarray.typeOf aty)).before a0 Z = true) (eT : T.heap = h) (hd : decode c.code pc = .ok (.newarray aty, 2)) (hp : pc + 2 = pc') (hn : ¬ n < 0) (hcap : n.toNatClampNeg ≤ cap) (hb : cap * 8 ≤ 536870912) (hcc : cells + 1 = cells') (hss : slots + cap = slots') (hc : cells' ≤ R.cells) (hs : slots' ≤ R.slots) {ad : String} (had : "[" ++ (newarray.typeOf aty).toString = ad)
    (K : ∀ T' h' a k, a = h.size → Stand p l e R s m args below meth c T' locs cells' slots' → T'.heap = h' → Ext h h' → Arv Z h' a k (newarray.typeOf aty) n [] (defaultValue (newarray.typeOf aty)) → Exa Z h' a ad → Go p e below P (T'.setTop (mkF m pc' L (.ref a :: S)))) : Go p e below P (T.setTop (mkF m pc L (.int n :: S))) := by
  subst hp hcc hss
  obtain ⟨T', h', cA, X', e', E', A', B', st⟩ := newPE X hx hZ w eT (g := mkF m pc L (.int n :: S)) rfl hd rfl hn hcap hb hc hs had
  exact (K T' h' h.size cA rfl X' e' E' (Arv.new A' hn) B').via st
theorem own_inb {Zx : State} {hh : Heap} {a : Addr} {k : ClassId} {ty : FieldType} {n j : Int32} {vs : List Value} {d : Value} (hj : ¬ j < 0 ∧ j < n) (V : Arv Zx hh a k ty n vs d) : ∃ cl : Cell, Arr Zx hh a cl ty ∧ cl.cls = k ∧ cl.slots.size = n.toNatClampNeg ∧ ¬ n < 0 ∧ Has cl vs d ∧ (∀ i, i < cl.slots.size → fits ty (vs.getD i d) = true) ∧ ¬ (j < 0 ∨ cl.slots.size ≤ j.toNatClampNeg) ∧ cl.slots[j.toNatClampNeg]? = some (vs.getD j.toNatClampNeg d) := by
  obtain ⟨cl, h1, h2, h3, h4, h5, h6⟩ := V
  have hin := inb_of h3 hj
  exact ⟨cl, h1, h2, h3, h4, h5, h6, hin, h5.at hin rfl⟩
theorem o_laload (X : Stand p l e R s m args below meth c T locs cells slots) (hx : p.tables.exec = Jvm.exec) (hZ : Z.Warmed39 s.vm) {a : Addr} {k : ClassId} {n j : Int32} {vs : List Value} {d : Value} (v : Value) (eT : T.heap = h) (V : Arv Z h a k .long n vs d) (hj : ¬ j < 0 ∧ j < n) (hv : vs.getD j.toNatClampNeg d = v) (hd : decode c.code pc = .ok (.laload, 1)) (hp : pc + 1 = pc') (K : Go p e below P (T.setTop (mkF m pc' L (v :: S)))) : Go p e below P (T.setTop (mkF m pc L (.int j :: .ref a :: S))) := by
  subst hp hv
  obtain ⟨cl, A, -, -, -, -, -, hin, hat⟩ := own_inb hj V
  exact K.via fun t k => X.laload hx (j := j) (by rw [eT]; exact A.1) (State.isArrayOf_alike hZ.alike A.2.1) A.2.2 hin hat (g := mkF m pc L (.int j :: .ref a :: S)) rfl rfl hd t k
theorem o_lastore (X : Stand p l e R s m args below meth c T locs cells slots) (hx : p.tables.exec = Jvm.exec) (hZ : Z.Warmed39 s.vm) {a : Addr} {k : ClassId} {n j : Int32} {x : Int64} {vs vs' : List Value} {d : Value} (i : Nat) (eT : T.heap = h) (V : Arv Z h a k .long n vs d) (hj : ¬ j < 0 ∧ j < n) (hji : j.toNatClampNeg = i) (hi : i < vs.length) (hvs : vs.set i (.long x) = vs') (hd : decode c.code pc = .ok (.lastore, 1)) (hp : pc + 1 = pc')
    (K : ∀ T' h', Stand p l e R s m args below meth c T' (locs ++ [⟨a, i⟩]) cells slots → T'.heap = h' → Wr h h' a i (.long x) → Arv Z h' a k .long n vs' d → Go p e below P (T'.setTop (mkF m pc' L S))) : Go p e below P (T.setTop (mkF m pc L (.long x :: .int j :: .ref a :: S))) := by
  subst hp hvs hji
  obtain ⟨cl, A, q1, q2, q3, q4, q5, hin, hat⟩ := own_inb hj V
  obtain ⟨T', h', X', e', W', st⟩ := stJ X hx hZ eT A hin (g := mkF m pc L (.long x :: .int j :: .ref a :: S)) rfl rfl hd
  exact (K T' h' X' e' W' (Arv.set A q1 q2 q3 q4 q5 rfl W' _ rfl hi)).via st
theorem o_arraylength (X : Stand p l e R s m args below meth c T locs cells slots) (hx : p.tables.exec = Jvm.exec) (hZ : Z.Warmed39 s.vm) {a : Addr} {k : ClassId} {n : Int32} {ty : FieldType} {vs : List Value} {d : Value} (eT : T.heap = h) (V : Arv Z h a k ty n vs d) (hd : decode c.code pc = .ok (.arraylength, 1)) (hp : pc + 1 = pc') (K : Go p e below P (T.setTop (mkF m pc' L (.int n :: S)))) : Go p e below P (T.setTop (mkF m pc L (.ref a :: S))) := by
  subst hp
  obtain ⟨cl, A, q1, q2, q3, q4, q5⟩ := V
  rw [← len_of q2 q3] at K
  exact K.via fun t k => X.arraylength hx (by rw [eT]; exact A.1) (State.isArrayOf_alike hZ.alike A.2.1) (g := mkF m pc L (.ref a :: S)) rfl rfl hd t k
theorem o_aaload (X : Stand p l e R s m args below meth c T locs cells slots) (hx : p.tables.exec = Jvm.exec) (hZ : Z.Warmed39 s.vm) {a : Addr} {k : ClassId} {n j : Int32} {ty : FieldType} {vs : List Value} {d : Value} (v : Value) (eT : T.heap = h) (V : Arv Z h a k ty n vs d) (hty : ty.isReference = true) (hj : ¬ j < 0 ∧ j < n) (hv : vs.getD j.toNatClampNeg d = v) (hd : decode c.code pc = .ok (.aaload, 1)) (hp : pc + 1 = pc') (K : Go p e below P (T.setTop (mkF m pc' L (v :: S)))) : Go p e below P (T.setTop (mkF m pc L (.int j :: .ref a :: S))) := by
  subst hp hv
  obtain ⟨cl, A, -, -, -, -, -, hin, hat⟩ := own_inb hj V
  exact K.via fun t k => X.aaload hx (j := j) (by rw [eT]; exact A.1) (State.isArrayOf_alike hZ.alike A.2.1) hty A.2.2 hin hat (g := mkF m pc L (.int j :: .ref a :: S)) rfl rfl hd t k
theorem o_aastore (X : Stand p l e R s m args below meth c T locs cells slots) (hx : p.tables.exec = Jvm.exec) (hZ : Z.Warmed39 s.vm) {a : Addr} {k : ClassId} {n j : Int32} {ty : FieldType} {v : Value} {vs vs' : List Value} {d : Value} (i : Nat) (eT : T.heap = h) (V : Arv Z h a k ty n vs d) (hty : ty.isReference = true) (F : ∀ cl : Cell, Arr Z h a cl ty → cl.cls = k → Sto Z h a v) (hj : ¬ j < 0 ∧ j < n) (hji : j.toNatClampNeg = i) (hi : i < vs.length) (hft : fits ty v = true) (hvs : vs.set i v = vs') (hd : decode c.code pc = .ok (.aastore, 1)) (hp : pc + 1 = pc')
    (K : ∀ T' h', Stand p l e R s m args below meth c T' (locs ++ [⟨a, i⟩]) cells slots → T'.heap = h' → Wr h h' a i v → Arv Z h' a k ty n vs' d → Go p e below P (T'.setTop (mkF m pc' L S))) : Go p e below P (T.setTop (mkF m pc L (v :: .int j :: .ref a :: S))) := by
  subst hp hvs hji
  obtain ⟨cl, A, q1, q2, q3, q4, q5, hin, hat⟩ := own_inb hj V
  obtain ⟨T', h', X', e', W', st⟩ := stR X hx hZ eT A hin hty (F cl A q1) (g := mkF m pc L (v :: .int j :: .ref a :: S)) rfl rfl hd
  exact (K T' h' X' e' W' (Arv.set A q1 q2 q3 q4 q5 hft W' _ rfl hi)).via st
theorem o_newR (X : Stand p l e R s m args below meth c T locs cells slots) (hx : p.tables.exec = Jvm.exec) (hZ : Z.Warmed39 s.vm) {own C : String} {index : Nat} {n : Int32} {cells' slots' : Nat} (cap : Nat) (hown : s.vm.findClass own = some m.cls) (w1 : (Cond.classLink own index C).before a0 Z = true) (w2 : (Cond.arrayOver (.object C)).before a0 Z = true) (eT : T.heap = h) (hd : decode c.code pc = .ok (.anewarray index, 3)) (hp : pc + 3 = pc') (hn : ¬ n < 0) (hcap : n.toNatClampNeg ≤ cap) (hb : cap * 8 ≤ 536870912) (hcc : cells + 1 = cells') (hss : slots + cap = slots') (hc : cells' ≤ R.cells) (hs : slots' ≤ R.slots)
    (K : ∀ T' h' a k, a = h.size → Stand p l e R s m args below meth c T' locs cells' slots' → T'.heap = h' → Ext h h' → Arv Z h' a k (.object C) n [] .null → Ovr Z k C → Go p e below P (T'.setTop (mkF m pc' L (.ref a :: S)))) : Go p e below P (T.setTop (mkF m pc L (.int n :: S))) := by
  subst hp hcc hss
  obtain ⟨T', h', cA, X', e', E', A', O', st⟩ := newR X hx hZ hown w1 w2 eT (g := mkF m pc L (.int n :: S)) rfl hd rfl hn hcap hb hc hs
  exact (K T' h' h.size cA rfl X' e' E' (Arv.new A' hn) O').via st
theorem o_callP (X : Stand p l e R s m args below meth c T locs cells slots) (hx : p.tables.exec = Jvm.exec) (hZ : Z.Warmed39 s.vm) {own C : String} {index : Nat} {y : MethodName} {bytes : ByteArray} {maxL : Nat} {ret : Option FieldType} {rm : Room} (W : Nat) {argsL rest : List Value} {a : Addr} {Q : Option Value → Heap → List Loc → Prop} {cells' slots' : Nat}
    (hown : s.vm.findClass own = some m.cls) (w1 : (Cond.methodLink own index y).before a0 Z = true) {kk : Nat} (wi : (Cond.instantiable y.cls kk).before a0 Z = true) (w5 : (Cond.privateMethod y).before a0 Z = true) (w6 : (Cond.instanceMethod y).before a0 Z = true) (w3 : (Cond.initialized y.cls).before a0 Z = true) (w4 : (Cond.code y bytes maxL ret).before a0 Z = true) (hy : y.cls ≠ "java/lang/invoke/MethodHandle" ∧ y.cls ≠ "java/lang/invoke/VarHandle")
    (hM : MetFree l y (head1 [Cond.code y bytes maxL ret] rm) (fun b U => b = (.ref a :: argsL).toArray ∧ Z.Warmed39 U.vm ∧ U.heap = h) (fun _ _ _ _ _ => True) (fun _ U o U' => ∃ v L, o = .returned v ∧ Q v U'.heap L ∧ FrameEnd U o U' L rm.cells rm.slots))
    (hE : Exa Z h a C) (hf : rm.frames + 1 ≤ R.frames) (hl : W + (maxL + 11) + rm.locals ≤ R.locals) (hcc : cells + rm.cells = cells') (hss : slots + rm.slots = slots') (hc : cells' ≤ R.cells) (hs : slots' ≤ R.slots) (eT : T.heap = h) (hsize : L.size = c.maxLocals) (hlen : ∀ sig, parseMethodDescriptor y.desc = some sig → argsL.length = sig.parameters.length) (hstk : S = argsL.reverse ++ .ref a :: rest)
    (hW : (rest.map fun v => v.category).sum = W) (hd : decode c.code pc = .ok (.invokevirtual index, 3)) (hp : pc + 3 = pc') (K : ∀ T' v Lc, Stand p l e R s m args below meth c T' (locs ++ Lc) cells' slots' → Q v T'.heap Lc → Go p e below P (T'.setTop (mkF m pc' L (v.toList ++ rest)))) : Go p e below P (T.setTop (mkF m pc L S)) := by
  subst hp hcc hss
  obtain ⟨cell, hcell, hobj⟩ := hE.cell
  obtain ⟨v, _, ⟨T', L', k', n'⟩, -, X', ⟨Lc, hQ, l', y', z'⟩, st⟩ := X.privateBack hx (y := y) hown (mvT hZ w1) (mvT hZ w6) (mvT hZ (Jvm.Kit.selects_private hy wi w5 w6)) (Cond.privateMethod_at (mvP hZ w5 (args := #[]))) (mvT hZ w4) hy (backOf (W := W) hM hZ w4 w3 hf hl) (g := mkF m pc L S) rfl hsize (Steps.refl _) (a := a) (by rw [eT]; exact hcell) hobj (argsL := argsL) (rest := rest) hlen hstk (by show 2 * 0 + _ ≤ _; rw [hW]; exact Nat.le_of_eq (by simp)) hd (fun _ _ => ⟨rfl, eT, hc, hs⟩)
  dsimp only [Pt.U, Pt.locs, Pt.cells, Pt.slots] at X' l' y' z' st hQ
  subst l' y' z'
  exact (K T' v Lc X' hQ).tr st
/-- a longer list said of an array: the rest holds its first value -/
theorem own_fill {Zx : State} {hh : Heap} {a : Addr} {k : ClassId} {ty : FieldType} {n : Int32} {d : Value} (i : Nat) (V : Arv Zx hh a k ty n [] d) : Arv Zx hh a k ty n (List.replicate i d) d := V.pad (pad_rep [] d i)
end Own
abbrev cN0 : String := "com/example/tideway/tideway/engine/EndQueue"
abbrev cN1 : String := "com/example/tideway/tideway/engine/EndQueuePlaceOfPinLaw"
theorem pd_0 : parseMethodDescriptor "(Ljava/util/function/ObjIntConsumer;)V" = some ⟨[(.object "java/util/function/ObjIntConsumer")], none⟩ := by decide +kernel
theorem pd_1 : parseMethodDescriptor "(ZII)Z" = some ⟨[.boolean, .int, .int], some .boolean⟩ := by decide +kernel
theorem pd_2 : parseMethodDescriptor "(JJJJ)Z" = some ⟨[.long, .long, .long, .long], some .boolean⟩ := by decide +kernel
theorem pd_3 : parseMethodDescriptor "()V" = some ⟨[], none⟩ := by decide +kernel
theorem pd_4 : parseMethodDescriptor "(Ljava/lang/Object;)I" = some ⟨[(.object "java/lang/Object")], some .int⟩ := by decide +kernel
theorem pd_5 : parseMethodDescriptor "(ZZZIIIJJJJJJ)Z" = some ⟨[.boolean, .boolean, .boolean, .int, .int, .int, .long, .long, .long, .long, .long, .long], some .boolean⟩ := by decide +kernel
theorem pd_6 : parseMethodDescriptor "(ILjava/lang/Object;JJ)V" = some ⟨[.int, (.object "java/lang/Object"), .long, .long], none⟩ := by decide +kernel
theorem pd_7 : parseMethodDescriptor "(I)Ljava/lang/Object;" = some ⟨[.int], some (.object "java/lang/Object")⟩ := by decide +kernel
theorem pd_8 : parseMethodDescriptor "(I)I" = some ⟨[.int], some .int⟩ := by decide +kernel
theorem pd_9 : parseMethodDescriptor "(Ljava/lang/Object;JJ)V" = some ⟨[(.object "java/lang/Object"), .long, .long], none⟩ := by decide +kernel
theorem pd_10 : parseMethodDescriptor "(I)V" = some ⟨[.int], none⟩ := by decide +kernel
theorem d2_0 : decode prog_31_method_1_code 0 = .ok (.aload_n 0, 1) := by decide +kernel
theorem d2_1 : decode prog_31_method_1_code 1 = .ok (.invokespecial 1, 3) := by decide +kernel
theorem d2_4 : decode prog_31_method_1_code 4 = .ok (.aload_n 0, 1) := by decide +kernel
theorem d2_5 : decode prog_31_method_1_code 5 = .ok (.bipush 8, 2) := by decide +kernel
theorem d2_7 : decode prog_31_method_1_code 7 = .ok (.anewarray 2, 3) := by decide +kernel
theorem d2_10 : decode prog_31_method_1_code 10 = .ok (.putfield 7, 3) := by decide +kernel
theorem d2_13 : decode prog_31_method_1_code 13 = .ok (.aload_n 0, 1) := by decide +kernel
theorem d2_14 : decode prog_31_method_1_code 14 = .ok (.bipush 8, 2) := by decide +kernel
theorem d2_16 : decode prog_31_method_1_code 16 = .ok (.newarray .long, 2) := by decide +kernel
theorem d2_18 : decode prog_31_method_1_code 18 = .ok (.putfield 13, 3) := by decide +kernel
theorem d2_21 : decode prog_31_method_1_code 21 = .ok (.aload_n 0, 1) := by decide +kernel
theorem d2_22 : decode prog_31_method_1_code 22 = .ok (.bipush 8, 2) := by decide +kernel
theorem d2_24 : decode prog_31_method_1_code 24 = .ok (.newarray .long, 2) := by decide +kernel
theorem d2_26 : decode prog_31_method_1_code 26 = .ok (.putfield 17, 3) := by decide +kernel
theorem d2_29 : decode prog_31_method_1_code 29 = .ok (.aload_n 0, 1) := by decide +kernel
theorem d2_30 : decode prog_31_method_1_code 30 = .ok (.aload_n 1, 1) := by decide +kernel
theorem d2_31 : decode prog_31_method_1_code 31 = .ok (.putfield 20, 3) := by decide +kernel
theorem d2_34 : decode prog_31_method_1_code 34 = .ok (.return_, 1) := by decide +kernel
theorem pn_2 : plainName cN0 = true := by first | (simp [plainName, overriddenIn]; done) | decide +kernel
theorem ef_2 (m : MethodId) (x0 : Addr) : entryFrame m #[(.ref x0), (.null)] 2 = mkF m 0 #[.val (.ref x0), .val (.null)] [] := by first | (simp [entryFrame, mkF, argsToLocals, Value.category]; done) | rfl
def Q2 (Z : State) (aa : Addr) (u0 : Value) (u1 : Value) (u2 : Value) (u3 : Value) (y0 : Int32) (h0 : Heap) (n0 : Nat) (v : Option Value) (h : Heap) (L : List Loc) : Prop := v = none ∧ Fr n0 L ∧ Keep h0 h [aa] ∧ Exa Z h aa cN0 ∧ Fld Z h aa cN0 "placed" "Ljava/util/function/ObjIntConsumer;" (.null) ∧ Fld Z h aa cN0 "size" "I" (.int y0) ∧ ∃ bn0 kn0 bn1 kn1 bn2 kn2, n0 ≤ bn0 ∧ h0.size ≤ bn0 ∧ Fld Z h aa cN0 "elements" "[Ljava/lang/Object;" (.ref bn0) ∧ Arv Z h bn0 kn0 (.object "java/lang/Object") (8 : Int32) [.null, .null, .null, .null, .null, .null, .null, .null] (.null) ∧ Ovr Z kn0 "java/lang/Object" ∧ n0 ≤ bn1 ∧ h0.size ≤ bn1 ∧ Fld Z h aa cN0 "ends" "[J" (.ref bn1) ∧ Arv Z h bn1 kn1 .long (8 : Int32) [.long (0 : Int64), .long (0 : Int64), .long (0 : Int64), .long (0 : Int64), .long (0 : Int64), .long (0 : Int64), .long (0 : Int64), .long (0 : Int64)] (.long (0 : Int64)) ∧ bn0 ≠ bn1 ∧ n0 ≤ bn2 ∧ h0.size ≤ bn2 ∧ Fld Z h aa cN0 "orders" "[J" (.ref bn2) ∧ Arv Z h bn2 kn2 .long (8 : Int32) [.long (0 : Int64), .long (0 : Int64), .long (0 : Int64), .long (0 : Int64), .long (0 : Int64), .long (0 : Int64), .long (0 : Int64), .long (0 : Int64)] (.long (0 : Int64)) ∧ bn0 ≠ bn2 ∧ bn1 ≠ bn2
set_option maxRecDepth 65536 in
set_option maxHeartbeats 40000000 in
theorem rm2 (l : Launch) (Z : State) (a0 : Array Value) (hw : ∀ d ∈ tables_1, d.before a0 Z = true) (ws : List Jvm.Cond) (aa : Addr) (u0 : Value) (u1 : Value) (u2 : Value) (u3 : Value) (y0 : Int32) (h0 : Heap) (n0 : Nat) (Z0 : n0 ≤ h0.size) (E_aa : Exa Z h0 aa cN0) (F_elements_aa : Fld Z h0 aa cN0 "elements" "[Ljava/lang/Object;" u0) (F_ends_aa : Fld Z h0 aa cN0 "ends" "[J" u1) (F_orders_aa : Fld Z h0 aa cN0 "orders" "[J" u2) (F_placed_aa : Fld Z h0 aa cN0 "placed" "Ljava/util/function/ObjIntConsumer;" u3) (F_size_aa : Fld Z h0 aa cN0 "size" "I" (.int y0)) (g_aa : n0 ≤ aa) :
    Con l (⟨cN0, "<init>", "(Ljava/util/function/ObjIntConsumer;)V"⟩ : MethodName) prog_31_method_1_code 2 none ws ({ frames := 1, cells := 3, slots := 24, locals := 12 } : Room) #[(.ref aa), (.null)] Z h0 (Q2 Z aa u0 u1 u2 u3 y0 h0 n0) ({ frames := 1, cells := 3, slots := 24, locals := 12 } : Room).cells ({ frames := 1, cells := 3, slots := 24, locals := 12 } : Room).slots := by
  refine own_body (plainFor_of_name pn_2) ?_
  intro p e s m below meth c s₁ hx hby hlk hml hown hnm hrt hZ X0 e0
  have w : ∀ (k : Nat) (d : Jvm.Cond), tables_1[k]? = some d → d.before a0 Z = true := fun k d h => hw d (List.mem_of_getElem? h)
  have N0 := Fr.nil n0
  have K0 := Keep.refl h0 [aa]
  rw [ef_2]
  generalize hOWE : Owe s _ _ _ = OWE
  refine o_aloadN X0 hx (hb hby d2_0) (pc' := 1) rfl rfl rfl ?_
  refine o_initO X0 hx hZ 0 hown (w 11 _ rfl) (w 12 _ rfl) (w 13 _ rfl) e0 (by rw [hml]; rfl) (hb hby d2_1) (pc' := 4) rfl (by decide) rfl (by decide) ?_
  intro T1 X1 e1
  refine o_aloadN X1 hx (hb hby d2_4) (pc' := 5) rfl rfl rfl ?_
  refine o_bipush X1 hx (8 : Int32) (hb hby d2_5) (pc' := 7) rfl (by decide) ?_
  refine o_newR X1 hx hZ 8 hown (w 14 _ rfl) (w 15 _ rfl) e1 (hb hby d2_7) (pc' := 10) rfl (by decide) (by decide) (by decide) (cells' := 1) rfl (slots' := 8) rfl (by decide) (by decide) ?_
  intro T2 h2 b2 k2 qa2 X2 e2 Ex2 A2 O2
  have g_b2 : n0 ≤ b2 := by rw [qa2]; exact Z0
  have sz_b2 : h0.size ≤ b2 := by rw [qa2]; exact K0.1
  have ne_aa_b2 : aa ≠ b2 := by rw [qa2]; exact Nat.ne_of_lt E_aa.lt
  have E3_aa := Exa.ext Ex2 E_aa
  have F3_aa_elements := Fld.ext Ex2 F_elements_aa
  have F3_aa_ends := Fld.ext Ex2 F_ends_aa
  have F3_aa_orders := Fld.ext Ex2 F_orders_aa
  have F3_aa_placed := Fld.ext Ex2 F_placed_aa
  have F3_aa_size := Fld.ext Ex2 F_size_aa
  have Z2 : n0 ≤ h2.size := Nat.le_trans Z0 Ex2.1
  have K2 := Keep.ext K0 Ex2
  have V2_ : Arv Z h2 b2 k2 (.object "java/lang/Object") (8 : Int32) [.null, .null, .null, .null, .null, .null, .null, .null] (.null) := own_fill 8 A2
  refine o_putF X2 hx hZ hown (w 16 _ rfl) e2 F3_aa_elements E3_aa (Or.inl (w 17 _ rfl)) (w 3 _ rfl) (ty := (.array (.object "java/lang/Object"))) (by decide) rfl rfl (hb hby d2_10) (pc' := 13) rfl ?_
  intro T4 h4 X4 e4 W4
  have Fw4 := Fld.same W4 F3_aa_elements
  have E5_aa := Exa.wr W4 E3_aa
  have F5_aa_ends := Fld.other W4 F3_aa_ends (Or.inr (slot_ne (C := cN0) (a0 := a0) (Or.inl (w 20 _ rfl)) (Or.inl (w 17 _ rfl)) (by decide) (t := (.array .long)) (t' := (.array (.object "java/lang/Object"))) (by decide) (by decide)))
  have F5_aa_orders := Fld.other W4 F3_aa_orders (Or.inr (slot_ne (C := cN0) (a0 := a0) (Or.inl (w 22 _ rfl)) (Or.inl (w 17 _ rfl)) (by decide) (t := (.array .long)) (t' := (.array (.object "java/lang/Object"))) (by decide) (by decide)))
  have F5_aa_placed := Fld.other W4 F3_aa_placed (Or.inr (slot_ne (C := cN0) (a0 := a0) (Or.inr (w 24 _ rfl)) (Or.inl (w 17 _ rfl)) (by decide) (t := (.object "java/util/function/ObjIntConsumer")) (t' := (.array (.object "java/lang/Object"))) (by decide) (by decide)))
  have F5_aa_size := Fld.other W4 F3_aa_size (Or.inr (slot_ne (C := cN0) (a0 := a0) (Or.inl (w 31 _ rfl)) (Or.inl (w 17 _ rfl)) (by decide) (t := .int) (t' := (.array (.object "java/lang/Object"))) (by decide) (by decide)))
  have V5_b2 := Arv.other V2_ W4 (Ne.symm ne_aa_b2)
  have N4 := Fr.snoc X4 N0 g_aa
  have Z4 : n0 ≤ h4.size := by rw [W4.size]; exact Z2
  have K4 := Keep.wr K2 W4 (Or.inl (List.mem_of_getElem? (i := 0) rfl))
  refine o_aloadN X4 hx (hb hby d2_13) (pc' := 14) rfl rfl rfl ?_
  refine o_bipush X4 hx (8 : Int32) (hb hby d2_14) (pc' := 16) rfl (by decide) ?_
  refine o_newP X4 hx hZ 8 (w 18 _ rfl) e4 (hb hby d2_16) (pc' := 18) rfl (by decide) (by decide) (by decide) (cells' := 2) rfl (slots' := 16) rfl (by decide) (by decide) ?_
  intro T6 h6 b6 k6 qa6 X6 e6 Ex6 A6
  have g_b6 : n0 ≤ b6 := by rw [qa6]; exact Z4
  have sz_b6 : h0.size ≤ b6 := by rw [qa6]; exact K4.1
  have ne_aa_b6 : aa ≠ b6 := by rw [qa6]; exact Nat.ne_of_lt E5_aa.lt
  have ne_b2_b6 : b2 ≠ b6 := by rw [qa6]; exact Nat.ne_of_lt V5_b2.lt
  have E7_aa := Exa.ext Ex6 E5_aa
  have F7_aa_elements := Fld.ext Ex6 Fw4
  have F7_aa_ends := Fld.ext Ex6 F5_aa_ends
  have F7_aa_orders := Fld.ext Ex6 F5_aa_orders
  have F7_aa_placed := Fld.ext Ex6 F5_aa_placed
  have F7_aa_size := Fld.ext Ex6 F5_aa_size
  have V7_b2 := Arv.ext V5_b2 Ex6
  have Z6 : n0 ≤ h6.size := Nat.le_trans Z4 Ex6.1
  have K6 := Keep.ext K4 Ex6
  have V6_ : Arv Z h6 b6 k6 .long (8 : Int32) [.long (0 : Int64), .long (0 : Int64), .long (0 : Int64), .long (0 : Int64), .long (0 : Int64), .long (0 : Int64), .long (0 : Int64), .long (0 : Int64)] (.long (0 : Int64)) := own_fill 8 A6
  refine o_putF X6 hx hZ hown (w 19 _ rfl) e6 F7_aa_ends E7_aa (Or.inl (w 20 _ rfl)) (w 3 _ rfl) (ty := (.array .long)) (by decide) rfl rfl (hb hby d2_18) (pc' := 21) rfl ?_
  intro T8 h8 X8 e8 W8
  have Fw8 := Fld.same W8 F7_aa_ends
  have E9_aa := Exa.wr W8 E7_aa
  have F9_aa_elements := Fld.other W8 F7_aa_elements (Or.inr (slot_ne (C := cN0) (a0 := a0) (Or.inl (w 17 _ rfl)) (Or.inl (w 20 _ rfl)) (by decide) (t := (.array (.object "java/lang/Object"))) (t' := (.array .long)) (by decide) (by decide)))
  have F9_aa_orders := Fld.other W8 F7_aa_orders (Or.inr (slot_ne (C := cN0) (a0 := a0) (Or.inl (w 22 _ rfl)) (Or.inl (w 20 _ rfl)) (by decide) (t := (.array .long)) (t' := (.array .long)) (by decide) (by decide)))
  have F9_aa_placed := Fld.other W8 F7_aa_placed (Or.inr (slot_ne (C := cN0) (a0 := a0) (Or.inr (w 24 _ rfl)) (Or.inl (w 20 _ rfl)) (by decide) (t := (.object "java/util/function/ObjIntConsumer")) (t' := (.array .long)) (by decide) (by decide)))
  have F9_aa_size := Fld.other W8 F7_aa_size (Or.inr (slot_ne (C := cN0) (a0 := a0) (Or.inl (w 31 _ rfl)) (Or.inl (w 20 _ rfl)) (by decide) (t := .int) (t' := (.array .long)) (by decide) (by decide)))
  have V9_b2 := Arv.other V7_b2 W8 (Ne.symm ne_aa_b2)
  have V9_b6 := Arv.other V6_ W8 (Ne.symm ne_aa_b6)
  have N8 := Fr.snoc X8 N4 g_aa
  have Z8 : n0 ≤ h8.size := by rw [W8.size]; exact Z6
  have K8 := Keep.wr K6 W8 (Or.inl (List.mem_of_getElem? (i := 0) rfl))
  refine o_aloadN X8 hx (hb hby d2_21) (pc' := 22) rfl rfl rfl ?_
  refine o_bipush X8 hx (8 : Int32) (hb hby d2_22) (pc' := 24) rfl (by decide) ?_
  refine o_newP X8 hx hZ 8 (w 18 _ rfl) e8 (hb hby d2_24) (pc' := 26) rfl (by decide) (by decide) (by decide) (cells' := 3) rfl (slots' := 24) rfl (by decide) (by decide) ?_
  intro T10 h10 b10 k10 qa10 X10 e10 Ex10 A10
  have g_b10 : n0 ≤ b10 := by rw [qa10]; exact Z8
  have sz_b10 : h0.size ≤ b10 := by rw [qa10]; exact K8.1
  have ne_aa_b10 : aa ≠ b10 := by rw [qa10]; exact Nat.ne_of_lt E9_aa.lt
  have ne_b2_b10 : b2 ≠ b10 := by rw [qa10]; exact Nat.ne_of_lt V9_b2.lt
  have ne_b6_b10 : b6 ≠ b10 := by rw [qa10]; exact Nat.ne_of_lt V9_b6.lt
  have E11_aa := Exa.ext Ex10 E9_aa
  have F11_aa_elements := Fld.ext Ex10 F9_aa_elements
  have F11_aa_ends := Fld.ext Ex10 Fw8
  have F11_aa_orders := Fld.ext Ex10 F9_aa_orders
  have F11_aa_placed := Fld.ext Ex10 F9_aa_placed
  have F11_aa_size := Fld.ext Ex10 F9_aa_size
  have V11_b2 := Arv.ext V9_b2 Ex10
  have V11_b6 := Arv.ext V9_b6 Ex10
  have Z10 : n0 ≤ h10.size := Nat.le_trans Z8 Ex10.1
  have K10 := Keep.ext K8 Ex10
  have V10_ : Arv Z h10 b10 k10 .long (8 : Int32) [.long (0 : Int64), .long (0 : Int64), .long (0 : Int64), .long (0 : Int64), .long (0 : Int64), .long (0 : Int64), .long (0 : Int64), .long (0 : Int64)] (.long (0 : Int64)) := own_fill 8 A10
  refine o_putF X10 hx hZ hown (w 21 _ rfl) e10 F11_aa_orders E11_aa (Or.inl (w 22 _ rfl)) (w 3 _ rfl) (ty := (.array .long)) (by decide) rfl rfl (hb hby d2_26) (pc' := 29) rfl ?_
  intro T12 h12 X12 e12 W12
  have Fw12 := Fld.same W12 F11_aa_orders
  have E13_aa := Exa.wr W12 E11_aa
  have F13_aa_elements := Fld.other W12 F11_aa_elements (Or.inr (slot_ne (C := cN0) (a0 := a0) (Or.inl (w 17 _ rfl)) (Or.inl (w 22 _ rfl)) (by decide) (t := (.array (.object "java/lang/Object"))) (t' := (.array .long)) (by decide) (by decide)))
  have F13_aa_ends := Fld.other W12 F11_aa_ends (Or.inr (slot_ne (C := cN0) (a0 := a0) (Or.inl (w 20 _ rfl)) (Or.inl (w 22 _ rfl)) (by decide) (t := (.array .long)) (t' := (.array .long)) (by decide) (by decide)))
  have F13_aa_placed := Fld.other W12 F11_aa_placed (Or.inr (slot_ne (C := cN0) (a0 := a0) (Or.inr (w 24 _ rfl)) (Or.inl (w 22 _ rfl)) (by decide) (t := (.object "java/util/function/ObjIntConsumer")) (t' := (.array .long)) (by decide) (by decide)))
  have F13_aa_size := Fld.other W12 F11_aa_size (Or.inr (slot_ne (C := cN0) (a0 := a0) (Or.inl (w 31 _ rfl)) (Or.inl (w 22 _ rfl)) (by decide) (t := .int) (t' := (.array .long)) (by decide) (by decide)))
  have V13_b2 := Arv.other V11_b2 W12 (Ne.symm ne_aa_b2)
  have V13_b6 := Arv.other V11_b6 W12 (Ne.symm ne_aa_b6)
  have V13_b10 := Arv.other V10_ W12 (Ne.symm ne_aa_b10)
  have N12 := Fr.snoc X12 N8 g_aa
  have Z12 : n0 ≤ h12.size := by rw [W12.size]; exact Z10
  have K12 := Keep.wr K10 W12 (Or.inl (List.mem_of_getElem? (i := 0) rfl))
  refine o_aloadN X12 hx (hb hby d2_29) (pc' := 30) rfl rfl rfl ?_
  refine o_aloadN X12 hx (hb hby d2_30) (pc' := 31) rfl rfl rfl ?_
  refine o_putF X12 hx hZ hown (w 23 _ rfl) e12 F13_aa_placed E13_aa (Or.inr ⟨(w 24 _ rfl), rfl, hnm⟩) (w 3 _ rfl) (ty := (.object "java/util/function/ObjIntConsumer")) (by decide) rfl rfl (hb hby d2_31) (pc' := 34) rfl ?_
  intro T14 h14 X14 e14 W14
  have Fw14 := Fld.same W14 F13_aa_placed
  have E15_aa := Exa.wr W14 E13_aa
  have F15_aa_elements := Fld.other W14 F13_aa_elements (Or.inr (slot_ne (C := cN0) (a0 := a0) (Or.inl (w 17 _ rfl)) (Or.inr (w 24 _ rfl)) (by decide) (t := (.array (.object "java/lang/Object"))) (t' := (.object "java/util/function/ObjIntConsumer")) (by decide) (by decide)))
  have F15_aa_ends := Fld.other W14 F13_aa_ends (Or.inr (slot_ne (C := cN0) (a0 := a0) (Or.inl (w 20 _ rfl)) (Or.inr (w 24 _ rfl)) (by decide) (t := (.array .long)) (t' := (.object "java/util/function/ObjIntConsumer")) (by decide) (by decide)))
  have F15_aa_orders := Fld.other W14 Fw12 (Or.inr (slot_ne (C := cN0) (a0 := a0) (Or.inl (w 22 _ rfl)) (Or.inr (w 24 _ rfl)) (by decide) (t := (.array .long)) (t' := (.object "java/util/function/ObjIntConsumer")) (by decide) (by decide)))
  have F15_aa_size := Fld.other W14 F13_aa_size (Or.inr (slot_ne (C := cN0) (a0 := a0) (Or.inl (w 31 _ rfl)) (Or.inr (w 24 _ rfl)) (by decide) (t := .int) (t' := (.object "java/util/function/ObjIntConsumer")) (by decide) (by decide)))
  have V15_b2 := Arv.other V13_b2 W14 (Ne.symm ne_aa_b2)
  have V15_b6 := Arv.other V13_b6 W14 (Ne.symm ne_aa_b6)
  have V15_b10 := Arv.other V13_b10 W14 (Ne.symm ne_aa_b10)
  have N14 := Fr.snoc X14 N12 g_aa
  have Z14 : n0 ≤ h14.size := by rw [W14.size]; exact Z12
  have K14 := Keep.wr K12 W14 (Or.inl (List.mem_of_getElem? (i := 0) rfl))
  rw [← hOWE]
  exact o_retV X14 hx hlk hrt (hb hby d2_34) (by decide) (by decide) (by rw [e14]; exact ⟨rfl, N14, K14, E15_aa, Fw14, F15_aa_size, ⟨b2, k2, b6, k6, b10, k10, g_b2, sz_b2, F15_aa_elements, V15_b2, O2, g_b6, sz_b6, F15_aa_ends, V15_b6, ne_b2_b6, g_b10, sz_b10, F15_aa_orders, V15_b10, ne_b2_b10, ne_b6_b10⟩⟩)
theorem d1_0 : decode prog_31_method_2_code 0 = .ok (.aload_n 0, 1) := by decide +kernel
theorem d1_1 : decode prog_31_method_2_code 1 = .ok (.aconst_null, 1) := by decide +kernel
theorem d1_2 : decode prog_31_method_2_code 2 = .ok (.invokespecial 24, 3) := by decide +kernel
theorem d1_5 : decode prog_31_method_2_code 5 = .ok (.return_, 1) := by decide +kernel
theorem ef_1 (m : MethodId) (x0 : Addr) : entryFrame m #[(.ref x0)] 1 = mkF m 0 #[.val (.ref x0)] [] := by first | (simp [entryFrame, mkF, argsToLocals, Value.category]; done) | rfl
def Q1 (Z : State) (aa : Addr) (u0 : Value) (u1 : Value) (u2 : Value) (u3 : Value) (y0 : Int32) (h0 : Heap) (n0 : Nat) (v : Option Value) (h : Heap) (L : List Loc) : Prop := v = none ∧ Fr n0 L ∧ Keep h0 h [aa] ∧ Exa Z h aa cN0 ∧ Fld Z h aa cN0 "placed" "Ljava/util/function/ObjIntConsumer;" (.null) ∧ Fld Z h aa cN0 "size" "I" (.int y0) ∧ ∃ bn0 kn0 bn1 kn1 bn2 kn2, n0 ≤ bn0 ∧ h0.size ≤ bn0 ∧ Fld Z h aa cN0 "elements" "[Ljava/lang/Object;" (.ref bn0) ∧ Arv Z h bn0 kn0 (.object "java/lang/Object") (8 : Int32) [.null, .null, .null, .null, .null, .null, .null, .null] (.null) ∧ Ovr Z kn0 "java/lang/Object" ∧ n0 ≤ bn1 ∧ h0.size ≤ bn1 ∧ Fld Z h aa cN0 "ends" "[J" (.ref bn1) ∧ Arv Z h bn1 kn1 .long (8 : Int32) [.long (0 : Int64), .long (0 : Int64), .long (0 : Int64), .long (0 : Int64), .long (0 : Int64), .long (0 : Int64), .long (0 : Int64), .long (0 : Int64)] (.long (0 : Int64)) ∧ bn0 ≠ bn1 ∧ n0 ≤ bn2 ∧ h0.size ≤ bn2 ∧ Fld Z h aa cN0 "orders" "[J" (.ref bn2) ∧ Arv Z h bn2 kn2 .long (8 : Int32) [.long (0 : Int64), .long (0 : Int64), .long (0 : Int64), .long (0 : Int64), .long (0 : Int64), .long (0 : Int64), .long (0 : Int64), .long (0 : Int64)] (.long (0 : Int64)) ∧ bn0 ≠ bn2 ∧ bn1 ≠ bn2
set_option maxRecDepth 65536 in
set_option maxHeartbeats 40000000 in
theorem rm1 (l : Launch) (Z : State) (a0 : Array Value) (hw : ∀ d ∈ tables_1, d.before a0 Z = true) (ws : List Jvm.Cond) (aa : Addr) (u0 : Value) (u1 : Value) (u2 : Value) (u3 : Value) (y0 : Int32) (h0 : Heap) (n0 : Nat) (Z0 : n0 ≤ h0.size) (E_aa : Exa Z h0 aa cN0) (F_elements_aa : Fld Z h0 aa cN0 "elements" "[Ljava/lang/Object;" u0) (F_ends_aa : Fld Z h0 aa cN0 "ends" "[J" u1) (F_orders_aa : Fld Z h0 aa cN0 "orders" "[J" u2) (F_placed_aa : Fld Z h0 aa cN0 "placed" "Ljava/util/function/ObjIntConsumer;" u3) (F_size_aa : Fld Z h0 aa cN0 "size" "I" (.int y0)) (g_aa : n0 ≤ aa) :
    Con l (⟨cN0, "<init>", "()V"⟩ : MethodName) prog_31_method_2_code 1 none ws ({ frames := 2, cells := 3, slots := 24, locals := 25 } : Room) #[(.ref aa)] Z h0 (Q1 Z aa u0 u1 u2 u3 y0 h0 n0) ({ frames := 2, cells := 3, slots := 24, locals := 25 } : Room).cells ({ frames := 2, cells := 3, slots := 24, locals := 25 } : Room).slots := by
  refine own_body (plainFor_of_name pn_2) ?_
  intro p e s m below meth c s₁ hx hby hlk hml hown hnm hrt hZ X0 e0
  have w : ∀ (k : Nat) (d : Jvm.Cond), tables_1[k]? = some d → d.before a0 Z = true := fun k d h => hw d (List.mem_of_getElem? h)
  have N0 := Fr.nil n0
  have K0 := Keep.refl h0 [aa]
  rw [ef_1]
  generalize hOWE : Owe s _ _ _ = OWE
  refine o_aloadN X0 hx (hb hby d1_0) (pc' := 1) rfl rfl rfl ?_
  refine o_aconst_null X0 hx (hb hby d1_1) (pc' := 2) rfl ?_
  refine o_callI X0 hx hZ 0 (argsL := [.null]) (rest := []) (a := aa) rfl hown (w 8 _ rfl) (w 9 _ rfl) (w 4 _ rfl) (w 10 _ rfl) (by decide) (rm2 l Z a0 hw [] aa u0 u1 u2 u3 y0 h0 n0 Z0 E_aa F_elements_aa F_ends_aa F_orders_aa F_placed_aa F_size_aa g_aa) (by decide) (by decide) (cells' := 3) rfl (slots' := 24) rfl (by decide) (by decide) e0 (by rw [hml]; rfl) (lenOf pd_0 rfl) rfl rfl (hb hby d1_2) (pc' := 5) rfl ?_
  intro T1 v1 L1 X1 hQ1
  obtain ⟨rfl, Nq1, Kq1, P1_0, P1_1, P1_2, bn1_0, kn1_0, bn1_1, kn1_1, bn1_2, kn1_2, gn1_0, zn1_0, Fn1_0, Vn1_0, On1_0, gn1_1, zn1_1, Fn1_1, Vn1_1, nn1_0_1, gn1_2, zn1_2, Fn1_2, Vn1_2, nn1_0_2, nn1_1_2⟩ := hQ1
  have N1 := Fr.app N0 Nq1
  have ne_aa_bn1_0 : aa ≠ bn1_0 := Nat.ne_of_lt (Nat.lt_of_lt_of_le E_aa.lt zn1_0)
  have sz_bn1_0 : h0.size ≤ bn1_0 := Nat.le_trans K0.1 zn1_0
  have ne_aa_bn1_1 : aa ≠ bn1_1 := Nat.ne_of_lt (Nat.lt_of_lt_of_le E_aa.lt zn1_1)
  have sz_bn1_1 : h0.size ≤ bn1_1 := Nat.le_trans K0.1 zn1_1
  have ne_aa_bn1_2 : aa ≠ bn1_2 := Nat.ne_of_lt (Nat.lt_of_lt_of_le E_aa.lt zn1_2)
  have sz_bn1_2 : h0.size ≤ bn1_2 := Nat.le_trans K0.1 zn1_2
  have Z1 : n0 ≤ T1.heap.size := Nat.le_trans Z0 Kq1.1
  have K1 := Keep.trans K0 Kq1 (allS (Or.inl (List.mem_of_getElem? (i := 0) rfl)) all0)
  show Go p e below _ (T1.setTop (mkF m 5 _ []))
  rw [← hOWE]
  exact o_retV X1 hx hlk hrt (hb hby d1_5) (by decide) (by decide) ⟨rfl, N1, K1, P1_0, P1_1, P1_2, ⟨bn1_0, kn1_0, bn1_1, kn1_1, bn1_2, kn1_2, gn1_0, sz_bn1_0, Fn1_0, Vn1_0, On1_0, gn1_1, sz_bn1_1, Fn1_1, Vn1_1, nn1_0_1, gn1_2, sz_bn1_2, Fn1_2, Vn1_2, nn1_0_2, nn1_1_2⟩⟩
theorem d8_0 : decode prog_31_method_15_code 0 = .ok (.lload_n 0, 1) := by decide +kernel
theorem d8_1 : decode prog_31_method_15_code 1 = .ok (.lload 4, 2) := by decide +kernel
theorem d8_3 : decode prog_31_method_15_code 3 = .ok (.lcmp, 1) := by decide +kernel
theorem d8_4 : decode prog_31_method_15_code 4 = .ok (.ifCond .lt 17, 3) := by decide +kernel
theorem d8_7 : decode prog_31_method_15_code 7 = .ok (.lload_n 0, 1) := by decide +kernel
theorem d8_8 : decode prog_31_method_15_code 8 = .ok (.lload 4, 2) := by decide +kernel
theorem d8_10 : decode prog_31_method_15_code 10 = .ok (.lcmp, 1) := by decide +kernel
theorem d8_11 : decode prog_31_method_15_code 11 = .ok (.ifCond .ne 14, 3) := by decide +kernel
theorem d8_14 : decode prog_31_method_15_code 14 = .ok (.lload_n 2, 1) := by decide +kernel
theorem d8_15 : decode prog_31_method_15_code 15 = .ok (.lload 6, 2) := by decide +kernel
theorem d8_17 : decode prog_31_method_15_code 17 = .ok (.lcmp, 1) := by decide +kernel
theorem d8_18 : decode prog_31_method_15_code 18 = .ok (.ifCond .ge 7, 3) := by decide +kernel
theorem d8_21 : decode prog_31_method_15_code 21 = .ok (.iconst 1, 1) := by decide +kernel
theorem d8_22 : decode prog_31_method_15_code 22 = .ok (.goto 4, 3) := by decide +kernel
theorem d8_25 : decode prog_31_method_15_code 25 = .ok (.iconst 0, 1) := by decide +kernel
theorem d8_26 : decode prog_31_method_15_code 26 = .ok (.ireturn, 1) := by decide +kernel
theorem ef_8 (m : MethodId) (x0 : Int64) (x1 : Int64) (x2 : Int64) (x3 : Int64) : entryFrame m #[(.long x0), (.long x1), (.long x2), (.long x3)] 8 = mkF m 0 #[.val (.long x0), .second, .val (.long x1), .second, .val (.long x2), .second, .val (.long x3), .second] [] := by first | (simp [entryFrame, mkF, argsToLocals, Value.category]; done) | rfl
def o5 (x1 : Int64) (x2 : Int64) (x3 : Int64) (x4 : Int64) : Int32 := (if x1 < x3 then (1 : Int32) else (if x1 = x3 then (if x2 < x4 then (1 : Int32) else (0 : Int32)) else (0 : Int32)))
theorem o68 (x1 : Int64) (x2 : Int64) (x3 : Int64) (x4 : Int64) : (o5 x1 x2 x3 x4) = 0 ∨ (o5 x1 x2 x3 x4) = 1 := by
  unfold o5
  repeat' split
  all_goals first | with_reducible exact Or.inl rfl | with_reducible exact Or.inr rfl
def Q8 (Z : State) (x1 : Int64) (x2 : Int64) (x3 : Int64) (x4 : Int64) (h0 : Heap) (n0 : Nat) (v : Option Value) (h : Heap) (L : List Loc) : Prop := v = some (.int (o5 x1 x2 x3 x4)) ∧ Fr n0 L ∧ h = h0
set_option maxRecDepth 65536 in
set_option maxHeartbeats 40000000 in
theorem rm8 (l : Launch) (Z : State) (a0 : Array Value) (hw : ∀ d ∈ tables_1, d.before a0 Z = true) (ws : List Jvm.Cond) (x1 : Int64) (x2 : Int64) (x3 : Int64) (x4 : Int64) (h0 : Heap) (n0 : Nat) (Z0 : n0 ≤ h0.size)  :
    Con l (⟨cN0, "before", "(JJJJ)Z"⟩ : MethodName) prog_31_method_15_code 8 (some .boolean) ws ({ frames := 0, cells := 0, slots := 0, locals := 0 } : Room) #[(.long x1), (.long x2), (.long x3), (.long x4)] Z h0 (Q8 Z x1 x2 x3 x4 h0 n0) ({ frames := 0, cells := 0, slots := 0, locals := 0 } : Room).cells ({ frames := 0, cells := 0, slots := 0, locals := 0 } : Room).slots := by
  refine own_body (plainFor_of_name pn_2) ?_
  intro p e s m below meth c s₁ hx hby hlk hml hown hnm hrt hZ X0 e0
  have w : ∀ (k : Nat) (d : Jvm.Cond), tables_1[k]? = some d → d.before a0 Z = true := fun k d h => hw d (List.mem_of_getElem? h)
  have N0 := Fr.nil n0
  rw [ef_8]
  generalize hOWE : Owe s _ _ _ = OWE
  refine o_lloadN X0 hx (hb hby d8_0) (pc' := 1) rfl rfl ?_
  refine o_lload X0 hx (hb hby d8_1) (pc' := 3) rfl rfl ?_
  refine o_lcmp X0 hx (hb hby d8_3) (pc' := 4) rfl ?_
  by_cases hc4_1 : x1 < x3
  · refine o_ifY X0 hx (hb hby d8_4) (tltL hc4_1).1 (by decide) (pc' := 21) (by decide) ?_
    refine o_iconst X0 hx (1 : Int32) (hb hby d8_21) (pc' := 22) rfl (by decide) ?_
    refine o_goto X0 hx (hb hby d8_22) (by decide) (pc' := 26) (by decide) ?_
    rw [← hOWE]
    exact o_retZ X0 hx rfl hlk hrt (hb hby d8_26) (by decide) (by decide) (by rw [e0]; exact ⟨(by rw [o5, if_pos hc4_1]), N0, rfl⟩)
  · refine o_ifN X0 hx (hb hby d8_4) (fltL hc4_1).1 (pc' := 7) rfl ?_
    refine o_lloadN X0 hx (hb hby d8_7) (pc' := 8) rfl rfl ?_
    refine o_lload X0 hx (hb hby d8_8) (pc' := 10) rfl rfl ?_
    refine o_lcmp X0 hx (hb hby d8_10) (pc' := 11) rfl ?_
    by_cases hc11_2 : x1 = x3
    · refine o_ifN X0 hx (hb hby d8_11) (teqL hc11_2).2 (pc' := 14) rfl ?_
      refine o_lloadN X0 hx (hb hby d8_14) (pc' := 15) rfl rfl ?_
      refine o_lload X0 hx (hb hby d8_15) (pc' := 17) rfl rfl ?_
      refine o_lcmp X0 hx (hb hby d8_17) (pc' := 18) rfl ?_
      by_cases hc18_3 : x2 < x4
      · refine o_ifN X0 hx (hb hby d8_18) (tltL hc18_3).2.1 (pc' := 21) rfl ?_
        refine o_iconst X0 hx (1 : Int32) (hb hby d8_21) (pc' := 22) rfl (by decide) ?_
        refine o_goto X0 hx (hb hby d8_22) (by decide) (pc' := 26) (by decide) ?_
        rw [← hOWE]
        exact o_retZ X0 hx rfl hlk hrt (hb hby d8_26) (by decide) (by decide) (by rw [e0]; exact ⟨(by rw [o5, if_neg hc4_1, if_pos hc11_2, if_pos hc18_3]), N0, rfl⟩)
      · refine o_ifY X0 hx (hb hby d8_18) (fltL hc18_3).2.1 (by decide) (pc' := 25) (by decide) ?_
        refine o_iconst X0 hx (0 : Int32) (hb hby d8_25) (pc' := 26) rfl (by decide) ?_
        rw [← hOWE]
        exact o_retZ X0 hx rfl hlk hrt (hb hby d8_26) (by decide) (by decide) (by rw [e0]; exact ⟨(by rw [o5, if_neg hc4_1, if_pos hc11_2, if_neg hc18_3]), N0, rfl⟩)
    · refine o_ifY X0 hx (hb hby d8_11) (feqL hc11_2).2 (by decide) (pc' := 25) (by decide) ?_
      refine o_iconst X0 hx (0 : Int32) (hb hby d8_25) (pc' := 26) rfl (by decide) ?_
      rw [← hOWE]
      exact o_retZ X0 hx rfl hlk hrt (hb hby d8_26) (by decide) (by decide) (by rw [e0]; exact ⟨(by rw [o5, if_neg hc4_1, if_neg hc11_2]), N0, rfl⟩)
theorem d12_0 : decode method_5_code 0 = .ok (.lload_n 0, 1) := by decide +kernel
theorem d12_1 : decode method_5_code 1 = .ok (.lload 4, 2) := by decide +kernel
theorem d12_3 : decode method_5_code 3 = .ok (.lcmp, 1) := by decide +kernel
theorem d12_4 : decode method_5_code 4 = .ok (.ifCond .ge 5, 3) := by decide +kernel
theorem d12_7 : decode method_5_code 7 = .ok (.iconst 1, 1) := by decide +kernel
theorem d12_8 : decode method_5_code 8 = .ok (.ireturn, 1) := by decide +kernel
theorem d12_9 : decode method_5_code 9 = .ok (.lload_n 0, 1) := by decide +kernel
theorem d12_10 : decode method_5_code 10 = .ok (.lload 4, 2) := by decide +kernel
theorem d12_12 : decode method_5_code 12 = .ok (.lcmp, 1) := by decide +kernel
theorem d12_13 : decode method_5_code 13 = .ok (.ifCond .ne 16, 3) := by decide +kernel
theorem d12_16 : decode method_5_code 16 = .ok (.lload_n 2, 1) := by decide +kernel
theorem d12_17 : decode method_5_code 17 = .ok (.lload 6, 2) := by decide +kernel
theorem d12_19 : decode method_5_code 19 = .ok (.lcmp, 1) := by decide +kernel
theorem d12_20 : decode method_5_code 20 = .ok (.ifCond .ge 7, 3) := by decide +kernel
theorem d12_23 : decode method_5_code 23 = .ok (.iconst 1, 1) := by decide +kernel
theorem d12_24 : decode method_5_code 24 = .ok (.goto 4, 3) := by decide +kernel
theorem d12_27 : decode method_5_code 27 = .ok (.iconst 0, 1) := by decide +kernel
theorem d12_28 : decode method_5_code 28 = .ok (.ireturn, 1) := by decide +kernel
theorem d12_29 : decode method_5_code 29 = .ok (.iconst 0, 1) := by decide +kernel
theorem d12_30 : decode method_5_code 30 = .ok (.ireturn, 1) := by decide +kernel
theorem pn_12 : plainName cN1 = true := by first | (simp [plainName, overriddenIn]; done) | decide +kernel
theorem ef_12 (m : MethodId) (x0 : Int64) (x1 : Int64) (x2 : Int64) (x3 : Int64) : entryFrame m #[(.long x0), (.long x1), (.long x2), (.long x3)] 8 = mkF m 0 #[.val (.long x0), .second, .val (.long x1), .second, .val (.long x2), .second, .val (.long x3), .second] [] := by first | (simp [entryFrame, mkF, argsToLocals, Value.category]; done) | rfl
def o12 (x1 : Int64) (x2 : Int64) (x3 : Int64) (x4 : Int64) : Int32 := (if x1 < x3 then (1 : Int32) else (if x1 = x3 then (if x2 < x4 then (1 : Int32) else (0 : Int32)) else (0 : Int32)))
theorem o69 (x1 : Int64) (x2 : Int64) (x3 : Int64) (x4 : Int64) : (o12 x1 x2 x3 x4) = 0 ∨ (o12 x1 x2 x3 x4) = 1 := by
  unfold o12
  repeat' split
  all_goals first | with_reducible exact Or.inl rfl | with_reducible exact Or.inr rfl
def Q12 (Z : State) (x1 : Int64) (x2 : Int64) (x3 : Int64) (x4 : Int64) (h0 : Heap) (n0 : Nat) (v : Option Value) (h : Heap) (L : List Loc) : Prop := v = some (.int (o12 x1 x2 x3 x4)) ∧ Fr n0 L ∧ h = h0
set_option maxRecDepth 65536 in
set_option maxHeartbeats 40000000 in
theorem rm12 (l : Launch) (Z : State) (a0 : Array Value) (hw : ∀ d ∈ tables_1, d.before a0 Z = true) (ws : List Jvm.Cond) (x1 : Int64) (x2 : Int64) (x3 : Int64) (x4 : Int64) (h0 : Heap) (n0 : Nat) (Z0 : n0 ≤ h0.size)  :
    Con l (⟨cN1, "before", "(JJJJ)Z"⟩ : MethodName) method_5_code 8 (some .boolean) ws ({ frames := 0, cells := 0, slots := 0, locals := 0 } : Room) #[(.long x1), (.long x2), (.long x3), (.long x4)] Z h0 (Q12 Z x1 x2 x3 x4 h0 n0) ({ frames := 0, cells := 0, slots := 0, locals := 0 } : Room).cells ({ frames := 0, cells := 0, slots := 0, locals := 0 } : Room).slots := by
  refine own_body (plainFor_of_name pn_12) ?_
  intro p e s m below meth c s₁ hx hby hlk hml hown hnm hrt hZ X0 e0
  have w : ∀ (k : Nat) (d : Jvm.Cond), tables_1[k]? = some d → d.before a0 Z = true := fun k d h => hw d (List.mem_of_getElem? h)
  have N0 := Fr.nil n0
  rw [ef_12]
  generalize hOWE : Owe s _ _ _ = OWE
  refine o_lloadN X0 hx (hb hby d12_0) (pc' := 1) rfl rfl ?_
  refine o_lload X0 hx (hb hby d12_1) (pc' := 3) rfl rfl ?_
  refine o_lcmp X0 hx (hb hby d12_3) (pc' := 4) rfl ?_
  by_cases hc4_1 : x1 < x3
  · refine o_ifN X0 hx (hb hby d12_4) (tltL hc4_1).2.1 (pc' := 7) rfl ?_
    refine o_iconst X0 hx (1 : Int32) (hb hby d12_7) (pc' := 8) rfl (by decide) ?_
    rw [← hOWE]
    exact o_retZ X0 hx rfl hlk hrt (hb hby d12_8) (by decide) (by decide) (by rw [e0]; exact ⟨(by rw [o12, if_pos hc4_1]), N0, rfl⟩)
  · refine o_ifY X0 hx (hb hby d12_4) (fltL hc4_1).2.1 (by decide) (pc' := 9) (by decide) ?_
    refine o_lloadN X0 hx (hb hby d12_9) (pc' := 10) rfl rfl ?_
    refine o_lload X0 hx (hb hby d12_10) (pc' := 12) rfl rfl ?_
    refine o_lcmp X0 hx (hb hby d12_12) (pc' := 13) rfl ?_
    by_cases hc13_2 : x1 = x3
    · refine o_ifN X0 hx (hb hby d12_13) (teqL hc13_2).2 (pc' := 16) rfl ?_
      refine o_lloadN X0 hx (hb hby d12_16) (pc' := 17) rfl rfl ?_
      refine o_lload X0 hx (hb hby d12_17) (pc' := 19) rfl rfl ?_
      refine o_lcmp X0 hx (hb hby d12_19) (pc' := 20) rfl ?_
      by_cases hc20_3 : x2 < x4
      · refine o_ifN X0 hx (hb hby d12_20) (tltL hc20_3).2.1 (pc' := 23) rfl ?_
        refine o_iconst X0 hx (1 : Int32) (hb hby d12_23) (pc' := 24) rfl (by decide) ?_
        refine o_goto X0 hx (hb hby d12_24) (by decide) (pc' := 28) (by decide) ?_
        rw [← hOWE]
        exact o_retZ X0 hx rfl hlk hrt (hb hby d12_28) (by decide) (by decide) (by rw [e0]; exact ⟨(by rw [o12, if_neg hc4_1, if_pos hc13_2, if_pos hc20_3]), N0, rfl⟩)
      · refine o_ifY X0 hx (hb hby d12_20) (fltL hc20_3).2.1 (by decide) (pc' := 27) (by decide) ?_
        refine o_iconst X0 hx (0 : Int32) (hb hby d12_27) (pc' := 28) rfl (by decide) ?_
        rw [← hOWE]
        exact o_retZ X0 hx rfl hlk hrt (hb hby d12_28) (by decide) (by decide) (by rw [e0]; exact ⟨(by rw [o12, if_neg hc4_1, if_pos hc13_2, if_neg hc20_3]), N0, rfl⟩)
    · refine o_ifY X0 hx (hb hby d12_13) (feqL hc13_2).2 (by decide) (pc' := 29) (by decide) ?_
      refine o_iconst X0 hx (0 : Int32) (hb hby d12_29) (pc' := 30) rfl (by decide) ?_
      rw [← hOWE]
      exact o_retZ X0 hx rfl hlk hrt (hb hby d12_30) (by decide) (by decide) (by rw [e0]; exact ⟨(by rw [o12, if_neg hc4_1, if_neg hc13_2]), N0, rfl⟩)
theorem d11_0 : decode method_4_code 0 = .ok (.iload_n 0, 1) := by decide +kernel
theorem d11_1 : decode method_4_code 1 = .ok (.ifCond .eq 19, 3) := by decide +kernel
theorem d11_4 : decode method_4_code 4 = .ok (.iconst 0, 1) := by decide +kernel
theorem d11_5 : decode method_4_code 5 = .ok (.iload_n 1, 1) := by decide +kernel
theorem d11_6 : decode method_4_code 6 = .ok (.if_icmp .gt 12, 3) := by decide +kernel
theorem d11_9 : decode method_4_code 9 = .ok (.iload_n 1, 1) := by decide +kernel
theorem d11_10 : decode method_4_code 10 = .ok (.iload_n 2, 1) := by decide +kernel
theorem d11_11 : decode method_4_code 11 = .ok (.if_icmp .ge 7, 3) := by decide +kernel
theorem d11_14 : decode method_4_code 14 = .ok (.iconst 1, 1) := by decide +kernel
theorem d11_15 : decode method_4_code 15 = .ok (.goto 4, 3) := by decide +kernel
theorem d11_18 : decode method_4_code 18 = .ok (.iconst 0, 1) := by decide +kernel
theorem d11_19 : decode method_4_code 19 = .ok (.ireturn, 1) := by decide +kernel
theorem d11_20 : decode method_4_code 20 = .ok (.iload_n 1, 1) := by decide +kernel
theorem d11_21 : decode method_4_code 21 = .ok (.iconst (-1), 1) := by decide +kernel
theorem d11_22 : decode method_4_code 22 = .ok (.if_icmp .ne 7, 3) := by decide +kernel
theorem d11_25 : decode method_4_code 25 = .ok (.iconst 1, 1) := by decide +kernel
theorem d11_26 : decode method_4_code 26 = .ok (.goto 4, 3) := by decide +kernel
theorem d11_29 : decode method_4_code 29 = .ok (.iconst 0, 1) := by decide +kernel
theorem d11_30 : decode method_4_code 30 = .ok (.ireturn, 1) := by decide +kernel
theorem ef_11 (m : MethodId) (x0 : Int32) (x1 : Int32) (x2 : Int32) : entryFrame m #[(.int x0), (.int x1), (.int x2)] 3 = mkF m 0 #[.val (.int x0), .val (.int x1), .val (.int x2)] [] := by first | (simp [entryFrame, mkF, argsToLocals, Value.category]; done) | rfl
def o11 (x1 : Int32) (x2 : Int32) (x3 : Int32) : Int32 := (if x1 = (0 : Int32) then (if x2 = (-1 : Int32) then (1 : Int32) else (0 : Int32)) else (if x2 < (0 : Int32) then (0 : Int32) else (if x2 < x3 then (1 : Int32) else (0 : Int32))))
theorem o70 (x1 : Int32) (x2 : Int32) (x3 : Int32) : (o11 x1 x2 x3) = 0 ∨ (o11 x1 x2 x3) = 1 := by
  unfold o11
  repeat' split
  all_goals first | with_reducible exact Or.inl rfl | with_reducible exact Or.inr rfl
def Q11 (Z : State) (x1 : Int32) (x2 : Int32) (x3 : Int32) (h0 : Heap) (n0 : Nat) (v : Option Value) (h : Heap) (L : List Loc) : Prop := v = some (.int (o11 x1 x2 x3)) ∧ Fr n0 L ∧ h = h0
set_option maxRecDepth 65536 in
set_option maxHeartbeats 40000000 in
theorem rm11 (l : Launch) (Z : State) (a0 : Array Value) (hw : ∀ d ∈ tables_1, d.before a0 Z = true) (ws : List Jvm.Cond) (x1 : Int32) (x2 : Int32) (x3 : Int32) (h0 : Heap) (n0 : Nat) (Z0 : n0 ≤ h0.size)  :
    Con l (⟨cN1, "place", "(ZII)Z"⟩ : MethodName) method_4_code 3 (some .boolean) ws ({ frames := 0, cells := 0, slots := 0, locals := 0 } : Room) #[(.int x1), (.int x2), (.int x3)] Z h0 (Q11 Z x1 x2 x3 h0 n0) ({ frames := 0, cells := 0, slots := 0, locals := 0 } : Room).cells ({ frames := 0, cells := 0, slots := 0, locals := 0 } : Room).slots := by
  refine own_body (plainFor_of_name pn_12) ?_
  intro p e s m below meth c s₁ hx hby hlk hml hown hnm hrt hZ X0 e0
  have w : ∀ (k : Nat) (d : Jvm.Cond), tables_1[k]? = some d → d.before a0 Z = true := fun k d h => hw d (List.mem_of_getElem? h)
  have N0 := Fr.nil n0
  rw [ef_11]
  generalize hOWE : Owe s _ _ _ = OWE
  refine o_iloadN X0 hx (hb hby d11_0) (pc' := 1) rfl rfl ?_
  by_cases hc1_1 : x1 = (0 : Int32)
  · refine o_ifY X0 hx (hb hby d11_1) (teq hc1_1).1 (by decide) (pc' := 20) (by decide) ?_
    refine o_iloadN X0 hx (hb hby d11_20) (pc' := 21) rfl rfl ?_
    refine o_iconst X0 hx (-1 : Int32) (hb hby d11_21) (pc' := 22) rfl (by decide) ?_
    by_cases hc22_2 : x2 = (-1 : Int32)
    · refine o_cmpN X0 hx (hb hby d11_22) (teq hc22_2).2 (pc' := 25) rfl ?_
      refine o_iconst X0 hx (1 : Int32) (hb hby d11_25) (pc' := 26) rfl (by decide) ?_
      refine o_goto X0 hx (hb hby d11_26) (by decide) (pc' := 30) (by decide) ?_
      rw [← hOWE]
      exact o_retZ X0 hx rfl hlk hrt (hb hby d11_30) (by decide) (by decide) (by rw [e0]; exact ⟨(by rw [o11, if_pos hc1_1, if_pos hc22_2]), N0, rfl⟩)
    · refine o_cmpY X0 hx (hb hby d11_22) (feq hc22_2).2 (by decide) (pc' := 29) (by decide) ?_
      refine o_iconst X0 hx (0 : Int32) (hb hby d11_29) (pc' := 30) rfl (by decide) ?_
      rw [← hOWE]
      exact o_retZ X0 hx rfl hlk hrt (hb hby d11_30) (by decide) (by decide) (by rw [e0]; exact ⟨(by rw [o11, if_pos hc1_1, if_neg hc22_2]), N0, rfl⟩)
  · refine o_ifN X0 hx (hb hby d11_1) (feq hc1_1).1 (pc' := 4) rfl ?_
    refine o_iconst X0 hx (0 : Int32) (hb hby d11_4) (pc' := 5) rfl (by decide) ?_
    refine o_iloadN X0 hx (hb hby d11_5) (pc' := 6) rfl rfl ?_
    by_cases hc6_3 : x2 < (0 : Int32)
    · refine o_cmpY X0 hx (hb hby d11_6) (tlt hc6_3).2.2.1 (by decide) (pc' := 18) (by decide) ?_
      refine o_iconst X0 hx (0 : Int32) (hb hby d11_18) (pc' := 19) rfl (by decide) ?_
      rw [← hOWE]
      exact o_retZ X0 hx rfl hlk hrt (hb hby d11_19) (by decide) (by decide) (by rw [e0]; exact ⟨(by rw [o11, if_neg hc1_1, if_pos hc6_3]), N0, rfl⟩)
    · refine o_cmpN X0 hx (hb hby d11_6) (flt hc6_3).2.2.1 (pc' := 9) rfl ?_
      refine o_iloadN X0 hx (hb hby d11_9) (pc' := 10) rfl rfl ?_
      refine o_iloadN X0 hx (hb hby d11_10) (pc' := 11) rfl rfl ?_
      by_cases hc11_4 : x2 < x3
      · refine o_cmpN X0 hx (hb hby d11_11) (tlt hc11_4).2.1 (pc' := 14) rfl ?_
        refine o_iconst X0 hx (1 : Int32) (hb hby d11_14) (pc' := 15) rfl (by decide) ?_
        refine o_goto X0 hx (hb hby d11_15) (by decide) (pc' := 19) (by decide) ?_
        rw [← hOWE]
        exact o_retZ X0 hx rfl hlk hrt (hb hby d11_19) (by decide) (by decide) (by rw [e0]; exact ⟨(by rw [o11, if_neg hc1_1, if_neg hc6_3, if_pos hc11_4]), N0, rfl⟩)
      · refine o_cmpY X0 hx (hb hby d11_11) (flt hc11_4).2.1 (by decide) (pc' := 18) (by decide) ?_
        refine o_iconst X0 hx (0 : Int32) (hb hby d11_18) (pc' := 19) rfl (by decide) ?_
        rw [← hOWE]
        exact o_retZ X0 hx rfl hlk hrt (hb hby d11_19) (by decide) (by decide) (by rw [e0]; exact ⟨(by rw [o11, if_neg hc1_1, if_neg hc6_3, if_neg hc11_4]), N0, rfl⟩)
theorem d10_0 : decode method_3_code 0 = .ok (.iload_n 0, 1) := by decide +kernel
theorem d10_1 : decode method_3_code 1 = .ok (.ifCond .eq 7, 3) := by decide +kernel
theorem d10_4 : decode method_3_code 4 = .ok (.iconst 1, 1) := by decide +kernel
theorem d10_5 : decode method_3_code 5 = .ok (.goto 4, 3) := by decide +kernel
theorem d10_8 : decode method_3_code 8 = .ok (.iconst 0, 1) := by decide +kernel
theorem d10_9 : decode method_3_code 9 = .ok (.iload_n 1, 1) := by decide +kernel
theorem d10_10 : decode method_3_code 10 = .ok (.ifCond .eq 7, 3) := by decide +kernel
theorem d10_13 : decode method_3_code 13 = .ok (.iconst 1, 1) := by decide +kernel
theorem d10_14 : decode method_3_code 14 = .ok (.goto 4, 3) := by decide +kernel
theorem d10_17 : decode method_3_code 17 = .ok (.iconst 0, 1) := by decide +kernel
theorem d10_18 : decode method_3_code 18 = .ok (.iadd, 1) := by decide +kernel
theorem d10_19 : decode method_3_code 19 = .ok (.iload_n 2, 1) := by decide +kernel
theorem d10_20 : decode method_3_code 20 = .ok (.ifCond .eq 7, 3) := by decide +kernel
theorem d10_23 : decode method_3_code 23 = .ok (.iconst 1, 1) := by decide +kernel
theorem d10_24 : decode method_3_code 24 = .ok (.goto 4, 3) := by decide +kernel
theorem d10_27 : decode method_3_code 27 = .ok (.iconst 0, 1) := by decide +kernel
theorem d10_28 : decode method_3_code 28 = .ok (.iadd, 1) := by decide +kernel
theorem d10_29 : decode method_3_code 29 = .ok (.istore 18, 2) := by decide +kernel
theorem d10_31 : decode method_3_code 31 = .ok (.iload_n 0, 1) := by decide +kernel
theorem d10_32 : decode method_3_code 32 = .ok (.iload_n 3, 1) := by decide +kernel
theorem d10_33 : decode method_3_code 33 = .ok (.iload 18, 2) := by decide +kernel
theorem d10_35 : decode method_3_code 35 = .ok (.invokestatic 30, 3) := by decide +kernel
theorem d10_38 : decode method_3_code 38 = .ok (.ifCond .eq 25, 3) := by decide +kernel
theorem d10_41 : decode method_3_code 41 = .ok (.iload_n 1, 1) := by decide +kernel
theorem d10_42 : decode method_3_code 42 = .ok (.iload 4, 2) := by decide +kernel
theorem d10_44 : decode method_3_code 44 = .ok (.iload 18, 2) := by decide +kernel
theorem d10_46 : decode method_3_code 46 = .ok (.invokestatic 30, 3) := by decide +kernel
theorem d10_49 : decode method_3_code 49 = .ok (.ifCond .eq 14, 3) := by decide +kernel
theorem d10_52 : decode method_3_code 52 = .ok (.iload_n 2, 1) := by decide +kernel
theorem d10_53 : decode method_3_code 53 = .ok (.iload 5, 2) := by decide +kernel
theorem d10_55 : decode method_3_code 55 = .ok (.iload 18, 2) := by decide +kernel
theorem d10_57 : decode method_3_code 57 = .ok (.invokestatic 30, 3) := by decide +kernel
theorem d10_60 : decode method_3_code 60 = .ok (.ifCond .ne 5, 3) := by decide +kernel
theorem d10_63 : decode method_3_code 63 = .ok (.iconst 0, 1) := by decide +kernel
theorem d10_64 : decode method_3_code 64 = .ok (.ireturn, 1) := by decide +kernel
theorem d10_65 : decode method_3_code 65 = .ok (.iload_n 0, 1) := by decide +kernel
theorem d10_66 : decode method_3_code 66 = .ok (.ifCond .eq 15, 3) := by decide +kernel
theorem d10_69 : decode method_3_code 69 = .ok (.iload_n 1, 1) := by decide +kernel
theorem d10_70 : decode method_3_code 70 = .ok (.ifCond .eq 11, 3) := by decide +kernel
theorem d10_73 : decode method_3_code 73 = .ok (.iload_n 3, 1) := by decide +kernel
theorem d10_74 : decode method_3_code 74 = .ok (.iload 4, 2) := by decide +kernel
theorem d10_76 : decode method_3_code 76 = .ok (.if_icmp .ne 5, 3) := by decide +kernel
theorem d10_79 : decode method_3_code 79 = .ok (.iconst 0, 1) := by decide +kernel
theorem d10_80 : decode method_3_code 80 = .ok (.ireturn, 1) := by decide +kernel
theorem d10_81 : decode method_3_code 81 = .ok (.iload_n 0, 1) := by decide +kernel
theorem d10_82 : decode method_3_code 82 = .ok (.ifCond .eq 15, 3) := by decide +kernel
theorem d10_85 : decode method_3_code 85 = .ok (.iload_n 2, 1) := by decide +kernel
theorem d10_86 : decode method_3_code 86 = .ok (.ifCond .eq 11, 3) := by decide +kernel
theorem d10_89 : decode method_3_code 89 = .ok (.iload_n 3, 1) := by decide +kernel
theorem d10_90 : decode method_3_code 90 = .ok (.iload 5, 2) := by decide +kernel
theorem d10_92 : decode method_3_code 92 = .ok (.if_icmp .ne 5, 3) := by decide +kernel
theorem d10_95 : decode method_3_code 95 = .ok (.iconst 0, 1) := by decide +kernel
theorem d10_96 : decode method_3_code 96 = .ok (.ireturn, 1) := by decide +kernel
theorem d10_97 : decode method_3_code 97 = .ok (.iload_n 1, 1) := by decide +kernel
theorem d10_98 : decode method_3_code 98 = .ok (.ifCond .eq 16, 3) := by decide +kernel
theorem d10_101 : decode method_3_code 101 = .ok (.iload_n 2, 1) := by decide +kernel
theorem d10_102 : decode method_3_code 102 = .ok (.ifCond .eq 12, 3) := by decide +kernel
theorem d10_105 : decode method_3_code 105 = .ok (.iload 4, 2) := by decide +kernel
theorem d10_107 : decode method_3_code 107 = .ok (.iload 5, 2) := by decide +kernel
theorem d10_109 : decode method_3_code 109 = .ok (.if_icmp .ne 5, 3) := by decide +kernel
theorem d10_112 : decode method_3_code 112 = .ok (.iconst 0, 1) := by decide +kernel
theorem d10_113 : decode method_3_code 113 = .ok (.ireturn, 1) := by decide +kernel
theorem d10_114 : decode method_3_code 114 = .ok (.iload_n 0, 1) := by decide +kernel
theorem d10_115 : decode method_3_code 115 = .ok (.ifCond .eq 45, 3) := by decide +kernel
theorem d10_118 : decode method_3_code 118 = .ok (.iload_n 1, 1) := by decide +kernel
theorem d10_119 : decode method_3_code 119 = .ok (.ifCond .eq 17, 3) := by decide +kernel
theorem d10_122 : decode method_3_code 122 = .ok (.lload 6, 2) := by decide +kernel
theorem d10_124 : decode method_3_code 124 = .ok (.lload 8, 2) := by decide +kernel
theorem d10_126 : decode method_3_code 126 = .ok (.lload 10, 2) := by decide +kernel
theorem d10_128 : decode method_3_code 128 = .ok (.lload 12, 2) := by decide +kernel
theorem d10_130 : decode method_3_code 130 = .ok (.invokestatic 34, 3) := by decide +kernel
theorem d10_133 : decode method_3_code 133 = .ok (.ifCond .eq 27, 3) := by decide +kernel
theorem d10_136 : decode method_3_code 136 = .ok (.iload_n 2, 1) := by decide +kernel
theorem d10_137 : decode method_3_code 137 = .ok (.ifCond .eq 17, 3) := by decide +kernel
theorem d10_140 : decode method_3_code 140 = .ok (.lload 6, 2) := by decide +kernel
theorem d10_142 : decode method_3_code 142 = .ok (.lload 8, 2) := by decide +kernel
theorem d10_144 : decode method_3_code 144 = .ok (.lload 14, 2) := by decide +kernel
theorem d10_146 : decode method_3_code 146 = .ok (.lload 16, 2) := by decide +kernel
theorem d10_148 : decode method_3_code 148 = .ok (.invokestatic 34, 3) := by decide +kernel
theorem d10_151 : decode method_3_code 151 = .ok (.ifCond .eq 9, 3) := by decide +kernel
theorem d10_154 : decode method_3_code 154 = .ok (.iload_n 3, 1) := by decide +kernel
theorem d10_155 : decode method_3_code 155 = .ok (.ifCond .eq 5, 3) := by decide +kernel
theorem d10_158 : decode method_3_code 158 = .ok (.iconst 0, 1) := by decide +kernel
theorem d10_159 : decode method_3_code 159 = .ok (.ireturn, 1) := by decide +kernel
theorem d10_160 : decode method_3_code 160 = .ok (.iload_n 1, 1) := by decide +kernel
theorem d10_161 : decode method_3_code 161 = .ok (.ifCond .eq 46, 3) := by decide +kernel
theorem d10_164 : decode method_3_code 164 = .ok (.iload_n 0, 1) := by decide +kernel
theorem d10_165 : decode method_3_code 165 = .ok (.ifCond .eq 17, 3) := by decide +kernel
theorem d10_168 : decode method_3_code 168 = .ok (.lload 10, 2) := by decide +kernel
theorem d10_170 : decode method_3_code 170 = .ok (.lload 12, 2) := by decide +kernel
theorem d10_172 : decode method_3_code 172 = .ok (.lload 6, 2) := by decide +kernel
theorem d10_174 : decode method_3_code 174 = .ok (.lload 8, 2) := by decide +kernel
theorem d10_176 : decode method_3_code 176 = .ok (.invokestatic 34, 3) := by decide +kernel
theorem d10_179 : decode method_3_code 179 = .ok (.ifCond .eq 28, 3) := by decide +kernel
theorem d10_182 : decode method_3_code 182 = .ok (.iload_n 2, 1) := by decide +kernel
theorem d10_183 : decode method_3_code 183 = .ok (.ifCond .eq 17, 3) := by decide +kernel
theorem d10_186 : decode method_3_code 186 = .ok (.lload 10, 2) := by decide +kernel
theorem d10_188 : decode method_3_code 188 = .ok (.lload 12, 2) := by decide +kernel
theorem d10_190 : decode method_3_code 190 = .ok (.lload 14, 2) := by decide +kernel
theorem d10_192 : decode method_3_code 192 = .ok (.lload 16, 2) := by decide +kernel
theorem d10_194 : decode method_3_code 194 = .ok (.invokestatic 34, 3) := by decide +kernel
theorem d10_197 : decode method_3_code 197 = .ok (.ifCond .eq 10, 3) := by decide +kernel
theorem d10_200 : decode method_3_code 200 = .ok (.iload 4, 2) := by decide +kernel
theorem d10_202 : decode method_3_code 202 = .ok (.ifCond .eq 5, 3) := by decide +kernel
theorem d10_205 : decode method_3_code 205 = .ok (.iconst 0, 1) := by decide +kernel
theorem d10_206 : decode method_3_code 206 = .ok (.ireturn, 1) := by decide +kernel
theorem d10_207 : decode method_3_code 207 = .ok (.iload_n 2, 1) := by decide +kernel
theorem d10_208 : decode method_3_code 208 = .ok (.ifCond .eq 46, 3) := by decide +kernel
theorem d10_211 : decode method_3_code 211 = .ok (.iload_n 0, 1) := by decide +kernel
theorem d10_212 : decode method_3_code 212 = .ok (.ifCond .eq 17, 3) := by decide +kernel
theorem d10_215 : decode method_3_code 215 = .ok (.lload 14, 2) := by decide +kernel
theorem d10_217 : decode method_3_code 217 = .ok (.lload 16, 2) := by decide +kernel
theorem d10_219 : decode method_3_code 219 = .ok (.lload 6, 2) := by decide +kernel
theorem d10_221 : decode method_3_code 221 = .ok (.lload 8, 2) := by decide +kernel
theorem d10_223 : decode method_3_code 223 = .ok (.invokestatic 34, 3) := by decide +kernel
theorem d10_226 : decode method_3_code 226 = .ok (.ifCond .eq 28, 3) := by decide +kernel
theorem d10_229 : decode method_3_code 229 = .ok (.iload_n 1, 1) := by decide +kernel
theorem d10_230 : decode method_3_code 230 = .ok (.ifCond .eq 17, 3) := by decide +kernel
theorem d10_233 : decode method_3_code 233 = .ok (.lload 14, 2) := by decide +kernel
theorem d10_235 : decode method_3_code 235 = .ok (.lload 16, 2) := by decide +kernel
theorem d10_237 : decode method_3_code 237 = .ok (.lload 10, 2) := by decide +kernel
theorem d10_239 : decode method_3_code 239 = .ok (.lload 12, 2) := by decide +kernel
theorem d10_241 : decode method_3_code 241 = .ok (.invokestatic 34, 3) := by decide +kernel
theorem d10_244 : decode method_3_code 244 = .ok (.ifCond .eq 10, 3) := by decide +kernel
theorem d10_247 : decode method_3_code 247 = .ok (.iload 5, 2) := by decide +kernel
theorem d10_249 : decode method_3_code 249 = .ok (.ifCond .eq 5, 3) := by decide +kernel
theorem d10_252 : decode method_3_code 252 = .ok (.iconst 0, 1) := by decide +kernel
theorem d10_253 : decode method_3_code 253 = .ok (.ireturn, 1) := by decide +kernel
theorem d10_254 : decode method_3_code 254 = .ok (.iconst 1, 1) := by decide +kernel
theorem d10_255 : decode method_3_code 255 = .ok (.ireturn, 1) := by decide +kernel
theorem ef_10 (m : MethodId) (x0 : Int32) (x1 : Int32) (x2 : Int32) (x3 : Int32) (x4 : Int32) (x5 : Int32) (x6 : Int64) (x7 : Int64) (x8 : Int64) (x9 : Int64) (x10 : Int64) (x11 : Int64) : entryFrame m #[(.int x0), (.int x1), (.int x2), (.int x3), (.int x4), (.int x5), (.long x6), (.long x7), (.long x8), (.long x9), (.long x10), (.long x11)] 19 = mkF m 0 #[.val (.int x0), .val (.int x1), .val (.int x2), .val (.int x3), .val (.int x4), .val (.int x5), .val (.long x6), .second, .val (.long x7), .second, .val (.long x8), .second, .val (.long x9), .second, .val (.long x10), .second, .val (.long x11), .second, .unset] [] := by first | (simp [entryFrame, mkF, argsToLocals, Value.category]; done) | rfl
def o18 (x1 : Int32) (x2 : Int32) (x3 : Int32) (x4 : Int32) (x5 : Int32) (x6 : Int32) (z1 : Int64) (z2 : Int64) (z3 : Int64) (z4 : Int64) (z5 : Int64) (z6 : Int64) : Int32 := (if x1 = (0 : Int32) then (0 : Int32) else (1 : Int32))
theorem o71 (x1 : Int32) (x2 : Int32) (x3 : Int32) (x4 : Int32) (x5 : Int32) (x6 : Int32) (z1 : Int64) (z2 : Int64) (z3 : Int64) (z4 : Int64) (z5 : Int64) (z6 : Int64) : (o18 x1 x2 x3 x4 x5 x6 z1 z2 z3 z4 z5 z6) = 0 ∨ (o18 x1 x2 x3 x4 x5 x6 z1 z2 z3 z4 z5 z6) = 1 := by
  unfold o18
  by_cases h0 : x1 = (0 : Int32)
  · rw [if_pos h0]
    exact Or.inl rfl
  · rw [if_neg h0]
    exact Or.inr rfl
def o25 (x1 : Int32) (x2 : Int32) (x3 : Int32) (x4 : Int32) (x5 : Int32) (x6 : Int32) (z1 : Int64) (z2 : Int64) (z3 : Int64) (z4 : Int64) (z5 : Int64) (z6 : Int64) : Int32 := (if x2 = (0 : Int32) then (0 : Int32) else (1 : Int32))
theorem o72 (x1 : Int32) (x2 : Int32) (x3 : Int32) (x4 : Int32) (x5 : Int32) (x6 : Int32) (z1 : Int64) (z2 : Int64) (z3 : Int64) (z4 : Int64) (z5 : Int64) (z6 : Int64) : (o25 x1 x2 x3 x4 x5 x6 z1 z2 z3 z4 z5 z6) = 0 ∨ (o25 x1 x2 x3 x4 x5 x6 z1 z2 z3 z4 z5 z6) = 1 := by
  unfold o25
  by_cases h0 : x2 = (0 : Int32)
  · rw [if_pos h0]
    exact Or.inl rfl
  · rw [if_neg h0]
    exact Or.inr rfl
def o33 (x1 : Int32) (x2 : Int32) (x3 : Int32) (x4 : Int32) (x5 : Int32) (x6 : Int32) (z1 : Int64) (z2 : Int64) (z3 : Int64) (z4 : Int64) (z5 : Int64) (z6 : Int64) : Int32 := (if x3 = (0 : Int32) then (0 : Int32) else (1 : Int32))
theorem o73 (x1 : Int32) (x2 : Int32) (x3 : Int32) (x4 : Int32) (x5 : Int32) (x6 : Int32) (z1 : Int64) (z2 : Int64) (z3 : Int64) (z4 : Int64) (z5 : Int64) (z6 : Int64) : (o33 x1 x2 x3 x4 x5 x6 z1 z2 z3 z4 z5 z6) = 0 ∨ (o33 x1 x2 x3 x4 x5 x6 z1 z2 z3 z4 z5 z6) = 1 := by
  unfold o33
  by_cases h0 : x3 = (0 : Int32)
  · rw [if_pos h0]
    exact Or.inl rfl
  · rw [if_neg h0]
    exact Or.inr rfl
def o6 (x1 : Int32) (x2 : Int32) (x3 : Int32) (x4 : Int32) (x5 : Int32) (x6 : Int32) (z1 : Int64) (z2 : Int64) (z3 : Int64) (z4 : Int64) (z5 : Int64) (z6 : Int64) : Int32 := (((o18 x1 x2 x3 x4 x5 x6 z1 z2 z3 z4 z5 z6) + (o25 x1 x2 x3 x4 x5 x6 z1 z2 z3 z4 z5 z6)) + (o33 x1 x2 x3 x4 x5 x6 z1 z2 z3 z4 z5 z6))
def o19 (x1 : Int32) (x2 : Int32) (x3 : Int32) (x4 : Int32) (x5 : Int32) (x6 : Int32) (z1 : Int64) (z2 : Int64) (z3 : Int64) (z4 : Int64) (z5 : Int64) (z6 : Int64) : Int32 := (1 : Int32)
def o26 (x1 : Int32) (x2 : Int32) (x3 : Int32) (x4 : Int32) (x5 : Int32) (x6 : Int32) (z1 : Int64) (z2 : Int64) (z3 : Int64) (z4 : Int64) (z5 : Int64) (z6 : Int64) : Int32 := (if x6 = (0 : Int32) then (o19 x1 x2 x3 x4 x5 x6 z1 z2 z3 z4 z5 z6) else (0 : Int32))
def o20 (x1 : Int32) (x2 : Int32) (x3 : Int32) (x4 : Int32) (x5 : Int32) (x6 : Int32) (z1 : Int64) (z2 : Int64) (z3 : Int64) (z4 : Int64) (z5 : Int64) (z6 : Int64) : Int32 := (if x2 = (0 : Int32) then (o26 x1 x2 x3 x4 x5 x6 z1 z2 z3 z4 z5 z6) else (if (o12 z5 z6 z3 z4) = (0 : Int32) then (o19 x1 x2 x3 x4 x5 x6 z1 z2 z3 z4 z5 z6) else (o26 x1 x2 x3 x4 x5 x6 z1 z2 z3 z4 z5 z6)))
def o13 (x1 : Int32) (x2 : Int32) (x3 : Int32) (x4 : Int32) (x5 : Int32) (x6 : Int32) (z1 : Int64) (z2 : Int64) (z3 : Int64) (z4 : Int64) (z5 : Int64) (z6 : Int64) : Int32 := (if x3 = (0 : Int32) then (o19 x1 x2 x3 x4 x5 x6 z1 z2 z3 z4 z5 z6) else (if x1 = (0 : Int32) then (o20 x1 x2 x3 x4 x5 x6 z1 z2 z3 z4 z5 z6) else (if (o12 z5 z6 z1 z2) = (0 : Int32) then (o19 x1 x2 x3 x4 x5 x6 z1 z2 z3 z4 z5 z6) else (o20 x1 x2 x3 x4 x5 x6 z1 z2 z3 z4 z5 z6))))
def o27 (x1 : Int32) (x2 : Int32) (x3 : Int32) (x4 : Int32) (x5 : Int32) (x6 : Int32) (z1 : Int64) (z2 : Int64) (z3 : Int64) (z4 : Int64) (z5 : Int64) (z6 : Int64) : Int32 := (if x5 = (0 : Int32) then (o13 x1 x2 x3 x4 x5 x6 z1 z2 z3 z4 z5 z6) else (0 : Int32))
def o21 (x1 : Int32) (x2 : Int32) (x3 : Int32) (x4 : Int32) (x5 : Int32) (x6 : Int32) (z1 : Int64) (z2 : Int64) (z3 : Int64) (z4 : Int64) (z5 : Int64) (z6 : Int64) : Int32 := (if x3 = (0 : Int32) then (o27 x1 x2 x3 x4 x5 x6 z1 z2 z3 z4 z5 z6) else (if (o12 z3 z4 z5 z6) = (0 : Int32) then (o13 x1 x2 x3 x4 x5 x6 z1 z2 z3 z4 z5 z6) else (o27 x1 x2 x3 x4 x5 x6 z1 z2 z3 z4 z5 z6)))
def o14 (x1 : Int32) (x2 : Int32) (x3 : Int32) (x4 : Int32) (x5 : Int32) (x6 : Int32) (z1 : Int64) (z2 : Int64) (z3 : Int64) (z4 : Int64) (z5 : Int64) (z6 : Int64) : Int32 := (if x2 = (0 : Int32) then (o13 x1 x2 x3 x4 x5 x6 z1 z2 z3 z4 z5 z6) else (if x1 = (0 : Int32) then (o21 x1 x2 x3 x4 x5 x6 z1 z2 z3 z4 z5 z6) else (if (o12 z3 z4 z1 z2) = (0 : Int32) then (o13 x1 x2 x3 x4 x5 x6 z1 z2 z3 z4 z5 z6) else (o21 x1 x2 x3 x4 x5 x6 z1 z2 z3 z4 z5 z6))))
def o28 (x1 : Int32) (x2 : Int32) (x3 : Int32) (x4 : Int32) (x5 : Int32) (x6 : Int32) (z1 : Int64) (z2 : Int64) (z3 : Int64) (z4 : Int64) (z5 : Int64) (z6 : Int64) : Int32 := (if x4 = (0 : Int32) then (o14 x1 x2 x3 x4 x5 x6 z1 z2 z3 z4 z5 z6) else (0 : Int32))
def o22 (x1 : Int32) (x2 : Int32) (x3 : Int32) (x4 : Int32) (x5 : Int32) (x6 : Int32) (z1 : Int64) (z2 : Int64) (z3 : Int64) (z4 : Int64) (z5 : Int64) (z6 : Int64) : Int32 := (if x3 = (0 : Int32) then (o28 x1 x2 x3 x4 x5 x6 z1 z2 z3 z4 z5 z6) else (if (o12 z1 z2 z5 z6) = (0 : Int32) then (o14 x1 x2 x3 x4 x5 x6 z1 z2 z3 z4 z5 z6) else (o28 x1 x2 x3 x4 x5 x6 z1 z2 z3 z4 z5 z6)))
def o15 (x1 : Int32) (x2 : Int32) (x3 : Int32) (x4 : Int32) (x5 : Int32) (x6 : Int32) (z1 : Int64) (z2 : Int64) (z3 : Int64) (z4 : Int64) (z5 : Int64) (z6 : Int64) : Int32 := (if x1 = (0 : Int32) then (o14 x1 x2 x3 x4 x5 x6 z1 z2 z3 z4 z5 z6) else (if x2 = (0 : Int32) then (o22 x1 x2 x3 x4 x5 x6 z1 z2 z3 z4 z5 z6) else (if (o12 z1 z2 z3 z4) = (0 : Int32) then (o14 x1 x2 x3 x4 x5 x6 z1 z2 z3 z4 z5 z6) else (o22 x1 x2 x3 x4 x5 x6 z1 z2 z3 z4 z5 z6))))
def o16 (x1 : Int32) (x2 : Int32) (x3 : Int32) (x4 : Int32) (x5 : Int32) (x6 : Int32) (z1 : Int64) (z2 : Int64) (z3 : Int64) (z4 : Int64) (z5 : Int64) (z6 : Int64) : Int32 := (if x2 = (0 : Int32) then (o15 x1 x2 x3 x4 x5 x6 z1 z2 z3 z4 z5 z6) else (if x3 = (0 : Int32) then (o15 x1 x2 x3 x4 x5 x6 z1 z2 z3 z4 z5 z6) else (if x5 = x6 then (0 : Int32) else (o15 x1 x2 x3 x4 x5 x6 z1 z2 z3 z4 z5 z6))))
def o17 (x1 : Int32) (x2 : Int32) (x3 : Int32) (x4 : Int32) (x5 : Int32) (x6 : Int32) (z1 : Int64) (z2 : Int64) (z3 : Int64) (z4 : Int64) (z5 : Int64) (z6 : Int64) : Int32 := (if x1 = (0 : Int32) then (o16 x1 x2 x3 x4 x5 x6 z1 z2 z3 z4 z5 z6) else (if x3 = (0 : Int32) then (o16 x1 x2 x3 x4 x5 x6 z1 z2 z3 z4 z5 z6) else (if x4 = x6 then (0 : Int32) else (o16 x1 x2 x3 x4 x5 x6 z1 z2 z3 z4 z5 z6))))
def o23 (x1 : Int32) (x2 : Int32) (x3 : Int32) (x4 : Int32) (x5 : Int32) (x6 : Int32) (z1 : Int64) (z2 : Int64) (z3 : Int64) (z4 : Int64) (z5 : Int64) (z6 : Int64) : Int32 := (if x1 = (0 : Int32) then (o17 x1 x2 x3 x4 x5 x6 z1 z2 z3 z4 z5 z6) else (if x2 = (0 : Int32) then (o17 x1 x2 x3 x4 x5 x6 z1 z2 z3 z4 z5 z6) else (if x4 = x5 then (0 : Int32) else (o17 x1 x2 x3 x4 x5 x6 z1 z2 z3 z4 z5 z6))))
def o29 (x1 : Int32) (x2 : Int32) (x3 : Int32) (x4 : Int32) (x5 : Int32) (x6 : Int32) (z1 : Int64) (z2 : Int64) (z3 : Int64) (z4 : Int64) (z5 : Int64) (z6 : Int64) : Int32 := (0 : Int32)
def o30 (x1 : Int32) (x2 : Int32) (x3 : Int32) (x4 : Int32) (x5 : Int32) (x6 : Int32) (z1 : Int64) (z2 : Int64) (z3 : Int64) (z4 : Int64) (z5 : Int64) (z6 : Int64) : Int32 := (if (o11 x1 x4 (o6 x1 x2 x3 x4 x5 x6 z1 z2 z3 z4 z5 z6)) = (0 : Int32) then (o29 x1 x2 x3 x4 x5 x6 z1 z2 z3 z4 z5 z6) else (if (o11 x2 x5 (o6 x1 x2 x3 x4 x5 x6 z1 z2 z3 z4 z5 z6)) = (0 : Int32) then (o29 x1 x2 x3 x4 x5 x6 z1 z2 z3 z4 z5 z6) else (if (o11 x3 x6 (o6 x1 x2 x3 x4 x5 x6 z1 z2 z3 z4 z5 z6)) = (0 : Int32) then (o29 x1 x2 x3 x4 x5 x6 z1 z2 z3 z4 z5 z6) else (o23 x1 x2 x3 x4 x5 x6 z1 z2 z3 z4 z5 z6))))
def o31 (x1 : Int32) (x2 : Int32) (x3 : Int32) (x4 : Int32) (x5 : Int32) (x6 : Int32) (z1 : Int64) (z2 : Int64) (z3 : Int64) (z4 : Int64) (z5 : Int64) (z6 : Int64) : Int32 := (o30 x1 x2 x3 x4 x5 x6 z1 z2 z3 z4 z5 z6)
def o32 (x1 : Int32) (x2 : Int32) (x3 : Int32) (x4 : Int32) (x5 : Int32) (x6 : Int32) (z1 : Int64) (z2 : Int64) (z3 : Int64) (z4 : Int64) (z5 : Int64) (z6 : Int64) : Int32 := (o31 x1 x2 x3 x4 x5 x6 z1 z2 z3 z4 z5 z6)
def o3 (x1 : Int32) (x2 : Int32) (x3 : Int32) (x4 : Int32) (x5 : Int32) (x6 : Int32) (z1 : Int64) (z2 : Int64) (z3 : Int64) (z4 : Int64) (z5 : Int64) (z6 : Int64) : Int32 := (o32 x1 x2 x3 x4 x5 x6 z1 z2 z3 z4 z5 z6)
theorem o35 (x1 : Int32) (x2 : Int32) (x3 : Int32) (x4 : Int32) (x5 : Int32) (x6 : Int32) (z1 : Int64) (z2 : Int64) (z3 : Int64) (z4 : Int64) (z5 : Int64) (z6 : Int64) : (o19 x1 x2 x3 x4 x5 x6 z1 z2 z3 z4 z5 z6) = 0 ∨ (o19 x1 x2 x3 x4 x5 x6 z1 z2 z3 z4 z5 z6) = 1 := by
  unfold o19
  repeat' split
  all_goals first | with_reducible exact Or.inl rfl | with_reducible exact Or.inr rfl
theorem o36 (x1 : Int32) (x2 : Int32) (x3 : Int32) (x4 : Int32) (x5 : Int32) (x6 : Int32) (z1 : Int64) (z2 : Int64) (z3 : Int64) (z4 : Int64) (z5 : Int64) (z6 : Int64) : (o26 x1 x2 x3 x4 x5 x6 z1 z2 z3 z4 z5 z6) = 0 ∨ (o26 x1 x2 x3 x4 x5 x6 z1 z2 z3 z4 z5 z6) = 1 := by
  unfold o26
  repeat' split
  all_goals first | with_reducible exact Or.inl rfl | with_reducible exact Or.inr rfl | with_reducible exact o35 x1 x2 x3 x4 x5 x6 z1 z2 z3 z4 z5 z6
theorem o37 (x1 : Int32) (x2 : Int32) (x3 : Int32) (x4 : Int32) (x5 : Int32) (x6 : Int32) (z1 : Int64) (z2 : Int64) (z3 : Int64) (z4 : Int64) (z5 : Int64) (z6 : Int64) : (o20 x1 x2 x3 x4 x5 x6 z1 z2 z3 z4 z5 z6) = 0 ∨ (o20 x1 x2 x3 x4 x5 x6 z1 z2 z3 z4 z5 z6) = 1 := by
  unfold o20
  repeat' split
  all_goals first | with_reducible exact Or.inl rfl | with_reducible exact Or.inr rfl | with_reducible exact o35 x1 x2 x3 x4 x5 x6 z1 z2 z3 z4 z5 z6 | with_reducible exact o36 x1 x2 x3 x4 x5 x6 z1 z2 z3 z4 z5 z6
theorem o38 (x1 : Int32) (x2 : Int32) (x3 : Int32) (x4 : Int32) (x5 : Int32) (x6 : Int32) (z1 : Int64) (z2 : Int64) (z3 : Int64) (z4 : Int64) (z5 : Int64) (z6 : Int64) : (o13 x1 x2 x3 x4 x5 x6 z1 z2 z3 z4 z5 z6) = 0 ∨ (o13 x1 x2 x3 x4 x5 x6 z1 z2 z3 z4 z5 z6) = 1 := by
  unfold o13
  repeat' split
  all_goals first | with_reducible exact Or.inl rfl | with_reducible exact Or.inr rfl | with_reducible exact o35 x1 x2 x3 x4 x5 x6 z1 z2 z3 z4 z5 z6 | with_reducible exact o36 x1 x2 x3 x4 x5 x6 z1 z2 z3 z4 z5 z6 | with_reducible exact o37 x1 x2 x3 x4 x5 x6 z1 z2 z3 z4 z5 z6
theorem o39 (x1 : Int32) (x2 : Int32) (x3 : Int32) (x4 : Int32) (x5 : Int32) (x6 : Int32) (z1 : Int64) (z2 : Int64) (z3 : Int64) (z4 : Int64) (z5 : Int64) (z6 : Int64) : (o27 x1 x2 x3 x4 x5 x6 z1 z2 z3 z4 z5 z6) = 0 ∨ (o27 x1 x2 x3 x4 x5 x6 z1 z2 z3 z4 z5 z6) = 1 := by
  unfold o27
  repeat' split
  all_goals first | with_reducible exact Or.inl rfl | with_reducible exact Or.inr rfl | with_reducible exact o35 x1 x2 x3 x4 x5 x6 z1 z2 z3 z4 z5 z6 | with_reducible exact o36 x1 x2 x3 x4 x5 x6 z1 z2 z3 z4 z5 z6 | with_reducible exact o37 x1 x2 x3 x4 x5 x6 z1 z2 z3 z4 z5 z6 | with_reducible exact o38 x1 x2 x3 x4 x5 x6 z1 z2 z3 z4 z5 z6
theorem o41 (x1 : Int32) (x2 : Int32) (x3 : Int32) (x4 : Int32) (x5 : Int32) (x6 : Int32) (z1 : Int64) (z2 : Int64) (z3 : Int64) (z4 : Int64) (z5 : Int64) (z6 : Int64) : (o21 x1 x2 x3 x4 x5 x6 z1 z2 z3 z4 z5 z6) = 0 ∨ (o21 x1 x2 x3 x4 x5 x6 z1 z2 z3 z4 z5 z6) = 1 := by
  unfold o21
  repeat' split
  all_goals first | with_reducible exact Or.inl rfl | with_reducible exact Or.inr rfl | with_reducible exact o35 x1 x2 x3 x4 x5 x6 z1 z2 z3 z4 z5 z6 | with_reducible exact o36 x1 x2 x3 x4 x5 x6 z1 z2 z3 z4 z5 z6 | with_reducible exact o37 x1 x2 x3 x4 x5 x6 z1 z2 z3 z4 z5 z6 | with_reducible exact o38 x1 x2 x3 x4 x5 x6 z1 z2 z3 z4 z5 z6 | with_reducible exact o39 x1 x2 x3 x4 x5 x6 z1 z2 z3 z4 z5 z6
theorem o42 (x1 : Int32) (x2 : Int32) (x3 : Int32) (x4 : Int32) (x5 : Int32) (x6 : Int32) (z1 : Int64) (z2 : Int64) (z3 : Int64) (z4 : Int64) (z5 : Int64) (z6 : Int64) : (o14 x1 x2 x3 x4 x5 x6 z1 z2 z3 z4 z5 z6) = 0 ∨ (o14 x1 x2 x3 x4 x5 x6 z1 z2 z3 z4 z5 z6) = 1 := by
  unfold o14
  repeat' split
  all_goals first | with_reducible exact Or.inl rfl | with_reducible exact Or.inr rfl | with_reducible exact o35 x1 x2 x3 x4 x5 x6 z1 z2 z3 z4 z5 z6 | with_reducible exact o36 x1 x2 x3 x4 x5 x6 z1 z2 z3 z4 z5 z6 | with_reducible exact o37 x1 x2 x3 x4 x5 x6 z1 z2 z3 z4 z5 z6 | with_reducible exact o38 x1 x2 x3 x4 x5 x6 z1 z2 z3 z4 z5 z6 | with_reducible exact o39 x1 x2 x3 x4 x5 x6 z1 z2 z3 z4 z5 z6 | with_reducible exact o41 x1 x2 x3 x4 x5 x6 z1 z2 z3 z4 z5 z6
theorem o43 (x1 : Int32) (x2 : Int32) (x3 : Int32) (x4 : Int32) (x5 : Int32) (x6 : Int32) (z1 : Int64) (z2 : Int64) (z3 : Int64) (z4 : Int64) (z5 : Int64) (z6 : Int64) : (o28 x1 x2 x3 x4 x5 x6 z1 z2 z3 z4 z5 z6) = 0 ∨ (o28 x1 x2 x3 x4 x5 x6 z1 z2 z3 z4 z5 z6) = 1 := by
  unfold o28
  repeat' split
  all_goals first | with_reducible exact Or.inl rfl | with_reducible exact Or.inr rfl | with_reducible exact o35 x1 x2 x3 x4 x5 x6 z1 z2 z3 z4 z5 z6 | with_reducible exact o36 x1 x2 x3 x4 x5 x6 z1 z2 z3 z4 z5 z6 | with_reducible exact o37 x1 x2 x3 x4 x5 x6 z1 z2 z3 z4 z5 z6 | with_reducible exact o38 x1 x2 x3 x4 x5 x6 z1 z2 z3 z4 z5 z6 | with_reducible exact o39 x1 x2 x3 x4 x5 x6 z1 z2 z3 z4 z5 z6 | with_reducible exact o41 x1 x2 x3 x4 x5 x6 z1 z2 z3 z4 z5 z6 | with_reducible exact o42 x1 x2 x3 x4 x5 x6 z1 z2 z3 z4 z5 z6
theorem o44 (x1 : Int32) (x2 : Int32) (x3 : Int32) (x4 : Int32) (x5 : Int32) (x6 : Int32) (z1 : Int64) (z2 : Int64) (z3 : Int64) (z4 : Int64) (z5 : Int64) (z6 : Int64) : (o22 x1 x2 x3 x4 x5 x6 z1 z2 z3 z4 z5 z6) = 0 ∨ (o22 x1 x2 x3 x4 x5 x6 z1 z2 z3 z4 z5 z6) = 1 := by
  unfold o22
  repeat' split
  all_goals first | with_reducible exact Or.inl rfl | with_reducible exact Or.inr rfl | with_reducible exact o35 x1 x2 x3 x4 x5 x6 z1 z2 z3 z4 z5 z6 | with_reducible exact o36 x1 x2 x3 x4 x5 x6 z1 z2 z3 z4 z5 z6 | with_reducible exact o37 x1 x2 x3 x4 x5 x6 z1 z2 z3 z4 z5 z6 | with_reducible exact o38 x1 x2 x3 x4 x5 x6 z1 z2 z3 z4 z5 z6 | with_reducible exact o39 x1 x2 x3 x4 x5 x6 z1 z2 z3 z4 z5 z6 | with_reducible exact o41 x1 x2 x3 x4 x5 x6 z1 z2 z3 z4 z5 z6 | with_reducible exact o42 x1 x2 x3 x4 x5 x6 z1 z2 z3 z4 z5 z6 | with_reducible exact o43 x1 x2 x3 x4 x5 x6 z1 z2 z3 z4 z5 z6
theorem o45 (x1 : Int32) (x2 : Int32) (x3 : Int32) (x4 : Int32) (x5 : Int32) (x6 : Int32) (z1 : Int64) (z2 : Int64) (z3 : Int64) (z4 : Int64) (z5 : Int64) (z6 : Int64) : (o15 x1 x2 x3 x4 x5 x6 z1 z2 z3 z4 z5 z6) = 0 ∨ (o15 x1 x2 x3 x4 x5 x6 z1 z2 z3 z4 z5 z6) = 1 := by
  unfold o15
  repeat' split
  all_goals first | with_reducible exact Or.inl rfl | with_reducible exact Or.inr rfl | with_reducible exact o35 x1 x2 x3 x4 x5 x6 z1 z2 z3 z4 z5 z6 | with_reducible exact o36 x1 x2 x3 x4 x5 x6 z1 z2 z3 z4 z5 z6 | with_reducible exact o37 x1 x2 x3 x4 x5 x6 z1 z2 z3 z4 z5 z6 | with_reducible exact o38 x1 x2 x3 x4 x5 x6 z1 z2 z3 z4 z5 z6 | with_reducible exact o39 x1 x2 x3 x4 x5 x6 z1 z2 z3 z4 z5 z6 | with_reducible exact o41 x1 x2 x3 x4 x5 x6 z1 z2 z3 z4 z5 z6 | with_reducible exact o42 x1 x2 x3 x4 x5 x6 z1 z2 z3 z4 z5 z6 | with_reducible exact o43 x1 x2 x3 x4 x5 x6 z1 z2 z3 z4 z5 z6 | with_reducible exact o44 x1 x2 x3 x4 x5 x6 z1 z2 z3 z4 z5 z6
theorem o47 (x1 : Int32) (x2 : Int32) (x3 : Int32) (x4 : Int32) (x5 : Int32) (x6 : Int32) (z1 : Int64) (z2 : Int64) (z3 : Int64) (z4 : Int64) (z5 : Int64) (z6 : Int64) : (o16 x1 x2 x3 x4 x5 x6 z1 z2 z3 z4 z5 z6) = 0 ∨ (o16 x1 x2 x3 x4 x5 x6 z1 z2 z3 z4 z5 z6) = 1 := by
  unfold o16
  repeat' split
  all_goals first | with_reducible exact Or.inl rfl | with_reducible exact Or.inr rfl | with_reducible exact o35 x1 x2 x3 x4 x5 x6 z1 z2 z3 z4 z5 z6 | with_reducible exact o36 x1 x2 x3 x4 x5 x6 z1 z2 z3 z4 z5 z6 | with_reducible exact o37 x1 x2 x3 x4 x5 x6 z1 z2 z3 z4 z5 z6 | with_reducible exact o38 x1 x2 x3 x4 x5 x6 z1 z2 z3 z4 z5 z6 | with_reducible exact o39 x1 x2 x3 x4 x5 x6 z1 z2 z3 z4 z5 z6 | with_reducible exact o41 x1 x2 x3 x4 x5 x6 z1 z2 z3 z4 z5 z6 | with_reducible exact o42 x1 x2 x3 x4 x5 x6 z1 z2 z3 z4 z5 z6 | with_reducible exact o43 x1 x2 x3 x4 x5 x6 z1 z2 z3 z4 z5 z6 | with_reducible exact o44 x1 x2 x3 x4 x5 x6 z1 z2 z3 z4 z5 z6 | with_reducible exact o45 x1 x2 x3 x4 x5 x6 z1 z2 z3 z4 z5 z6
theorem o48 (x1 : Int32) (x2 : Int32) (x3 : Int32) (x4 : Int32) (x5 : Int32) (x6 : Int32) (z1 : Int64) (z2 : Int64) (z3 : Int64) (z4 : Int64) (z5 : Int64) (z6 : Int64) : (o17 x1 x2 x3 x4 x5 x6 z1 z2 z3 z4 z5 z6) = 0 ∨ (o17 x1 x2 x3 x4 x5 x6 z1 z2 z3 z4 z5 z6) = 1 := by
  unfold o17
  repeat' split
  all_goals first | with_reducible exact Or.inl rfl | with_reducible exact Or.inr rfl | with_reducible exact o35 x1 x2 x3 x4 x5 x6 z1 z2 z3 z4 z5 z6 | with_reducible exact o36 x1 x2 x3 x4 x5 x6 z1 z2 z3 z4 z5 z6 | with_reducible exact o37 x1 x2 x3 x4 x5 x6 z1 z2 z3 z4 z5 z6 | with_reducible exact o38 x1 x2 x3 x4 x5 x6 z1 z2 z3 z4 z5 z6 | with_reducible exact o39 x1 x2 x3 x4 x5 x6 z1 z2 z3 z4 z5 z6 | with_reducible exact o41 x1 x2 x3 x4 x5 x6 z1 z2 z3 z4 z5 z6 | with_reducible exact o42 x1 x2 x3 x4 x5 x6 z1 z2 z3 z4 z5 z6 | with_reducible exact o43 x1 x2 x3 x4 x5 x6 z1 z2 z3 z4 z5 z6 | with_reducible exact o44 x1 x2 x3 x4 x5 x6 z1 z2 z3 z4 z5 z6 | with_reducible exact o45 x1 x2 x3 x4 x5 x6 z1 z2 z3 z4 z5 z6 | with_reducible exact o47 x1 x2 x3 x4 x5 x6 z1 z2 z3 z4 z5 z6
theorem o49 (x1 : Int32) (x2 : Int32) (x3 : Int32) (x4 : Int32) (x5 : Int32) (x6 : Int32) (z1 : Int64) (z2 : Int64) (z3 : Int64) (z4 : Int64) (z5 : Int64) (z6 : Int64) : (o23 x1 x2 x3 x4 x5 x6 z1 z2 z3 z4 z5 z6) = 0 ∨ (o23 x1 x2 x3 x4 x5 x6 z1 z2 z3 z4 z5 z6) = 1 := by
  unfold o23
  repeat' split
  all_goals first | with_reducible exact Or.inl rfl | with_reducible exact Or.inr rfl | with_reducible exact o35 x1 x2 x3 x4 x5 x6 z1 z2 z3 z4 z5 z6 | with_reducible exact o36 x1 x2 x3 x4 x5 x6 z1 z2 z3 z4 z5 z6 | with_reducible exact o37 x1 x2 x3 x4 x5 x6 z1 z2 z3 z4 z5 z6 | with_reducible exact o38 x1 x2 x3 x4 x5 x6 z1 z2 z3 z4 z5 z6 | with_reducible exact o39 x1 x2 x3 x4 x5 x6 z1 z2 z3 z4 z5 z6 | with_reducible exact o41 x1 x2 x3 x4 x5 x6 z1 z2 z3 z4 z5 z6 | with_reducible exact o42 x1 x2 x3 x4 x5 x6 z1 z2 z3 z4 z5 z6 | with_reducible exact o43 x1 x2 x3 x4 x5 x6 z1 z2 z3 z4 z5 z6 | with_reducible exact o44 x1 x2 x3 x4 x5 x6 z1 z2 z3 z4 z5 z6 | with_reducible exact o45 x1 x2 x3 x4 x5 x6 z1 z2 z3 z4 z5 z6 | with_reducible exact o47 x1 x2 x3 x4 x5 x6 z1 z2 z3 z4 z5 z6 | with_reducible exact o48 x1 x2 x3 x4 x5 x6 z1 z2 z3 z4 z5 z6
theorem o50 (x1 : Int32) (x2 : Int32) (x3 : Int32) (x4 : Int32) (x5 : Int32) (x6 : Int32) (z1 : Int64) (z2 : Int64) (z3 : Int64) (z4 : Int64) (z5 : Int64) (z6 : Int64) : (o29 x1 x2 x3 x4 x5 x6 z1 z2 z3 z4 z5 z6) = 0 ∨ (o29 x1 x2 x3 x4 x5 x6 z1 z2 z3 z4 z5 z6) = 1 := by
  unfold o29
  repeat' split
  all_goals first | with_reducible exact Or.inl rfl | with_reducible exact Or.inr rfl | with_reducible exact o35 x1 x2 x3 x4 x5 x6 z1 z2 z3 z4 z5 z6 | with_reducible exact o36 x1 x2 x3 x4 x5 x6 z1 z2 z3 z4 z5 z6 | with_reducible exact o37 x1 x2 x3 x4 x5 x6 z1 z2 z3 z4 z5 z6 | with_reducible exact o38 x1 x2 x3 x4 x5 x6 z1 z2 z3 z4 z5 z6 | with_reducible exact o39 x1 x2 x3 x4 x5 x6 z1 z2 z3 z4 z5 z6 | with_reducible exact o41 x1 x2 x3 x4 x5 x6 z1 z2 z3 z4 z5 z6 | with_reducible exact o42 x1 x2 x3 x4 x5 x6 z1 z2 z3 z4 z5 z6 | with_reducible exact o43 x1 x2 x3 x4 x5 x6 z1 z2 z3 z4 z5 z6 | with_reducible exact o44 x1 x2 x3 x4 x5 x6 z1 z2 z3 z4 z5 z6 | with_reducible exact o45 x1 x2 x3 x4 x5 x6 z1 z2 z3 z4 z5 z6 | with_reducible exact o47 x1 x2 x3 x4 x5 x6 z1 z2 z3 z4 z5 z6 | with_reducible exact o48 x1 x2 x3 x4 x5 x6 z1 z2 z3 z4 z5 z6 | with_reducible exact o49 x1 x2 x3 x4 x5 x6 z1 z2 z3 z4 z5 z6
theorem o54 (x1 : Int32) (x2 : Int32) (x3 : Int32) (x4 : Int32) (x5 : Int32) (x6 : Int32) (z1 : Int64) (z2 : Int64) (z3 : Int64) (z4 : Int64) (z5 : Int64) (z6 : Int64) : (o30 x1 x2 x3 x4 x5 x6 z1 z2 z3 z4 z5 z6) = 0 ∨ (o30 x1 x2 x3 x4 x5 x6 z1 z2 z3 z4 z5 z6) = 1 := by
  unfold o30
  repeat' split
  all_goals first | with_reducible exact Or.inl rfl | with_reducible exact Or.inr rfl | with_reducible exact o35 x1 x2 x3 x4 x5 x6 z1 z2 z3 z4 z5 z6 | with_reducible exact o36 x1 x2 x3 x4 x5 x6 z1 z2 z3 z4 z5 z6 | with_reducible exact o37 x1 x2 x3 x4 x5 x6 z1 z2 z3 z4 z5 z6 | with_reducible exact o38 x1 x2 x3 x4 x5 x6 z1 z2 z3 z4 z5 z6 | with_reducible exact o39 x1 x2 x3 x4 x5 x6 z1 z2 z3 z4 z5 z6 | with_reducible exact o41 x1 x2 x3 x4 x5 x6 z1 z2 z3 z4 z5 z6 | with_reducible exact o42 x1 x2 x3 x4 x5 x6 z1 z2 z3 z4 z5 z6 | with_reducible exact o43 x1 x2 x3 x4 x5 x6 z1 z2 z3 z4 z5 z6 | with_reducible exact o44 x1 x2 x3 x4 x5 x6 z1 z2 z3 z4 z5 z6 | with_reducible exact o45 x1 x2 x3 x4 x5 x6 z1 z2 z3 z4 z5 z6 | with_reducible exact o47 x1 x2 x3 x4 x5 x6 z1 z2 z3 z4 z5 z6 | with_reducible exact o48 x1 x2 x3 x4 x5 x6 z1 z2 z3 z4 z5 z6 | with_reducible exact o49 x1 x2 x3 x4 x5 x6 z1 z2 z3 z4 z5 z6 | with_reducible exact o50 x1 x2 x3 x4 x5 x6 z1 z2 z3 z4 z5 z6
theorem o57 (x1 : Int32) (x2 : Int32) (x3 : Int32) (x4 : Int32) (x5 : Int32) (x6 : Int32) (z1 : Int64) (z2 : Int64) (z3 : Int64) (z4 : Int64) (z5 : Int64) (z6 : Int64) : (o31 x1 x2 x3 x4 x5 x6 z1 z2 z3 z4 z5 z6) = 0 ∨ (o31 x1 x2 x3 x4 x5 x6 z1 z2 z3 z4 z5 z6) = 1 := by
  unfold o31
  repeat' split
  all_goals first | with_reducible exact Or.inl rfl | with_reducible exact Or.inr rfl | with_reducible exact o35 x1 x2 x3 x4 x5 x6 z1 z2 z3 z4 z5 z6 | with_reducible exact o36 x1 x2 x3 x4 x5 x6 z1 z2 z3 z4 z5 z6 | with_reducible exact o37 x1 x2 x3 x4 x5 x6 z1 z2 z3 z4 z5 z6 | with_reducible exact o38 x1 x2 x3 x4 x5 x6 z1 z2 z3 z4 z5 z6 | with_reducible exact o39 x1 x2 x3 x4 x5 x6 z1 z2 z3 z4 z5 z6 | with_reducible exact o41 x1 x2 x3 x4 x5 x6 z1 z2 z3 z4 z5 z6 | with_reducible exact o42 x1 x2 x3 x4 x5 x6 z1 z2 z3 z4 z5 z6 | with_reducible exact o43 x1 x2 x3 x4 x5 x6 z1 z2 z3 z4 z5 z6 | with_reducible exact o44 x1 x2 x3 x4 x5 x6 z1 z2 z3 z4 z5 z6 | with_reducible exact o45 x1 x2 x3 x4 x5 x6 z1 z2 z3 z4 z5 z6 | with_reducible exact o47 x1 x2 x3 x4 x5 x6 z1 z2 z3 z4 z5 z6 | with_reducible exact o48 x1 x2 x3 x4 x5 x6 z1 z2 z3 z4 z5 z6 | with_reducible exact o49 x1 x2 x3 x4 x5 x6 z1 z2 z3 z4 z5 z6 | with_reducible exact o50 x1 x2 x3 x4 x5 x6 z1 z2 z3 z4 z5 z6 | with_reducible exact o54 x1 x2 x3 x4 x5 x6 z1 z2 z3 z4 z5 z6
theorem o62 (x1 : Int32) (x2 : Int32) (x3 : Int32) (x4 : Int32) (x5 : Int32) (x6 : Int32) (z1 : Int64) (z2 : Int64) (z3 : Int64) (z4 : Int64) (z5 : Int64) (z6 : Int64) : (o32 x1 x2 x3 x4 x5 x6 z1 z2 z3 z4 z5 z6) = 0 ∨ (o32 x1 x2 x3 x4 x5 x6 z1 z2 z3 z4 z5 z6) = 1 := by
  unfold o32
  repeat' split
  all_goals first | with_reducible exact Or.inl rfl | with_reducible exact Or.inr rfl | with_reducible exact o35 x1 x2 x3 x4 x5 x6 z1 z2 z3 z4 z5 z6 | with_reducible exact o36 x1 x2 x3 x4 x5 x6 z1 z2 z3 z4 z5 z6 | with_reducible exact o37 x1 x2 x3 x4 x5 x6 z1 z2 z3 z4 z5 z6 | with_reducible exact o38 x1 x2 x3 x4 x5 x6 z1 z2 z3 z4 z5 z6 | with_reducible exact o39 x1 x2 x3 x4 x5 x6 z1 z2 z3 z4 z5 z6 | with_reducible exact o41 x1 x2 x3 x4 x5 x6 z1 z2 z3 z4 z5 z6 | with_reducible exact o42 x1 x2 x3 x4 x5 x6 z1 z2 z3 z4 z5 z6 | with_reducible exact o43 x1 x2 x3 x4 x5 x6 z1 z2 z3 z4 z5 z6 | with_reducible exact o44 x1 x2 x3 x4 x5 x6 z1 z2 z3 z4 z5 z6 | with_reducible exact o45 x1 x2 x3 x4 x5 x6 z1 z2 z3 z4 z5 z6 | with_reducible exact o47 x1 x2 x3 x4 x5 x6 z1 z2 z3 z4 z5 z6 | with_reducible exact o48 x1 x2 x3 x4 x5 x6 z1 z2 z3 z4 z5 z6 | with_reducible exact o49 x1 x2 x3 x4 x5 x6 z1 z2 z3 z4 z5 z6 | with_reducible exact o50 x1 x2 x3 x4 x5 x6 z1 z2 z3 z4 z5 z6 | with_reducible exact o54 x1 x2 x3 x4 x5 x6 z1 z2 z3 z4 z5 z6 | with_reducible exact o57 x1 x2 x3 x4 x5 x6 z1 z2 z3 z4 z5 z6
theorem o24 (x1 : Int32) (x2 : Int32) (x3 : Int32) (x4 : Int32) (x5 : Int32) (x6 : Int32) (z1 : Int64) (z2 : Int64) (z3 : Int64) (z4 : Int64) (z5 : Int64) (z6 : Int64) : (o3 x1 x2 x3 x4 x5 x6 z1 z2 z3 z4 z5 z6) = 0 ∨ (o3 x1 x2 x3 x4 x5 x6 z1 z2 z3 z4 z5 z6) = 1 := by
  unfold o3
  repeat' split
  all_goals first | with_reducible exact Or.inl rfl | with_reducible exact Or.inr rfl | with_reducible exact o35 x1 x2 x3 x4 x5 x6 z1 z2 z3 z4 z5 z6 | with_reducible exact o36 x1 x2 x3 x4 x5 x6 z1 z2 z3 z4 z5 z6 | with_reducible exact o37 x1 x2 x3 x4 x5 x6 z1 z2 z3 z4 z5 z6 | with_reducible exact o38 x1 x2 x3 x4 x5 x6 z1 z2 z3 z4 z5 z6 | with_reducible exact o39 x1 x2 x3 x4 x5 x6 z1 z2 z3 z4 z5 z6 | with_reducible exact o41 x1 x2 x3 x4 x5 x6 z1 z2 z3 z4 z5 z6 | with_reducible exact o42 x1 x2 x3 x4 x5 x6 z1 z2 z3 z4 z5 z6 | with_reducible exact o43 x1 x2 x3 x4 x5 x6 z1 z2 z3 z4 z5 z6 | with_reducible exact o44 x1 x2 x3 x4 x5 x6 z1 z2 z3 z4 z5 z6 | with_reducible exact o45 x1 x2 x3 x4 x5 x6 z1 z2 z3 z4 z5 z6 | with_reducible exact o47 x1 x2 x3 x4 x5 x6 z1 z2 z3 z4 z5 z6 | with_reducible exact o48 x1 x2 x3 x4 x5 x6 z1 z2 z3 z4 z5 z6 | with_reducible exact o49 x1 x2 x3 x4 x5 x6 z1 z2 z3 z4 z5 z6 | with_reducible exact o50 x1 x2 x3 x4 x5 x6 z1 z2 z3 z4 z5 z6 | with_reducible exact o54 x1 x2 x3 x4 x5 x6 z1 z2 z3 z4 z5 z6 | with_reducible exact o57 x1 x2 x3 x4 x5 x6 z1 z2 z3 z4 z5 z6 | with_reducible exact o62 x1 x2 x3 x4 x5 x6 z1 z2 z3 z4 z5 z6
def Q10 (Z : State) (x1 : Int32) (x2 : Int32) (x3 : Int32) (x4 : Int32) (x5 : Int32) (x6 : Int32) (z1 : Int64) (z2 : Int64) (z3 : Int64) (z4 : Int64) (z5 : Int64) (z6 : Int64) (h0 : Heap) (n0 : Nat) (v : Option Value) (h : Heap) (L : List Loc) : Prop := v = some (.int (o3 x1 x2 x3 x4 x5 x6 z1 z2 z3 z4 z5 z6)) ∧ Fr n0 L ∧ h = h0
set_option maxRecDepth 65536 in
set_option maxHeartbeats 40000000 in
theorem rm10 (l : Launch) (Z : State) (a0 : Array Value) (hw : ∀ d ∈ tables_1, d.before a0 Z = true) (ws : List Jvm.Cond) (x1 : Int32) (x2 : Int32) (x3 : Int32) (x4 : Int32) (x5 : Int32) (x6 : Int32) (z1 : Int64) (z2 : Int64) (z3 : Int64) (z4 : Int64) (z5 : Int64) (z6 : Int64) (h0 : Heap) (n0 : Nat) (Z0 : n0 ≤ h0.size)  :
    Con l (⟨cN1, "ok", "(ZZZIIIJJJJJJ)Z"⟩ : MethodName) method_3_code 19 (some .boolean) ws ({ frames := 1, cells := 0, slots := 0, locals := 19 } : Room) #[(.int x1), (.int x2), (.int x3), (.int x4), (.int x5), (.int x6), (.long z1), (.long z2), (.long z3), (.long z4), (.long z5), (.long z6)] Z h0 (Q10 Z x1 x2 x3 x4 x5 x6 z1 z2 z3 z4 z5 z6 h0 n0) ({ frames := 1, cells := 0, slots := 0, locals := 19 } : Room).cells ({ frames := 1, cells := 0, slots := 0, locals := 19 } : Room).slots := by
  refine own_body (plainFor_of_name pn_12) ?_
  intro p e s m below meth c s₁ hx hby hlk hml hown hnm hrt hZ X0 e0
  have w : ∀ (k : Nat) (d : Jvm.Cond), tables_1[k]? = some d → d.before a0 Z = true := fun k d h => hw d (List.mem_of_getElem? h)
  have N0 := Fr.nil n0
  rw [ef_10]
  generalize hOWE : Owe s _ _ _ = OWE
  have M254 : ∀ (Tm254 : State) (lm254 : List Loc) (Xm254 : Stand p l e ({ frames := 1, cells := 0, slots := 0, locals := 19 } : Room) s m #[(.int x1), (.int x2), (.int x3), (.int x4), (.int x5), (.int x6), (.long z1), (.long z2), (.long z3), (.long z4), (.long z5), (.long z6)] below meth c Tm254 lm254 0 0) (em254 : Tm254.heap = h0) (Nm254 : Fr n0 lm254), (o3 x1 x2 x3 x4 x5 x6 z1 z2 z3 z4 z5 z6) = (o19 x1 x2 x3 x4 x5 x6 z1 z2 z3 z4 z5 z6) → Go p e below OWE (Tm254.setTop (mkF m 254 #[.val (.int x1), .val (.int x2), .val (.int x3), .val (.int x4), .val (.int x5), .val (.int x6), .val (.long z1), .second, .val (.long z2), .second, .val (.long z3), .second, .val (.long z4), .second, .val (.long z5), .second, .val (.long z6), .second, .val (.int (o6 x1 x2 x3 x4 x5 x6 z1 z2 z3 z4 z5 z6))] [])) := by
    intro Tm254 lm254 Xm254 em254 Nm254 hM254
    refine o_iconst Xm254 hx (1 : Int32) (hb hby d10_254) (pc' := 255) rfl (by decide) ?_
    rw [← hOWE]
    exact o_retZ Xm254 hx rfl hlk hrt (hb hby d10_255) (by decide) (by decide) (by rw [em254]; exact ⟨(by rw [hM254, o19]), Nm254, rfl⟩)
  have M247 : ∀ (Tm247 : State) (lm247 : List Loc) (Xm247 : Stand p l e ({ frames := 1, cells := 0, slots := 0, locals := 19 } : Room) s m #[(.int x1), (.int x2), (.int x3), (.int x4), (.int x5), (.int x6), (.long z1), (.long z2), (.long z3), (.long z4), (.long z5), (.long z6)] below meth c Tm247 lm247 0 0) (em247 : Tm247.heap = h0) (Nm247 : Fr n0 lm247), (o3 x1 x2 x3 x4 x5 x6 z1 z2 z3 z4 z5 z6) = (o26 x1 x2 x3 x4 x5 x6 z1 z2 z3 z4 z5 z6) → Go p e below OWE (Tm247.setTop (mkF m 247 #[.val (.int x1), .val (.int x2), .val (.int x3), .val (.int x4), .val (.int x5), .val (.int x6), .val (.long z1), .second, .val (.long z2), .second, .val (.long z3), .second, .val (.long z4), .second, .val (.long z5), .second, .val (.long z6), .second, .val (.int (o6 x1 x2 x3 x4 x5 x6 z1 z2 z3 z4 z5 z6))] [])) := by
    intro Tm247 lm247 Xm247 em247 Nm247 hM247
    refine o_iload Xm247 hx (hb hby d10_247) (pc' := 249) rfl rfl ?_
    by_cases hc249_42 : x6 = (0 : Int32)
    · refine o_ifY Xm247 hx (hb hby d10_249) (teq hc249_42).1 (by decide) (pc' := 254) (by decide) ?_
      exact M254 _ _ Xm247 em247 Nm247 (by rw [hM247, o26, if_pos hc249_42])
    · refine o_ifN Xm247 hx (hb hby d10_249) (feq hc249_42).1 (pc' := 252) rfl ?_
      refine o_iconst Xm247 hx (0 : Int32) (hb hby d10_252) (pc' := 253) rfl (by decide) ?_
      rw [← hOWE]
      exact o_retZ Xm247 hx rfl hlk hrt (hb hby d10_253) (by decide) (by decide) (by rw [em247]; exact ⟨(by rw [hM247, o26, if_neg hc249_42]), Nm247, rfl⟩)
  have M229 : ∀ (Tm229 : State) (lm229 : List Loc) (Xm229 : Stand p l e ({ frames := 1, cells := 0, slots := 0, locals := 19 } : Room) s m #[(.int x1), (.int x2), (.int x3), (.int x4), (.int x5), (.int x6), (.long z1), (.long z2), (.long z3), (.long z4), (.long z5), (.long z6)] below meth c Tm229 lm229 0 0) (em229 : Tm229.heap = h0) (Nm229 : Fr n0 lm229), (o3 x1 x2 x3 x4 x5 x6 z1 z2 z3 z4 z5 z6) = (o20 x1 x2 x3 x4 x5 x6 z1 z2 z3 z4 z5 z6) → Go p e below OWE (Tm229.setTop (mkF m 229 #[.val (.int x1), .val (.int x2), .val (.int x3), .val (.int x4), .val (.int x5), .val (.int x6), .val (.long z1), .second, .val (.long z2), .second, .val (.long z3), .second, .val (.long z4), .second, .val (.long z5), .second, .val (.long z6), .second, .val (.int (o6 x1 x2 x3 x4 x5 x6 z1 z2 z3 z4 z5 z6))] [])) := by
    intro Tm229 lm229 Xm229 em229 Nm229 hM229
    refine o_iloadN Xm229 hx (hb hby d10_229) (pc' := 230) rfl rfl ?_
    by_cases hc230_39 : x2 = (0 : Int32)
    · refine o_ifY Xm229 hx (hb hby d10_230) (teq hc230_39).1 (by decide) (pc' := 247) (by decide) ?_
      exact M247 _ _ Xm229 em229 Nm229 (by rw [hM229, o20, if_pos hc230_39])
    · refine o_ifN Xm229 hx (hb hby d10_230) (feq hc230_39).1 (pc' := 233) rfl ?_
      refine o_lload Xm229 hx (hb hby d10_233) (pc' := 235) rfl rfl ?_
      refine o_lload Xm229 hx (hb hby d10_235) (pc' := 237) rfl rfl ?_
      refine o_lload Xm229 hx (hb hby d10_237) (pc' := 239) rfl rfl ?_
      refine o_lload Xm229 hx (hb hby d10_239) (pc' := 241) rfl rfl ?_
      refine o_callS Xm229 hx hZ 0 (argsL := [.long z5, .long z6, .long z3, .long z4]) (rest := []) hown (w 60 _ rfl) (w 61 _ rfl) (w 55 _ rfl) (w 62 _ rfl) (by decide) (rm12 l Z a0 hw [] z5 z6 z3 z4 h0 n0 Z0 ) (by decide) (by decide) (cells' := 0) rfl (slots' := 0) rfl (by decide) (by decide) em229 (by rw [hml]; rfl) (lenOf pd_2 rfl) rfl rfl (hb hby d10_241) (pc' := 244) rfl ?_
      intro T40 v40 L40 X40 hQ40
      obtain ⟨rfl, Nq40, e40⟩ := hQ40
      have N40 := Fr.app Nm229 Nq40
      show Go p e below _ (T40.setTop (mkF m 244 _ [.int (o12 z5 z6 z3 z4)]))
      by_cases hc244_41 : (o12 z5 z6 z3 z4) = (0 : Int32)
      · refine o_ifY X40 hx (hb hby d10_244) (teq hc244_41).1 (by decide) (pc' := 254) (by decide) ?_
        exact M254 _ _ X40 e40 N40 (by rw [hM229, o20, if_neg hc230_39, if_pos hc244_41])
      · refine o_ifN X40 hx (hb hby d10_244) (feq hc244_41).1 (pc' := 247) rfl ?_
        exact M247 _ _ X40 e40 N40 (by rw [hM229, o20, if_neg hc230_39, if_neg hc244_41])
  have M207 : ∀ (Tm207 : State) (lm207 : List Loc) (Xm207 : Stand p l e ({ frames := 1, cells := 0, slots := 0, locals := 19 } : Room) s m #[(.int x1), (.int x2), (.int x3), (.int x4), (.int x5), (.int x6), (.long z1), (.long z2), (.long z3), (.long z4), (.long z5), (.long z6)] below meth c Tm207 lm207 0 0) (em207 : Tm207.heap = h0) (Nm207 : Fr n0 lm207), (o3 x1 x2 x3 x4 x5 x6 z1 z2 z3 z4 z5 z6) = (o13 x1 x2 x3 x4 x5 x6 z1 z2 z3 z4 z5 z6) → Go p e below OWE (Tm207.setTop (mkF m 207 #[.val (.int x1), .val (.int x2), .val (.int x3), .val (.int x4), .val (.int x5), .val (.int x6), .val (.long z1), .second, .val (.long z2), .second, .val (.long z3), .second, .val (.long z4), .second, .val (.long z5), .second, .val (.long z6), .second, .val (.int (o6 x1 x2 x3 x4 x5 x6 z1 z2 z3 z4 z5 z6))] [])) := by
    intro Tm207 lm207 Xm207 em207 Nm207 hM207
    refine o_iloadN Xm207 hx (hb hby d10_207) (pc' := 208) rfl rfl ?_
    by_cases hc208_35 : x3 = (0 : Int32)
    · refine o_ifY Xm207 hx (hb hby d10_208) (teq hc208_35).1 (by decide) (pc' := 254) (by decide) ?_
      exact M254 _ _ Xm207 em207 Nm207 (by rw [hM207, o13, if_pos hc208_35])
    · refine o_ifN Xm207 hx (hb hby d10_208) (feq hc208_35).1 (pc' := 211) rfl ?_
      refine o_iloadN Xm207 hx (hb hby d10_211) (pc' := 212) rfl rfl ?_
      by_cases hc212_36 : x1 = (0 : Int32)
      · refine o_ifY Xm207 hx (hb hby d10_212) (teq hc212_36).1 (by decide) (pc' := 229) (by decide) ?_
        exact M229 _ _ Xm207 em207 Nm207 (by rw [hM207, o13, if_neg hc208_35, if_pos hc212_36])
      · refine o_ifN Xm207 hx (hb hby d10_212) (feq hc212_36).1 (pc' := 215) rfl ?_
        refine o_lload Xm207 hx (hb hby d10_215) (pc' := 217) rfl rfl ?_
        refine o_lload Xm207 hx (hb hby d10_217) (pc' := 219) rfl rfl ?_
        refine o_lload Xm207 hx (hb hby d10_219) (pc' := 221) rfl rfl ?_
        refine o_lload Xm207 hx (hb hby d10_221) (pc' := 223) rfl rfl ?_
        refine o_callS Xm207 hx hZ 0 (argsL := [.long z5, .long z6, .long z1, .long z2]) (rest := []) hown (w 60 _ rfl) (w 61 _ rfl) (w 55 _ rfl) (w 62 _ rfl) (by decide) (rm12 l Z a0 hw [] z5 z6 z1 z2 h0 n0 Z0 ) (by decide) (by decide) (cells' := 0) rfl (slots' := 0) rfl (by decide) (by decide) em207 (by rw [hml]; rfl) (lenOf pd_2 rfl) rfl rfl (hb hby d10_223) (pc' := 226) rfl ?_
        intro T37 v37 L37 X37 hQ37
        obtain ⟨rfl, Nq37, e37⟩ := hQ37
        have N37 := Fr.app Nm207 Nq37
        show Go p e below _ (T37.setTop (mkF m 226 _ [.int (o12 z5 z6 z1 z2)]))
        by_cases hc226_38 : (o12 z5 z6 z1 z2) = (0 : Int32)
        · refine o_ifY X37 hx (hb hby d10_226) (teq hc226_38).1 (by decide) (pc' := 254) (by decide) ?_
          exact M254 _ _ X37 e37 N37 (by rw [hM207, o13, if_neg hc208_35, if_neg hc212_36, if_pos hc226_38])
        · refine o_ifN X37 hx (hb hby d10_226) (feq hc226_38).1 (pc' := 229) rfl ?_
          exact M229 _ _ X37 e37 N37 (by rw [hM207, o13, if_neg hc208_35, if_neg hc212_36, if_neg hc226_38])
  have M200 : ∀ (Tm200 : State) (lm200 : List Loc) (Xm200 : Stand p l e ({ frames := 1, cells := 0, slots := 0, locals := 19 } : Room) s m #[(.int x1), (.int x2), (.int x3), (.int x4), (.int x5), (.int x6), (.long z1), (.long z2), (.long z3), (.long z4), (.long z5), (.long z6)] below meth c Tm200 lm200 0 0) (em200 : Tm200.heap = h0) (Nm200 : Fr n0 lm200), (o3 x1 x2 x3 x4 x5 x6 z1 z2 z3 z4 z5 z6) = (o27 x1 x2 x3 x4 x5 x6 z1 z2 z3 z4 z5 z6) → Go p e below OWE (Tm200.setTop (mkF m 200 #[.val (.int x1), .val (.int x2), .val (.int x3), .val (.int x4), .val (.int x5), .val (.int x6), .val (.long z1), .second, .val (.long z2), .second, .val (.long z3), .second, .val (.long z4), .second, .val (.long z5), .second, .val (.long z6), .second, .val (.int (o6 x1 x2 x3 x4 x5 x6 z1 z2 z3 z4 z5 z6))] [])) := by
    intro Tm200 lm200 Xm200 em200 Nm200 hM200
    refine o_iload Xm200 hx (hb hby d10_200) (pc' := 202) rfl rfl ?_
    by_cases hc202_34 : x5 = (0 : Int32)
    · refine o_ifY Xm200 hx (hb hby d10_202) (teq hc202_34).1 (by decide) (pc' := 207) (by decide) ?_
      exact M207 _ _ Xm200 em200 Nm200 (by rw [hM200, o27, if_pos hc202_34])
    · refine o_ifN Xm200 hx (hb hby d10_202) (feq hc202_34).1 (pc' := 205) rfl ?_
      refine o_iconst Xm200 hx (0 : Int32) (hb hby d10_205) (pc' := 206) rfl (by decide) ?_
      rw [← hOWE]
      exact o_retZ Xm200 hx rfl hlk hrt (hb hby d10_206) (by decide) (by decide) (by rw [em200]; exact ⟨(by rw [hM200, o27, if_neg hc202_34]), Nm200, rfl⟩)
  have M182 : ∀ (Tm182 : State) (lm182 : List Loc) (Xm182 : Stand p l e ({ frames := 1, cells := 0, slots := 0, locals := 19 } : Room) s m #[(.int x1), (.int x2), (.int x3), (.int x4), (.int x5), (.int x6), (.long z1), (.long z2), (.long z3), (.long z4), (.long z5), (.long z6)] below meth c Tm182 lm182 0 0) (em182 : Tm182.heap = h0) (Nm182 : Fr n0 lm182), (o3 x1 x2 x3 x4 x5 x6 z1 z2 z3 z4 z5 z6) = (o21 x1 x2 x3 x4 x5 x6 z1 z2 z3 z4 z5 z6) → Go p e below OWE (Tm182.setTop (mkF m 182 #[.val (.int x1), .val (.int x2), .val (.int x3), .val (.int x4), .val (.int x5), .val (.int x6), .val (.long z1), .second, .val (.long z2), .second, .val (.long z3), .second, .val (.long z4), .second, .val (.long z5), .second, .val (.long z6), .second, .val (.int (o6 x1 x2 x3 x4 x5 x6 z1 z2 z3 z4 z5 z6))] [])) := by
    intro Tm182 lm182 Xm182 em182 Nm182 hM182
    refine o_iloadN Xm182 hx (hb hby d10_182) (pc' := 183) rfl rfl ?_
    by_cases hc183_31 : x3 = (0 : Int32)
    · refine o_ifY Xm182 hx (hb hby d10_183) (teq hc183_31).1 (by decide) (pc' := 200) (by decide) ?_
      exact M200 _ _ Xm182 em182 Nm182 (by rw [hM182, o21, if_pos hc183_31])
    · refine o_ifN Xm182 hx (hb hby d10_183) (feq hc183_31).1 (pc' := 186) rfl ?_
      refine o_lload Xm182 hx (hb hby d10_186) (pc' := 188) rfl rfl ?_
      refine o_lload Xm182 hx (hb hby d10_188) (pc' := 190) rfl rfl ?_
      refine o_lload Xm182 hx (hb hby d10_190) (pc' := 192) rfl rfl ?_
      refine o_lload Xm182 hx (hb hby d10_192) (pc' := 194) rfl rfl ?_
      refine o_callS Xm182 hx hZ 0 (argsL := [.long z3, .long z4, .long z5, .long z6]) (rest := []) hown (w 60 _ rfl) (w 61 _ rfl) (w 55 _ rfl) (w 62 _ rfl) (by decide) (rm12 l Z a0 hw [] z3 z4 z5 z6 h0 n0 Z0 ) (by decide) (by decide) (cells' := 0) rfl (slots' := 0) rfl (by decide) (by decide) em182 (by rw [hml]; rfl) (lenOf pd_2 rfl) rfl rfl (hb hby d10_194) (pc' := 197) rfl ?_
      intro T32 v32 L32 X32 hQ32
      obtain ⟨rfl, Nq32, e32⟩ := hQ32
      have N32 := Fr.app Nm182 Nq32
      show Go p e below _ (T32.setTop (mkF m 197 _ [.int (o12 z3 z4 z5 z6)]))
      by_cases hc197_33 : (o12 z3 z4 z5 z6) = (0 : Int32)
      · refine o_ifY X32 hx (hb hby d10_197) (teq hc197_33).1 (by decide) (pc' := 207) (by decide) ?_
        exact M207 _ _ X32 e32 N32 (by rw [hM182, o21, if_neg hc183_31, if_pos hc197_33])
      · refine o_ifN X32 hx (hb hby d10_197) (feq hc197_33).1 (pc' := 200) rfl ?_
        exact M200 _ _ X32 e32 N32 (by rw [hM182, o21, if_neg hc183_31, if_neg hc197_33])
  have M160 : ∀ (Tm160 : State) (lm160 : List Loc) (Xm160 : Stand p l e ({ frames := 1, cells := 0, slots := 0, locals := 19 } : Room) s m #[(.int x1), (.int x2), (.int x3), (.int x4), (.int x5), (.int x6), (.long z1), (.long z2), (.long z3), (.long z4), (.long z5), (.long z6)] below meth c Tm160 lm160 0 0) (em160 : Tm160.heap = h0) (Nm160 : Fr n0 lm160), (o3 x1 x2 x3 x4 x5 x6 z1 z2 z3 z4 z5 z6) = (o14 x1 x2 x3 x4 x5 x6 z1 z2 z3 z4 z5 z6) → Go p e below OWE (Tm160.setTop (mkF m 160 #[.val (.int x1), .val (.int x2), .val (.int x3), .val (.int x4), .val (.int x5), .val (.int x6), .val (.long z1), .second, .val (.long z2), .second, .val (.long z3), .second, .val (.long z4), .second, .val (.long z5), .second, .val (.long z6), .second, .val (.int (o6 x1 x2 x3 x4 x5 x6 z1 z2 z3 z4 z5 z6))] [])) := by
    intro Tm160 lm160 Xm160 em160 Nm160 hM160
    refine o_iloadN Xm160 hx (hb hby d10_160) (pc' := 161) rfl rfl ?_
    by_cases hc161_27 : x2 = (0 : Int32)
    · refine o_ifY Xm160 hx (hb hby d10_161) (teq hc161_27).1 (by decide) (pc' := 207) (by decide) ?_
      exact M207 _ _ Xm160 em160 Nm160 (by rw [hM160, o14, if_pos hc161_27])
    · refine o_ifN Xm160 hx (hb hby d10_161) (feq hc161_27).1 (pc' := 164) rfl ?_
      refine o_iloadN Xm160 hx (hb hby d10_164) (pc' := 165) rfl rfl ?_
      by_cases hc165_28 : x1 = (0 : Int32)
      · refine o_ifY Xm160 hx (hb hby d10_165) (teq hc165_28).1 (by decide) (pc' := 182) (by decide) ?_
        exact M182 _ _ Xm160 em160 Nm160 (by rw [hM160, o14, if_neg hc161_27, if_pos hc165_28])
      · refine o_ifN Xm160 hx (hb hby d10_165) (feq hc165_28).1 (pc' := 168) rfl ?_
        refine o_lload Xm160 hx (hb hby d10_168) (pc' := 170) rfl rfl ?_
        refine o_lload Xm160 hx (hb hby d10_170) (pc' := 172) rfl rfl ?_
        refine o_lload Xm160 hx (hb hby d10_172) (pc' := 174) rfl rfl ?_
        refine o_lload Xm160 hx (hb hby d10_174) (pc' := 176) rfl rfl ?_
        refine o_callS Xm160 hx hZ 0 (argsL := [.long z3, .long z4, .long z1, .long z2]) (rest := []) hown (w 60 _ rfl) (w 61 _ rfl) (w 55 _ rfl) (w 62 _ rfl) (by decide) (rm12 l Z a0 hw [] z3 z4 z1 z2 h0 n0 Z0 ) (by decide) (by decide) (cells' := 0) rfl (slots' := 0) rfl (by decide) (by decide) em160 (by rw [hml]; rfl) (lenOf pd_2 rfl) rfl rfl (hb hby d10_176) (pc' := 179) rfl ?_
        intro T29 v29 L29 X29 hQ29
        obtain ⟨rfl, Nq29, e29⟩ := hQ29
        have N29 := Fr.app Nm160 Nq29
        show Go p e below _ (T29.setTop (mkF m 179 _ [.int (o12 z3 z4 z1 z2)]))
        by_cases hc179_30 : (o12 z3 z4 z1 z2) = (0 : Int32)
        · refine o_ifY X29 hx (hb hby d10_179) (teq hc179_30).1 (by decide) (pc' := 207) (by decide) ?_
          exact M207 _ _ X29 e29 N29 (by rw [hM160, o14, if_neg hc161_27, if_neg hc165_28, if_pos hc179_30])
        · refine o_ifN X29 hx (hb hby d10_179) (feq hc179_30).1 (pc' := 182) rfl ?_
          exact M182 _ _ X29 e29 N29 (by rw [hM160, o14, if_neg hc161_27, if_neg hc165_28, if_neg hc179_30])
  have M154 : ∀ (Tm154 : State) (lm154 : List Loc) (Xm154 : Stand p l e ({ frames := 1, cells := 0, slots := 0, locals := 19 } : Room) s m #[(.int x1), (.int x2), (.int x3), (.int x4), (.int x5), (.int x6), (.long z1), (.long z2), (.long z3), (.long z4), (.long z5), (.long z6)] below meth c Tm154 lm154 0 0) (em154 : Tm154.heap = h0) (Nm154 : Fr n0 lm154), (o3 x1 x2 x3 x4 x5 x6 z1 z2 z3 z4 z5 z6) = (o28 x1 x2 x3 x4 x5 x6 z1 z2 z3 z4 z5 z6) → Go p e below OWE (Tm154.setTop (mkF m 154 #[.val (.int x1), .val (.int x2), .val (.int x3), .val (.int x4), .val (.int x5), .val (.int x6), .val (.long z1), .second, .val (.long z2), .second, .val (.long z3), .second, .val (.long z4), .second, .val (.long z5), .second, .val (.long z6), .second, .val (.int (o6 x1 x2 x3 x4 x5 x6 z1 z2 z3 z4 z5 z6))] [])) := by
    intro Tm154 lm154 Xm154 em154 Nm154 hM154
    refine o_iloadN Xm154 hx (hb hby d10_154) (pc' := 155) rfl rfl ?_
    by_cases hc155_26 : x4 = (0 : Int32)
    · refine o_ifY Xm154 hx (hb hby d10_155) (teq hc155_26).1 (by decide) (pc' := 160) (by decide) ?_
      exact M160 _ _ Xm154 em154 Nm154 (by rw [hM154, o28, if_pos hc155_26])
    · refine o_ifN Xm154 hx (hb hby d10_155) (feq hc155_26).1 (pc' := 158) rfl ?_
      refine o_iconst Xm154 hx (0 : Int32) (hb hby d10_158) (pc' := 159) rfl (by decide) ?_
      rw [← hOWE]
      exact o_retZ Xm154 hx rfl hlk hrt (hb hby d10_159) (by decide) (by decide) (by rw [em154]; exact ⟨(by rw [hM154, o28, if_neg hc155_26]), Nm154, rfl⟩)
  have M136 : ∀ (Tm136 : State) (lm136 : List Loc) (Xm136 : Stand p l e ({ frames := 1, cells := 0, slots := 0, locals := 19 } : Room) s m #[(.int x1), (.int x2), (.int x3), (.int x4), (.int x5), (.int x6), (.long z1), (.long z2), (.long z3), (.long z4), (.long z5), (.long z6)] below meth c Tm136 lm136 0 0) (em136 : Tm136.heap = h0) (Nm136 : Fr n0 lm136), (o3 x1 x2 x3 x4 x5 x6 z1 z2 z3 z4 z5 z6) = (o22 x1 x2 x3 x4 x5 x6 z1 z2 z3 z4 z5 z6) → Go p e below OWE (Tm136.setTop (mkF m 136 #[.val (.int x1), .val (.int x2), .val (.int x3), .val (.int x4), .val (.int x5), .val (.int x6), .val (.long z1), .second, .val (.long z2), .second, .val (.long z3), .second, .val (.long z4), .second, .val (.long z5), .second, .val (.long z6), .second, .val (.int (o6 x1 x2 x3 x4 x5 x6 z1 z2 z3 z4 z5 z6))] [])) := by
    intro Tm136 lm136 Xm136 em136 Nm136 hM136
    refine o_iloadN Xm136 hx (hb hby d10_136) (pc' := 137) rfl rfl ?_
    by_cases hc137_23 : x3 = (0 : Int32)
    · refine o_ifY Xm136 hx (hb hby d10_137) (teq hc137_23).1 (by decide) (pc' := 154) (by decide) ?_
      exact M154 _ _ Xm136 em136 Nm136 (by rw [hM136, o22, if_pos hc137_23])
    · refine o_ifN Xm136 hx (hb hby d10_137) (feq hc137_23).1 (pc' := 140) rfl ?_
      refine o_lload Xm136 hx (hb hby d10_140) (pc' := 142) rfl rfl ?_
      refine o_lload Xm136 hx (hb hby d10_142) (pc' := 144) rfl rfl ?_
      refine o_lload Xm136 hx (hb hby d10_144) (pc' := 146) rfl rfl ?_
      refine o_lload Xm136 hx (hb hby d10_146) (pc' := 148) rfl rfl ?_
      refine o_callS Xm136 hx hZ 0 (argsL := [.long z1, .long z2, .long z5, .long z6]) (rest := []) hown (w 60 _ rfl) (w 61 _ rfl) (w 55 _ rfl) (w 62 _ rfl) (by decide) (rm12 l Z a0 hw [] z1 z2 z5 z6 h0 n0 Z0 ) (by decide) (by decide) (cells' := 0) rfl (slots' := 0) rfl (by decide) (by decide) em136 (by rw [hml]; rfl) (lenOf pd_2 rfl) rfl rfl (hb hby d10_148) (pc' := 151) rfl ?_
      intro T24 v24 L24 X24 hQ24
      obtain ⟨rfl, Nq24, e24⟩ := hQ24
      have N24 := Fr.app Nm136 Nq24
      show Go p e below _ (T24.setTop (mkF m 151 _ [.int (o12 z1 z2 z5 z6)]))
      by_cases hc151_25 : (o12 z1 z2 z5 z6) = (0 : Int32)
      · refine o_ifY X24 hx (hb hby d10_151) (teq hc151_25).1 (by decide) (pc' := 160) (by decide) ?_
        exact M160 _ _ X24 e24 N24 (by rw [hM136, o22, if_neg hc137_23, if_pos hc151_25])
      · refine o_ifN X24 hx (hb hby d10_151) (feq hc151_25).1 (pc' := 154) rfl ?_
        exact M154 _ _ X24 e24 N24 (by rw [hM136, o22, if_neg hc137_23, if_neg hc151_25])
  have M114 : ∀ (Tm114 : State) (lm114 : List Loc) (Xm114 : Stand p l e ({ frames := 1, cells := 0, slots := 0, locals := 19 } : Room) s m #[(.int x1), (.int x2), (.int x3), (.int x4), (.int x5), (.int x6), (.long z1), (.long z2), (.long z3), (.long z4), (.long z5), (.long z6)] below meth c Tm114 lm114 0 0) (em114 : Tm114.heap = h0) (Nm114 : Fr n0 lm114), (o3 x1 x2 x3 x4 x5 x6 z1 z2 z3 z4 z5 z6) = (o15 x1 x2 x3 x4 x5 x6 z1 z2 z3 z4 z5 z6) → Go p e below OWE (Tm114.setTop (mkF m 114 #[.val (.int x1), .val (.int x2), .val (.int x3), .val (.int x4), .val (.int x5), .val (.int x6), .val (.long z1), .second, .val (.long z2), .second, .val (.long z3), .second, .val (.long z4), .second, .val (.long z5), .second, .val (.long z6), .second, .val (.int (o6 x1 x2 x3 x4 x5 x6 z1 z2 z3 z4 z5 z6))] [])) := by
    intro Tm114 lm114 Xm114 em114 Nm114 hM114
    refine o_iloadN Xm114 hx (hb hby d10_114) (pc' := 115) rfl rfl ?_
    by_cases hc115_19 : x1 = (0 : Int32)
    · refine o_ifY Xm114 hx (hb hby d10_115) (teq hc115_19).1 (by decide) (pc' := 160) (by decide) ?_
      exact M160 _ _ Xm114 em114 Nm114 (by rw [hM114, o15, if_pos hc115_19])
    · refine o_ifN Xm114 hx (hb hby d10_115) (feq hc115_19).1 (pc' := 118) rfl ?_
      refine o_iloadN Xm114 hx (hb hby d10_118) (pc' := 119) rfl rfl ?_
      by_cases hc119_20 : x2 = (0 : Int32)
      · refine o_ifY Xm114 hx (hb hby d10_119) (teq hc119_20).1 (by decide) (pc' := 136) (by decide) ?_
        exact M136 _ _ Xm114 em114 Nm114 (by rw [hM114, o15, if_neg hc115_19, if_pos hc119_20])
      · refine o_ifN Xm114 hx (hb hby d10_119) (feq hc119_20).1 (pc' := 122) rfl ?_
        refine o_lload Xm114 hx (hb hby d10_122) (pc' := 124) rfl rfl ?_
        refine o_lload Xm114 hx (hb hby d10_124) (pc' := 126) rfl rfl ?_
        refine o_lload Xm114 hx (hb hby d10_126) (pc' := 128) rfl rfl ?_
        refine o_lload Xm114 hx (hb hby d10_128) (pc' := 130) rfl rfl ?_
        refine o_callS Xm114 hx hZ 0 (argsL := [.long z1, .long z2, .long z3, .long z4]) (rest := []) hown (w 60 _ rfl) (w 61 _ rfl) (w 55 _ rfl) (w 62 _ rfl) (by decide) (rm12 l Z a0 hw [] z1 z2 z3 z4 h0 n0 Z0 ) (by decide) (by decide) (cells' := 0) rfl (slots' := 0) rfl (by decide) (by decide) em114 (by rw [hml]; rfl) (lenOf pd_2 rfl) rfl rfl (hb hby d10_130) (pc' := 133) rfl ?_
        intro T21 v21 L21 X21 hQ21
        obtain ⟨rfl, Nq21, e21⟩ := hQ21
        have N21 := Fr.app Nm114 Nq21
        show Go p e below _ (T21.setTop (mkF m 133 _ [.int (o12 z1 z2 z3 z4)]))
        by_cases hc133_22 : (o12 z1 z2 z3 z4) = (0 : Int32)
        · refine o_ifY X21 hx (hb hby d10_133) (teq hc133_22).1 (by decide) (pc' := 160) (by decide) ?_
          exact M160 _ _ X21 e21 N21 (by rw [hM114, o15, if_neg hc115_19, if_neg hc119_20, if_pos hc133_22])
        · refine o_ifN X21 hx (hb hby d10_133) (feq hc133_22).1 (pc' := 136) rfl ?_
          exact M136 _ _ X21 e21 N21 (by rw [hM114, o15, if_neg hc115_19, if_neg hc119_20, if_neg hc133_22])
  have M97 : ∀ (Tm97 : State) (lm97 : List Loc) (Xm97 : Stand p l e ({ frames := 1, cells := 0, slots := 0, locals := 19 } : Room) s m #[(.int x1), (.int x2), (.int x3), (.int x4), (.int x5), (.int x6), (.long z1), (.long z2), (.long z3), (.long z4), (.long z5), (.long z6)] below meth c Tm97 lm97 0 0) (em97 : Tm97.heap = h0) (Nm97 : Fr n0 lm97), (o3 x1 x2 x3 x4 x5 x6 z1 z2 z3 z4 z5 z6) = (o16 x1 x2 x3 x4 x5 x6 z1 z2 z3 z4 z5 z6) → Go p e below OWE (Tm97.setTop (mkF m 97 #[.val (.int x1), .val (.int x2), .val (.int x3), .val (.int x4), .val (.int x5), .val (.int x6), .val (.long z1), .second, .val (.long z2), .second, .val (.long z3), .second, .val (.long z4), .second, .val (.long z5), .second, .val (.long z6), .second, .val (.int (o6 x1 x2 x3 x4 x5 x6 z1 z2 z3 z4 z5 z6))] [])) := by
    intro Tm97 lm97 Xm97 em97 Nm97 hM97
    refine o_iloadN Xm97 hx (hb hby d10_97) (pc' := 98) rfl rfl ?_
    by_cases hc98_16 : x2 = (0 : Int32)
    · refine o_ifY Xm97 hx (hb hby d10_98) (teq hc98_16).1 (by decide) (pc' := 114) (by decide) ?_
      exact M114 _ _ Xm97 em97 Nm97 (by rw [hM97, o16, if_pos hc98_16])
    · refine o_ifN Xm97 hx (hb hby d10_98) (feq hc98_16).1 (pc' := 101) rfl ?_
      refine o_iloadN Xm97 hx (hb hby d10_101) (pc' := 102) rfl rfl ?_
      by_cases hc102_17 : x3 = (0 : Int32)
      · refine o_ifY Xm97 hx (hb hby d10_102) (teq hc102_17).1 (by decide) (pc' := 114) (by decide) ?_
        exact M114 _ _ Xm97 em97 Nm97 (by rw [hM97, o16, if_neg hc98_16, if_pos hc102_17])
      · refine o_ifN Xm97 hx (hb hby d10_102) (feq hc102_17).1 (pc' := 105) rfl ?_
        refine o_iload Xm97 hx (hb hby d10_105) (pc' := 107) rfl rfl ?_
        refine o_iload Xm97 hx (hb hby d10_107) (pc' := 109) rfl rfl ?_
        by_cases hc109_18 : x5 = x6
        · refine o_cmpN Xm97 hx (hb hby d10_109) (teq hc109_18).2 (pc' := 112) rfl ?_
          refine o_iconst Xm97 hx (0 : Int32) (hb hby d10_112) (pc' := 113) rfl (by decide) ?_
          rw [← hOWE]
          exact o_retZ Xm97 hx rfl hlk hrt (hb hby d10_113) (by decide) (by decide) (by rw [em97]; exact ⟨(by rw [hM97, o16, if_neg hc98_16, if_neg hc102_17, if_pos hc109_18]), Nm97, rfl⟩)
        · refine o_cmpY Xm97 hx (hb hby d10_109) (feq hc109_18).2 (by decide) (pc' := 114) (by decide) ?_
          exact M114 _ _ Xm97 em97 Nm97 (by rw [hM97, o16, if_neg hc98_16, if_neg hc102_17, if_neg hc109_18])
  have M81 : ∀ (Tm81 : State) (lm81 : List Loc) (Xm81 : Stand p l e ({ frames := 1, cells := 0, slots := 0, locals := 19 } : Room) s m #[(.int x1), (.int x2), (.int x3), (.int x4), (.int x5), (.int x6), (.long z1), (.long z2), (.long z3), (.long z4), (.long z5), (.long z6)] below meth c Tm81 lm81 0 0) (em81 : Tm81.heap = h0) (Nm81 : Fr n0 lm81), (o3 x1 x2 x3 x4 x5 x6 z1 z2 z3 z4 z5 z6) = (o17 x1 x2 x3 x4 x5 x6 z1 z2 z3 z4 z5 z6) → Go p e below OWE (Tm81.setTop (mkF m 81 #[.val (.int x1), .val (.int x2), .val (.int x3), .val (.int x4), .val (.int x5), .val (.int x6), .val (.long z1), .second, .val (.long z2), .second, .val (.long z3), .second, .val (.long z4), .second, .val (.long z5), .second, .val (.long z6), .second, .val (.int (o6 x1 x2 x3 x4 x5 x6 z1 z2 z3 z4 z5 z6))] [])) := by
    intro Tm81 lm81 Xm81 em81 Nm81 hM81
    refine o_iloadN Xm81 hx (hb hby d10_81) (pc' := 82) rfl rfl ?_
    by_cases hc82_13 : x1 = (0 : Int32)
    · refine o_ifY Xm81 hx (hb hby d10_82) (teq hc82_13).1 (by decide) (pc' := 97) (by decide) ?_
      exact M97 _ _ Xm81 em81 Nm81 (by rw [hM81, o17, if_pos hc82_13])
    · refine o_ifN Xm81 hx (hb hby d10_82) (feq hc82_13).1 (pc' := 85) rfl ?_
      refine o_iloadN Xm81 hx (hb hby d10_85) (pc' := 86) rfl rfl ?_
      by_cases hc86_14 : x3 = (0 : Int32)
      · refine o_ifY Xm81 hx (hb hby d10_86) (teq hc86_14).1 (by decide) (pc' := 97) (by decide) ?_
        exact M97 _ _ Xm81 em81 Nm81 (by rw [hM81, o17, if_neg hc82_13, if_pos hc86_14])
      · refine o_ifN Xm81 hx (hb hby d10_86) (feq hc86_14).1 (pc' := 89) rfl ?_
        refine o_iloadN Xm81 hx (hb hby d10_89) (pc' := 90) rfl rfl ?_
        refine o_iload Xm81 hx (hb hby d10_90) (pc' := 92) rfl rfl ?_
        by_cases hc92_15 : x4 = x6
        · refine o_cmpN Xm81 hx (hb hby d10_92) (teq hc92_15).2 (pc' := 95) rfl ?_
          refine o_iconst Xm81 hx (0 : Int32) (hb hby d10_95) (pc' := 96) rfl (by decide) ?_
          rw [← hOWE]
          exact o_retZ Xm81 hx rfl hlk hrt (hb hby d10_96) (by decide) (by decide) (by rw [em81]; exact ⟨(by rw [hM81, o17, if_neg hc82_13, if_neg hc86_14, if_pos hc92_15]), Nm81, rfl⟩)
        · refine o_cmpY Xm81 hx (hb hby d10_92) (feq hc92_15).2 (by decide) (pc' := 97) (by decide) ?_
          exact M97 _ _ Xm81 em81 Nm81 (by rw [hM81, o17, if_neg hc82_13, if_neg hc86_14, if_neg hc92_15])
  have M65 : ∀ (Tm65 : State) (lm65 : List Loc) (Xm65 : Stand p l e ({ frames := 1, cells := 0, slots := 0, locals := 19 } : Room) s m #[(.int x1), (.int x2), (.int x3), (.int x4), (.int x5), (.int x6), (.long z1), (.long z2), (.long z3), (.long z4), (.long z5), (.long z6)] below meth c Tm65 lm65 0 0) (em65 : Tm65.heap = h0) (Nm65 : Fr n0 lm65), (o3 x1 x2 x3 x4 x5 x6 z1 z2 z3 z4 z5 z6) = (o23 x1 x2 x3 x4 x5 x6 z1 z2 z3 z4 z5 z6) → Go p e below OWE (Tm65.setTop (mkF m 65 #[.val (.int x1), .val (.int x2), .val (.int x3), .val (.int x4), .val (.int x5), .val (.int x6), .val (.long z1), .second, .val (.long z2), .second, .val (.long z3), .second, .val (.long z4), .second, .val (.long z5), .second, .val (.long z6), .second, .val (.int (o6 x1 x2 x3 x4 x5 x6 z1 z2 z3 z4 z5 z6))] [])) := by
    intro Tm65 lm65 Xm65 em65 Nm65 hM65
    refine o_iloadN Xm65 hx (hb hby d10_65) (pc' := 66) rfl rfl ?_
    by_cases hc66_10 : x1 = (0 : Int32)
    · refine o_ifY Xm65 hx (hb hby d10_66) (teq hc66_10).1 (by decide) (pc' := 81) (by decide) ?_
      exact M81 _ _ Xm65 em65 Nm65 (by rw [hM65, o23, if_pos hc66_10])
    · refine o_ifN Xm65 hx (hb hby d10_66) (feq hc66_10).1 (pc' := 69) rfl ?_
      refine o_iloadN Xm65 hx (hb hby d10_69) (pc' := 70) rfl rfl ?_
      by_cases hc70_11 : x2 = (0 : Int32)
      · refine o_ifY Xm65 hx (hb hby d10_70) (teq hc70_11).1 (by decide) (pc' := 81) (by decide) ?_
        exact M81 _ _ Xm65 em65 Nm65 (by rw [hM65, o23, if_neg hc66_10, if_pos hc70_11])
      · refine o_ifN Xm65 hx (hb hby d10_70) (feq hc70_11).1 (pc' := 73) rfl ?_
        refine o_iloadN Xm65 hx (hb hby d10_73) (pc' := 74) rfl rfl ?_
        refine o_iload Xm65 hx (hb hby d10_74) (pc' := 76) rfl rfl ?_
        by_cases hc76_12 : x4 = x5
        · refine o_cmpN Xm65 hx (hb hby d10_76) (teq hc76_12).2 (pc' := 79) rfl ?_
          refine o_iconst Xm65 hx (0 : Int32) (hb hby d10_79) (pc' := 80) rfl (by decide) ?_
          rw [← hOWE]
          exact o_retZ Xm65 hx rfl hlk hrt (hb hby d10_80) (by decide) (by decide) (by rw [em65]; exact ⟨(by rw [hM65, o23, if_neg hc66_10, if_neg hc70_11, if_pos hc76_12]), Nm65, rfl⟩)
        · refine o_cmpY Xm65 hx (hb hby d10_76) (feq hc76_12).2 (by decide) (pc' := 81) (by decide) ?_
          exact M81 _ _ Xm65 em65 Nm65 (by rw [hM65, o23, if_neg hc66_10, if_neg hc70_11, if_neg hc76_12])
  have M63 : ∀ (Tm63 : State) (lm63 : List Loc) (Xm63 : Stand p l e ({ frames := 1, cells := 0, slots := 0, locals := 19 } : Room) s m #[(.int x1), (.int x2), (.int x3), (.int x4), (.int x5), (.int x6), (.long z1), (.long z2), (.long z3), (.long z4), (.long z5), (.long z6)] below meth c Tm63 lm63 0 0) (em63 : Tm63.heap = h0) (Nm63 : Fr n0 lm63), (o3 x1 x2 x3 x4 x5 x6 z1 z2 z3 z4 z5 z6) = (o29 x1 x2 x3 x4 x5 x6 z1 z2 z3 z4 z5 z6) → Go p e below OWE (Tm63.setTop (mkF m 63 #[.val (.int x1), .val (.int x2), .val (.int x3), .val (.int x4), .val (.int x5), .val (.int x6), .val (.long z1), .second, .val (.long z2), .second, .val (.long z3), .second, .val (.long z4), .second, .val (.long z5), .second, .val (.long z6), .second, .val (.int (o6 x1 x2 x3 x4 x5 x6 z1 z2 z3 z4 z5 z6))] [])) := by
    intro Tm63 lm63 Xm63 em63 Nm63 hM63
    refine o_iconst Xm63 hx (0 : Int32) (hb hby d10_63) (pc' := 64) rfl (by decide) ?_
    rw [← hOWE]
    exact o_retZ Xm63 hx rfl hlk hrt (hb hby d10_64) (by decide) (by decide) (by rw [em63]; exact ⟨(by rw [hM63, o29]), Nm63, rfl⟩)
  refine o_iloadN X0 hx (hb hby d10_0) (pc' := 1) rfl rfl ?_
  have J9_1 : ∀ (z0 : Int32), z0 = (o18 x1 x2 x3 x4 x5 x6 z1 z2 z3 z4 z5 z6) → Go p e below OWE (s₁.setTop (mkF m 9 #[.val (.int x1), .val (.int x2), .val (.int x3), .val (.int x4), .val (.int x5), .val (.int x6), .val (.long z1), .second, .val (.long z2), .second, .val (.long z3), .second, .val (.long z4), .second, .val (.long z5), .second, .val (.long z6), .second, .unset] [.int z0])) := by
    intro z0 yy0
    subst yy0
    refine o_iloadN X0 hx (hb hby d10_9) (pc' := 10) rfl rfl ?_
    have J18_2 : ∀ (z0 : Int32), z0 = (o25 x1 x2 x3 x4 x5 x6 z1 z2 z3 z4 z5 z6) → Go p e below OWE (s₁.setTop (mkF m 18 #[.val (.int x1), .val (.int x2), .val (.int x3), .val (.int x4), .val (.int x5), .val (.int x6), .val (.long z1), .second, .val (.long z2), .second, .val (.long z3), .second, .val (.long z4), .second, .val (.long z5), .second, .val (.long z6), .second, .unset] [.int z0, .int (o18 x1 x2 x3 x4 x5 x6 z1 z2 z3 z4 z5 z6)])) := by
      intro z0 yy0
      subst yy0
      refine o_iadd X0 hx (hb hby d10_18) (pc' := 19) rfl ?_
      refine o_iloadN X0 hx (hb hby d10_19) (pc' := 20) rfl rfl ?_
      have J28_3 : ∀ (z0 : Int32), z0 = (o33 x1 x2 x3 x4 x5 x6 z1 z2 z3 z4 z5 z6) → Go p e below OWE (s₁.setTop (mkF m 28 #[.val (.int x1), .val (.int x2), .val (.int x3), .val (.int x4), .val (.int x5), .val (.int x6), .val (.long z1), .second, .val (.long z2), .second, .val (.long z3), .second, .val (.long z4), .second, .val (.long z5), .second, .val (.long z6), .second, .unset] [.int z0, .int ((o18 x1 x2 x3 x4 x5 x6 z1 z2 z3 z4 z5 z6) + (o25 x1 x2 x3 x4 x5 x6 z1 z2 z3 z4 z5 z6))])) := by
        intro z0 yy0
        subst yy0
        refine o_iadd X0 hx (hb hby d10_28) (pc' := 29) rfl ?_
        refine o_istore (x := (o6 x1 x2 x3 x4 x5 x6 z1 z2 z3 z4 z5 z6)) X0 hx (hb hby d10_29) (pc' := 31) rfl (L' := #[.val (.int x1), .val (.int x2), .val (.int x3), .val (.int x4), .val (.int x5), .val (.int x6), .val (.long z1), .second, .val (.long z2), .second, .val (.long z3), .second, .val (.long z4), .second, .val (.long z5), .second, .val (.long z6), .second, .val (.int (o6 x1 x2 x3 x4 x5 x6 z1 z2 z3 z4 z5 z6))]) rfl ?_
        refine o_iloadN X0 hx (hb hby d10_31) (pc' := 32) rfl rfl ?_
        refine o_iloadN X0 hx (hb hby d10_32) (pc' := 33) rfl rfl ?_
        refine o_iload X0 hx (hb hby d10_33) (pc' := 35) rfl rfl ?_
        refine o_callS X0 hx hZ 0 (argsL := [.int x1, .int x4, .int (o6 x1 x2 x3 x4 x5 x6 z1 z2 z3 z4 z5 z6)]) (rest := []) hown (w 57 _ rfl) (w 58 _ rfl) (w 55 _ rfl) (w 59 _ rfl) (by decide) (rm11 l Z a0 hw [] x1 x4 (o6 x1 x2 x3 x4 x5 x6 z1 z2 z3 z4 z5 z6) h0 n0 Z0 ) (by decide) (by decide) (cells' := 0) rfl (slots' := 0) rfl (by decide) (by decide) e0 (by rw [hml]; rfl) (lenOf pd_1 rfl) rfl rfl (hb hby d10_35) (pc' := 38) rfl ?_
        intro T4 v4 L4 X4 hQ4
        obtain ⟨rfl, Nq4, e4⟩ := hQ4
        have N4 := Fr.app N0 Nq4
        show Go p e below _ (T4.setTop (mkF m 38 _ [.int (o11 x1 x4 (o6 x1 x2 x3 x4 x5 x6 z1 z2 z3 z4 z5 z6))]))
        by_cases hc38_5 : (o11 x1 x4 (o6 x1 x2 x3 x4 x5 x6 z1 z2 z3 z4 z5 z6)) = (0 : Int32)
        · refine o_ifY X4 hx (hb hby d10_38) (teq hc38_5).1 (by decide) (pc' := 63) (by decide) ?_
          exact M63 _ _ X4 e4 N4 (by rw [o3, o32, o31, o30, if_pos hc38_5])
        · refine o_ifN X4 hx (hb hby d10_38) (feq hc38_5).1 (pc' := 41) rfl ?_
          refine o_iloadN X4 hx (hb hby d10_41) (pc' := 42) rfl rfl ?_
          refine o_iload X4 hx (hb hby d10_42) (pc' := 44) rfl rfl ?_
          refine o_iload X4 hx (hb hby d10_44) (pc' := 46) rfl rfl ?_
          refine o_callS X4 hx hZ 0 (argsL := [.int x2, .int x5, .int (o6 x1 x2 x3 x4 x5 x6 z1 z2 z3 z4 z5 z6)]) (rest := []) hown (w 57 _ rfl) (w 58 _ rfl) (w 55 _ rfl) (w 59 _ rfl) (by decide) (rm11 l Z a0 hw [] x2 x5 (o6 x1 x2 x3 x4 x5 x6 z1 z2 z3 z4 z5 z6) h0 n0 Z0 ) (by decide) (by decide) (cells' := 0) rfl (slots' := 0) rfl (by decide) (by decide) e4 (by rw [hml]; rfl) (lenOf pd_1 rfl) rfl rfl (hb hby d10_46) (pc' := 49) rfl ?_
          intro T6 v6 L6 X6 hQ6
          obtain ⟨rfl, Nq6, e6⟩ := hQ6
          have N6 := Fr.app N4 Nq6
          show Go p e below _ (T6.setTop (mkF m 49 _ [.int (o11 x2 x5 (o6 x1 x2 x3 x4 x5 x6 z1 z2 z3 z4 z5 z6))]))
          by_cases hc49_7 : (o11 x2 x5 (o6 x1 x2 x3 x4 x5 x6 z1 z2 z3 z4 z5 z6)) = (0 : Int32)
          · refine o_ifY X6 hx (hb hby d10_49) (teq hc49_7).1 (by decide) (pc' := 63) (by decide) ?_
            exact M63 _ _ X6 e6 N6 (by rw [o3, o32, o31, o30, if_neg hc38_5, if_pos hc49_7])
          · refine o_ifN X6 hx (hb hby d10_49) (feq hc49_7).1 (pc' := 52) rfl ?_
            refine o_iloadN X6 hx (hb hby d10_52) (pc' := 53) rfl rfl ?_
            refine o_iload X6 hx (hb hby d10_53) (pc' := 55) rfl rfl ?_
            refine o_iload X6 hx (hb hby d10_55) (pc' := 57) rfl rfl ?_
            refine o_callS X6 hx hZ 0 (argsL := [.int x3, .int x6, .int (o6 x1 x2 x3 x4 x5 x6 z1 z2 z3 z4 z5 z6)]) (rest := []) hown (w 57 _ rfl) (w 58 _ rfl) (w 55 _ rfl) (w 59 _ rfl) (by decide) (rm11 l Z a0 hw [] x3 x6 (o6 x1 x2 x3 x4 x5 x6 z1 z2 z3 z4 z5 z6) h0 n0 Z0 ) (by decide) (by decide) (cells' := 0) rfl (slots' := 0) rfl (by decide) (by decide) e6 (by rw [hml]; rfl) (lenOf pd_1 rfl) rfl rfl (hb hby d10_57) (pc' := 60) rfl ?_
            intro T8 v8 L8 X8 hQ8
            obtain ⟨rfl, Nq8, e8⟩ := hQ8
            have N8 := Fr.app N6 Nq8
            show Go p e below _ (T8.setTop (mkF m 60 _ [.int (o11 x3 x6 (o6 x1 x2 x3 x4 x5 x6 z1 z2 z3 z4 z5 z6))]))
            by_cases hc60_9 : (o11 x3 x6 (o6 x1 x2 x3 x4 x5 x6 z1 z2 z3 z4 z5 z6)) = (0 : Int32)
            · refine o_ifN X8 hx (hb hby d10_60) (teq hc60_9).2 (pc' := 63) rfl ?_
              exact M63 _ _ X8 e8 N8 (by rw [o3, o32, o31, o30, if_neg hc38_5, if_neg hc49_7, if_pos hc60_9])
            · refine o_ifY X8 hx (hb hby d10_60) (feq hc60_9).2 (by decide) (pc' := 65) (by decide) ?_
              exact M65 _ _ X8 e8 N8 (by rw [o3, o32, o31, o30, if_neg hc38_5, if_neg hc49_7, if_neg hc60_9])
      by_cases hc20_3 : x3 = (0 : Int32)
      · refine o_ifY X0 hx (hb hby d10_20) (teq hc20_3).1 (by decide) (pc' := 27) (by decide) ?_
        refine o_iconst X0 hx (0 : Int32) (hb hby d10_27) (pc' := 28) rfl (by decide) ?_
        exact J28_3 ((0 : Int32)) (by rw [o33, if_pos hc20_3])
      · refine o_ifN X0 hx (hb hby d10_20) (feq hc20_3).1 (pc' := 23) rfl ?_
        refine o_iconst X0 hx (1 : Int32) (hb hby d10_23) (pc' := 24) rfl (by decide) ?_
        refine o_goto X0 hx (hb hby d10_24) (by decide) (pc' := 28) (by decide) ?_
        exact J28_3 ((1 : Int32)) (by rw [o33, if_neg hc20_3])
    by_cases hc10_2 : x2 = (0 : Int32)
    · refine o_ifY X0 hx (hb hby d10_10) (teq hc10_2).1 (by decide) (pc' := 17) (by decide) ?_
      refine o_iconst X0 hx (0 : Int32) (hb hby d10_17) (pc' := 18) rfl (by decide) ?_
      exact J18_2 ((0 : Int32)) (by rw [o25, if_pos hc10_2])
    · refine o_ifN X0 hx (hb hby d10_10) (feq hc10_2).1 (pc' := 13) rfl ?_
      refine o_iconst X0 hx (1 : Int32) (hb hby d10_13) (pc' := 14) rfl (by decide) ?_
      refine o_goto X0 hx (hb hby d10_14) (by decide) (pc' := 18) (by decide) ?_
      exact J18_2 ((1 : Int32)) (by rw [o25, if_neg hc10_2])
  by_cases hc1_1 : x1 = (0 : Int32)
  · refine o_ifY X0 hx (hb hby d10_1) (teq hc1_1).1 (by decide) (pc' := 8) (by decide) ?_
    refine o_iconst X0 hx (0 : Int32) (hb hby d10_8) (pc' := 9) rfl (by decide) ?_
    exact J9_1 ((0 : Int32)) (by rw [o18, if_pos hc1_1])
  · refine o_ifN X0 hx (hb hby d10_1) (feq hc1_1).1 (pc' := 4) rfl ?_
    refine o_iconst X0 hx (1 : Int32) (hb hby d10_4) (pc' := 5) rfl (by decide) ?_
    refine o_goto X0 hx (hb hby d10_5) (by decide) (pc' := 9) (by decide) ?_
    exact J9_1 ((1 : Int32)) (by rw [o18, if_neg hc1_1])
theorem d9_0 : decode prog_31_method_10_code 0 = .ok (.iconst 0, 1) := by decide +kernel
theorem d9_1 : decode prog_31_method_10_code 1 = .ok (.istore_n 2, 1) := by decide +kernel
theorem d9_2 : decode prog_31_method_10_code 2 = .ok (.iload_n 2, 1) := by decide +kernel
theorem d9_3 : decode prog_31_method_10_code 3 = .ok (.aload_n 0, 1) := by decide +kernel
theorem d9_4 : decode prog_31_method_10_code 4 = .ok (.getfield 27, 3) := by decide +kernel
theorem d9_7 : decode prog_31_method_10_code 7 = .ok (.if_icmp .ge 21, 3) := by decide +kernel
theorem d9_10 : decode prog_31_method_10_code 10 = .ok (.aload_n 0, 1) := by decide +kernel
theorem d9_11 : decode prog_31_method_10_code 11 = .ok (.getfield 7, 3) := by decide +kernel
theorem d9_14 : decode prog_31_method_10_code 14 = .ok (.iload_n 2, 1) := by decide +kernel
theorem d9_15 : decode prog_31_method_10_code 15 = .ok (.aaload, 1) := by decide +kernel
theorem d9_16 : decode prog_31_method_10_code 16 = .ok (.aload_n 1, 1) := by decide +kernel
theorem d9_17 : decode prog_31_method_10_code 17 = .ok (.if_acmp .ne 5, 3) := by decide +kernel
theorem d9_20 : decode prog_31_method_10_code 20 = .ok (.iload_n 2, 1) := by decide +kernel
theorem d9_21 : decode prog_31_method_10_code 21 = .ok (.ireturn, 1) := by decide +kernel
theorem d9_22 : decode prog_31_method_10_code 22 = .ok (.iinc 2 1, 3) := by decide +kernel
theorem d9_25 : decode prog_31_method_10_code 25 = .ok (.goto (-23), 3) := by decide +kernel
theorem d9_28 : decode prog_31_method_10_code 28 = .ok (.iconst (-1), 1) := by decide +kernel
theorem d9_29 : decode prog_31_method_10_code 29 = .ok (.ireturn, 1) := by decide +kernel
theorem ef_9s0 (m : MethodId) (x0 : Addr) (x1 : Addr) : entryFrame m #[(.ref x0), (.ref x1)] 3 = mkF m 0 #[.val (.ref x0), .val (.ref x1), .unset] [] := by first | (simp [entryFrame, mkF, argsToLocals, Value.category]; done) | rfl
def Q9s0 (Z : State) (r0 : Addr) (r1 : Addr) (r2 : Addr) (k_r1 : ClassId) (h0 : Heap) (n0 : Nat) (v : Option Value) (h : Heap) (L : List Loc) : Prop := (v = some (.int (-1 : Int32)) ∧ Fr n0 L ∧ h = h0)
set_option maxRecDepth 65536 in
set_option maxHeartbeats 40000000 in
theorem rm9s0 (l : Launch) (Z : State) (a0 : Array Value) (hw : ∀ d ∈ tables_1, d.before a0 Z = true) (ws : List Jvm.Cond) (r0 : Addr) (r1 : Addr) (r2 : Addr) (k_r1 : ClassId) (h0 : Heap) (n0 : Nat) (Z0 : n0 ≤ h0.size) (E_r0 : Exa Z h0 r0 cN0) (F_elements_r0 : Fld Z h0 r0 cN0 "elements" "[Ljava/lang/Object;" (.ref r1)) (F_size_r0 : Fld Z h0 r0 cN0 "size" "I" (.int (0 : Int32))) (E_r2 : Exa Z h0 r2 "[I") (V_r1 : Arv Z h0 r1 k_r1 (.object "java/lang/Object") (8 : Int32) [.null, .null, .null, .null, .null, .null, .null, .null] (.null)) (O_r1 : Ovr Z k_r1 "java/lang/Object") (ne_r0_r1 : r0 ≠ r1) (ne_r0_r2 : r0 ≠ r2) (ne_r1_r2 : r1 ≠ r2) :
    Con l (⟨cN0, "placeOf", "(Ljava/lang/Object;)I"⟩ : MethodName) prog_31_method_10_code 3 (some .int) ws ({ frames := 0, cells := 0, slots := 0, locals := 0 } : Room) #[(.ref r0), (.ref r2)] Z h0 (Q9s0 Z r0 r1 r2 k_r1 h0 n0) ({ frames := 0, cells := 0, slots := 0, locals := 0 } : Room).cells ({ frames := 0, cells := 0, slots := 0, locals := 0 } : Room).slots := by
  refine own_body (plainFor_of_name pn_2) ?_
  intro p e s m below meth c s₁ hx hby hlk hml hown hnm hrt hZ X0 e0
  have w : ∀ (k : Nat) (d : Jvm.Cond), tables_1[k]? = some d → d.before a0 Z = true := fun k d h => hw d (List.mem_of_getElem? h)
  have N0 := Fr.nil n0
  rw [ef_9s0]
  generalize hOWE : Owe s _ _ _ = OWE
  refine o_iconst X0 hx (0 : Int32) (hb hby d9_0) (pc' := 1) rfl (by decide) ?_
  refine o_istoreN X0 hx (hb hby d9_1) (pc' := 2) rfl (L' := #[.val (.ref r0), .val (.ref r2), .val (.int (0 : Int32))]) rfl ?_
  refine o_iloadN X0 hx (hb hby d9_2) (pc' := 3) rfl rfl ?_
  refine o_aloadN X0 hx (hb hby d9_3) (pc' := 4) rfl rfl rfl ?_
  refine o_getF X0 hx hZ hown (w 30 _ rfl) e0 F_size_r0 (hb hby d9_4) (pc' := 7) rfl ?_
  intro T1 X1 e1
  refine o_cmpY X1 hx (hb hby d9_7) (flt (by decide : ¬ ((0 : Int32) < (0 : Int32)))).2.1 (by decide) (pc' := 28) (by decide) ?_
  refine o_iconst X1 hx (-1 : Int32) (hb hby d9_28) (pc' := 29) rfl (by decide) ?_
  rw [← hOWE]
  exact o_retI X1 hx hlk hrt (hb hby d9_29) (by decide) (by decide) (by rw [e1]; exact ⟨rfl, N0, rfl⟩)
theorem d5_0 : decode prog_31_method_13_code 0 = .ok (.aload_n 0, 1) := by decide +kernel
theorem d5_1 : decode prog_31_method_13_code 1 = .ok (.getfield 7, 3) := by decide +kernel
theorem d5_4 : decode prog_31_method_13_code 4 = .ok (.iload_n 1, 1) := by decide +kernel
theorem d5_5 : decode prog_31_method_13_code 5 = .ok (.aload_n 2, 1) := by decide +kernel
theorem d5_6 : decode prog_31_method_13_code 6 = .ok (.aastore, 1) := by decide +kernel
theorem d5_7 : decode prog_31_method_13_code 7 = .ok (.aload_n 0, 1) := by decide +kernel
theorem d5_8 : decode prog_31_method_13_code 8 = .ok (.getfield 13, 3) := by decide +kernel
theorem d5_11 : decode prog_31_method_13_code 11 = .ok (.iload_n 1, 1) := by decide +kernel
theorem d5_12 : decode prog_31_method_13_code 12 = .ok (.lload_n 3, 1) := by decide +kernel
theorem d5_13 : decode prog_31_method_13_code 13 = .ok (.lastore, 1) := by decide +kernel
theorem d5_14 : decode prog_31_method_13_code 14 = .ok (.aload_n 0, 1) := by decide +kernel
theorem d5_15 : decode prog_31_method_13_code 15 = .ok (.getfield 17, 3) := by decide +kernel
theorem d5_18 : decode prog_31_method_13_code 18 = .ok (.iload_n 1, 1) := by decide +kernel
theorem d5_19 : decode prog_31_method_13_code 19 = .ok (.lload 5, 2) := by decide +kernel
theorem d5_21 : decode prog_31_method_13_code 21 = .ok (.lastore, 1) := by decide +kernel
theorem d5_22 : decode prog_31_method_13_code 22 = .ok (.aload_n 0, 1) := by decide +kernel
theorem d5_23 : decode prog_31_method_13_code 23 = .ok (.getfield 20, 3) := by decide +kernel
theorem d5_26 : decode prog_31_method_13_code 26 = .ok (.ifnull 14, 3) := by decide +kernel
theorem d5_29 : decode prog_31_method_13_code 29 = .ok (.aload_n 0, 1) := by decide +kernel
theorem d5_30 : decode prog_31_method_13_code 30 = .ok (.getfield 20, 3) := by decide +kernel
theorem d5_33 : decode prog_31_method_13_code 33 = .ok (.aload_n 2, 1) := by decide +kernel
theorem d5_34 : decode prog_31_method_13_code 34 = .ok (.iload_n 1, 1) := by decide +kernel
theorem d5_35 : decode prog_31_method_13_code 35 = .ok (.invokeinterface 63 3, 5) := by decide +kernel
theorem d5_40 : decode prog_31_method_13_code 40 = .ok (.return_, 1) := by decide +kernel
theorem ef_5s2 (m : MethodId) (x0 : Addr) (x1 : Int32) (x2 : Addr) (x3 : Int64) (x4 : Int64) : entryFrame m #[(.ref x0), (.int x1), (.ref x2), (.long x3), (.long x4)] 7 = mkF m 0 #[.val (.ref x0), .val (.int x1), .val (.ref x2), .val (.long x3), .second, .val (.long x4), .second] [] := by first | (simp [entryFrame, mkF, argsToLocals, Value.category]; done) | rfl
def Q5s2 (Z : State) (r0 : Addr) (r1 : Addr) (r2 : Addr) (r3 : Addr) (r4 : Addr) (p0 : Value) (p1 : Value) (p2 : Value) (p3 : Value) (p4 : Value) (p5 : Value) (p6 : Value) (p7 : Value) (p8 : Int64) (p9 : Int64) (p10 : Int64) (p11 : Int64) (p12 : Int64) (p13 : Int64) (p14 : Int64) (p15 : Int64) (p16 : Int64) (p17 : Int64) (p18 : Int64) (p19 : Int64) (p20 : Int64) (p21 : Int64) (p22 : Int64) (p23 : Int64) (p24 : Int32) (p25 : Int64) (p26 : Int64) (k_r1 : ClassId) (k_r2 : ClassId) (k_r3 : ClassId) (h0 : Heap) (n0 : Nat) (v : Option Value) (h : Heap) (L : List Loc) : Prop := (v = none ∧ Fr n0 L ∧ Keep h0 h [r0, r1, r2, r3] ∧ Exa Z h r0 cN0 ∧ Fld Z h r0 cN0 "elements" "[Ljava/lang/Object;" (.ref r1) ∧ Fld Z h r0 cN0 "ends" "[J" (.ref r2) ∧ Fld Z h r0 cN0 "orders" "[J" (.ref r3) ∧ Fld Z h r0 cN0 "placed" "Ljava/util/function/ObjIntConsumer;" (.null) ∧ Fld Z h r0 cN0 "size" "I" (.int p24) ∧ Arv Z h r1 k_r1 (.object "java/lang/Object") (8 : Int32) [.ref r4, p1, p2, p3, p4, p5, p6, p7] (.null) ∧ Arv Z h r2 k_r2 .long (8 : Int32) [.long p25, .long p9, .long p10, .long p11, .long p12, .long p13, .long p14, .long p15] (.long (0 : Int64)) ∧ Arv Z h r3 k_r3 .long (8 : Int32) [.long p26, .long p17, .long p18, .long p19, .long p20, .long p21, .long p22, .long p23] (.long (0 : Int64)))
set_option maxRecDepth 65536 in
set_option maxHeartbeats 40000000 in
theorem rm5s2 (l : Launch) (Z : State) (a0 : Array Value) (hw : ∀ d ∈ tables_1, d.before a0 Z = true) (ws : List Jvm.Cond) (r0 : Addr) (r1 : Addr) (r2 : Addr) (r3 : Addr) (r4 : Addr) (p0 : Value) (p1 : Value) (p2 : Value) (p3 : Value) (p4 : Value) (p5 : Value) (p6 : Value) (p7 : Value) (p8 : Int64) (p9 : Int64) (p10 : Int64) (p11 : Int64) (p12 : Int64) (p13 : Int64) (p14 : Int64) (p15 : Int64) (p16 : Int64) (p17 : Int64) (p18 : Int64) (p19 : Int64) (p20 : Int64) (p21 : Int64) (p22 : Int64) (p23 : Int64) (p24 : Int32) (p25 : Int64) (p26 : Int64) (k_r1 : ClassId) (k_r2 : ClassId) (k_r3 : ClassId) (h0 : Heap) (n0 : Nat) (Z0 : n0 ≤ h0.size) (E_r0 : Exa Z h0 r0 cN0) (F_elements_r0 : Fld Z h0 r0 cN0 "elements" "[Ljava/lang/Object;" (.ref r1)) (F_ends_r0 : Fld Z h0 r0 cN0 "ends" "[J" (.ref r2)) (F_orders_r0 : Fld Z h0 r0 cN0 "orders" "[J" (.ref r3)) (F_placed_r0 : Fld Z h0 r0 cN0 "placed" "Ljava/util/function/ObjIntConsumer;" (.null)) (F_size_r0 : Fld Z h0 r0 cN0 "size" "I" (.int p24)) (g_r0 : n0 ≤ r0) (E_r4 : Exa Z h0 r4 "[I") (V_r1 : Arv Z h0 r1 k_r1 (.object "java/lang/Object") (8 : Int32) [p0, p1, p2, p3, p4, p5, p6, p7] (.null)) (O_r1 : Ovr Z k_r1 "java/lang/Object") (g_r1 : n0 ≤ r1) (V_r2 : Arv Z h0 r2 k_r2 .long (8 : Int32) [.long p8, .long p9, .long p10, .long p11, .long p12, .long p13, .long p14, .long p15] (.long (0 : Int64))) (g_r2 : n0 ≤ r2) (V_r3 : Arv Z h0 r3 k_r3 .long (8 : Int32) [.long p16, .long p17, .long p18, .long p19, .long p20, .long p21, .long p22, .long p23] (.long (0 : Int64))) (g_r3 : n0 ≤ r3) (ne_r0_r1 : r0 ≠ r1) (ne_r0_r2 : r0 ≠ r2) (ne_r1_r2 : r1 ≠ r2) (ne_r0_r3 : r0 ≠ r3) (ne_r1_r3 : r1 ≠ r3) (ne_r2_r3 : r2 ≠ r3) (ne_r0_r4 : r0 ≠ r4) (ne_r1_r4 : r1 ≠ r4) (ne_r2_r4 : r2 ≠ r4) (ne_r3_r4 : r3 ≠ r4) :
    Con l (⟨cN0, "put", "(ILjava/lang/Object;JJ)V"⟩ : MethodName) prog_31_method_13_code 7 none ws ({ frames := 0, cells := 0, slots := 0, locals := 0 } : Room) #[(.ref r0), (.int (0 : Int32)), (.ref r4), (.long p25), (.long p26)] Z h0 (Q5s2 Z r0 r1 r2 r3 r4 p0 p1 p2 p3 p4 p5 p6 p7 p8 p9 p10 p11 p12 p13 p14 p15 p16 p17 p18 p19 p20 p21 p22 p23 p24 p25 p26 k_r1 k_r2 k_r3 h0 n0) ({ frames := 0, cells := 0, slots := 0, locals := 0 } : Room).cells ({ frames := 0, cells := 0, slots := 0, locals := 0 } : Room).slots := by
  refine own_body (plainFor_of_name pn_2) ?_
  intro p e s m below meth c s₁ hx hby hlk hml hown hnm hrt hZ X0 e0
  have w : ∀ (k : Nat) (d : Jvm.Cond), tables_1[k]? = some d → d.before a0 Z = true := fun k d h => hw d (List.mem_of_getElem? h)
  have N0 := Fr.nil n0
  have K0 := Keep.refl h0 [r0, r1, r2, r3]
  rw [ef_5s2]
  generalize hOWE : Owe s _ _ _ = OWE
  refine o_aloadN X0 hx (hb hby d5_0) (pc' := 1) rfl rfl rfl ?_
  refine o_getF X0 hx hZ hown (w 16 _ rfl) e0 F_elements_r0 (hb hby d5_1) (pc' := 4) rfl ?_
  intro T1 X1 e1
  refine o_iloadN X1 hx (hb hby d5_4) (pc' := 5) rfl rfl ?_
  refine o_aloadN X1 hx (hb hby d5_5) (pc' := 6) rfl rfl rfl ?_
  refine o_aastore X1 hx hZ 0 e1 V_r1 rfl (fun cl A q => Sto.ofV A q O_r1 (Ins.of_exa E_r4 (w 36 _ rfl))) (by decide) (by decide) (by exact (by decide : 0 < 8)) rfl (vs' := [.ref r4, p1, p2, p3, p4, p5, p6, p7]) rfl (hb hby d5_6) (pc' := 7) rfl ?_
  intro T2 h2 X2 e2 W2 V2_
  have E3_r0 := Exa.wr W2 E_r0
  have F3_r0_elements := Fld.other W2 F_elements_r0 (Or.inl ne_r0_r1)
  have F3_r0_ends := Fld.other W2 F_ends_r0 (Or.inl ne_r0_r1)
  have F3_r0_orders := Fld.other W2 F_orders_r0 (Or.inl ne_r0_r1)
  have F3_r0_placed := Fld.other W2 F_placed_r0 (Or.inl ne_r0_r1)
  have F3_r0_size := Fld.other W2 F_size_r0 (Or.inl ne_r0_r1)
  have E3_r4 := Exa.wr W2 E_r4
  have V3_r2 := Arv.other V_r2 W2 (Ne.symm ne_r1_r2)
  have V3_r3 := Arv.other V_r3 W2 (Ne.symm ne_r1_r3)
  have N2 := Fr.snoc X2 N0 g_r1
  have Z2 : n0 ≤ h2.size := by rw [W2.size]; exact Z0
  have K2 := Keep.wr K0 W2 (Or.inl (List.mem_of_getElem? (i := 1) rfl))
  refine o_aloadN X2 hx (hb hby d5_7) (pc' := 8) rfl rfl rfl ?_
  refine o_getF X2 hx hZ hown (w 19 _ rfl) e2 F3_r0_ends (hb hby d5_8) (pc' := 11) rfl ?_
  intro T4 X4 e4
  refine o_iloadN X4 hx (hb hby d5_11) (pc' := 12) rfl rfl ?_
  refine o_lloadN X4 hx (hb hby d5_12) (pc' := 13) rfl rfl ?_
  refine o_lastore X4 hx hZ 0 e4 V3_r2 (by decide) (by decide) (by exact (by decide : 0 < 8)) (vs' := [.long p25, .long p9, .long p10, .long p11, .long p12, .long p13, .long p14, .long p15]) rfl (hb hby d5_13) (pc' := 14) rfl ?_
  intro T5 h5 X5 e5 W5 V5_
  have E6_r0 := Exa.wr W5 E3_r0
  have F6_r0_elements := Fld.other W5 F3_r0_elements (Or.inl ne_r0_r2)
  have F6_r0_ends := Fld.other W5 F3_r0_ends (Or.inl ne_r0_r2)
  have F6_r0_orders := Fld.other W5 F3_r0_orders (Or.inl ne_r0_r2)
  have F6_r0_placed := Fld.other W5 F3_r0_placed (Or.inl ne_r0_r2)
  have F6_r0_size := Fld.other W5 F3_r0_size (Or.inl ne_r0_r2)
  have E6_r4 := Exa.wr W5 E3_r4
  have V6_r1 := Arv.other V2_ W5 ne_r1_r2
  have V6_r3 := Arv.other V3_r3 W5 (Ne.symm ne_r2_r3)
  have N5 := Fr.snoc X5 N2 g_r2
  have Z5 : n0 ≤ h5.size := by rw [W5.size]; exact Z2
  have K5 := Keep.wr K2 W5 (Or.inl (List.mem_of_getElem? (i := 2) rfl))
  refine o_aloadN X5 hx (hb hby d5_14) (pc' := 15) rfl rfl rfl ?_
  refine o_getF X5 hx hZ hown (w 21 _ rfl) e5 F6_r0_orders (hb hby d5_15) (pc' := 18) rfl ?_
  intro T7 X7 e7
  refine o_iloadN X7 hx (hb hby d5_18) (pc' := 19) rfl rfl ?_
  refine o_lload X7 hx (hb hby d5_19) (pc' := 21) rfl rfl ?_
  refine o_lastore X7 hx hZ 0 e7 V6_r3 (by decide) (by decide) (by exact (by decide : 0 < 8)) (vs' := [.long p26, .long p17, .long p18, .long p19, .long p20, .long p21, .long p22, .long p23]) rfl (hb hby d5_21) (pc' := 22) rfl ?_
  intro T8 h8 X8 e8 W8 V8_
  have E9_r0 := Exa.wr W8 E6_r0
  have F9_r0_elements := Fld.other W8 F6_r0_elements (Or.inl ne_r0_r3)
  have F9_r0_ends := Fld.other W8 F6_r0_ends (Or.inl ne_r0_r3)
  have F9_r0_orders := Fld.other W8 F6_r0_orders (Or.inl ne_r0_r3)
  have F9_r0_placed := Fld.other W8 F6_r0_placed (Or.inl ne_r0_r3)
  have F9_r0_size := Fld.other W8 F6_r0_size (Or.inl ne_r0_r3)
  have E9_r4 := Exa.wr W8 E6_r4
  have V9_r1 := Arv.other V6_r1 W8 ne_r1_r3
  have V9_r2 := Arv.other V5_ W8 ne_r2_r3
  have N8 := Fr.snoc X8 N5 g_r3
  have Z8 : n0 ≤ h8.size := by rw [W8.size]; exact Z5
  have K8 := Keep.wr K5 W8 (Or.inl (List.mem_of_getElem? (i := 3) rfl))
  refine o_aloadN X8 hx (hb hby d5_22) (pc' := 23) rfl rfl rfl ?_
  refine o_getF X8 hx hZ hown (w 23 _ rfl) e8 F9_r0_placed (hb hby d5_23) (pc' := 26) rfl ?_
  intro T10 X10 e10
  refine Go.via (fun t k => XS.ifnullYes X10.here hx rfl (pc0 := 26) (pc' := 40) rfl (hb hby d5_26) rfl (by decide) (by decide) k) ?_
  show Go p e below _ (T10.setTop (mkF m 40 _ []))
  rw [← hOWE]
  exact o_retV X10 hx hlk hrt (hb hby d5_40) (by decide) (by decide) (by rw [e10]; exact ⟨rfl, N8, K8, E9_r0, F9_r0_elements, F9_r0_ends, F9_r0_orders, F9_r0_placed, F9_r0_size, V9_r1, V9_r2, V8_⟩)
theorem d7_0 : decode prog_31_method_14_code 0 = .ok (.aload_n 0, 1) := by decide +kernel
theorem d7_1 : decode prog_31_method_14_code 1 = .ok (.getfield 7, 3) := by decide +kernel
theorem d7_4 : decode prog_31_method_14_code 4 = .ok (.iload_n 1, 1) := by decide +kernel
theorem d7_5 : decode prog_31_method_14_code 5 = .ok (.aaload, 1) := by decide +kernel
theorem d7_6 : decode prog_31_method_14_code 6 = .ok (.areturn, 1) := by decide +kernel
theorem ef_7s4 (m : MethodId) (x0 : Addr) (x1 : Int32) : entryFrame m #[(.ref x0), (.int x1)] 2 = mkF m 0 #[.val (.ref x0), .val (.int x1)] [] := by first | (simp [entryFrame, mkF, argsToLocals, Value.category]; done) | rfl
def Q7s4 (Z : State) (r0 : Addr) (r1 : Addr) (r2 : Addr) (p0 : Value) (p1 : Value) (p2 : Value) (p3 : Value) (p4 : Value) (p5 : Value) (p6 : Value) (k_r1 : ClassId) (h0 : Heap) (n0 : Nat) (v : Option Value) (h : Heap) (L : List Loc) : Prop := (v = some (.ref r2) ∧ Fr n0 L ∧ h = h0)
set_option maxRecDepth 65536 in
set_option maxHeartbeats 40000000 in
theorem rm7s4 (l : Launch) (Z : State) (a0 : Array Value) (hw : ∀ d ∈ tables_1, d.before a0 Z = true) (ws : List Jvm.Cond) (r0 : Addr) (r1 : Addr) (r2 : Addr) (p0 : Value) (p1 : Value) (p2 : Value) (p3 : Value) (p4 : Value) (p5 : Value) (p6 : Value) (k_r1 : ClassId) (h0 : Heap) (n0 : Nat) (Z0 : n0 ≤ h0.size) (E_r0 : Exa Z h0 r0 cN0) (F_elements_r0 : Fld Z h0 r0 cN0 "elements" "[Ljava/lang/Object;" (.ref r1)) (E_r2 : Exa Z h0 r2 "[I") (V_r1 : Arv Z h0 r1 k_r1 (.object "java/lang/Object") (8 : Int32) [.ref r2, p0, p1, p2, p3, p4, p5, p6] (.null)) (O_r1 : Ovr Z k_r1 "java/lang/Object") (ne_r0_r1 : r0 ≠ r1) (ne_r0_r2 : r0 ≠ r2) (ne_r1_r2 : r1 ≠ r2) :
    Con l (⟨cN0, "at", "(I)Ljava/lang/Object;"⟩ : MethodName) prog_31_method_14_code 2 (some (.object "java/lang/Object")) ws ({ frames := 0, cells := 0, slots := 0, locals := 0 } : Room) #[(.ref r0), (.int (0 : Int32))] Z h0 (Q7s4 Z r0 r1 r2 p0 p1 p2 p3 p4 p5 p6 k_r1 h0 n0) ({ frames := 0, cells := 0, slots := 0, locals := 0 } : Room).cells ({ frames := 0, cells := 0, slots := 0, locals := 0 } : Room).slots := by
  refine own_body (plainFor_of_name pn_2) ?_
  intro p e s m below meth c s₁ hx hby hlk hml hown hnm hrt hZ X0 e0
  have w : ∀ (k : Nat) (d : Jvm.Cond), tables_1[k]? = some d → d.before a0 Z = true := fun k d h => hw d (List.mem_of_getElem? h)
  have N0 := Fr.nil n0
  rw [ef_7s4]
  generalize hOWE : Owe s _ _ _ = OWE
  refine o_aloadN X0 hx (hb hby d7_0) (pc' := 1) rfl rfl rfl ?_
  refine o_getF X0 hx hZ hown (w 16 _ rfl) e0 F_elements_r0 (hb hby d7_1) (pc' := 4) rfl ?_
  intro T1 X1 e1
  refine o_iloadN X1 hx (hb hby d7_4) (pc' := 5) rfl rfl ?_
  refine o_aaload X1 hx hZ (.ref r2) e1 V_r1 rfl (by decide) (by rfl) (hb hby d7_5) (pc' := 6) rfl ?_
  rw [← hOWE]
  exact o_ret X1 hx hlk hrt rfl (Or.inr (Or.inr (Or.inr (Or.inr ⟨rfl, rfl, rfl⟩)))) (hb hby d7_6) (by decide) (by decide) (by rw [e1]; exact ⟨rfl, N0, rfl⟩)
theorem d6_0 : decode prog_31_method_11_code 0 = .ok (.aload_n 0, 1) := by decide +kernel
theorem d6_1 : decode prog_31_method_11_code 1 = .ok (.iload_n 1, 1) := by decide +kernel
theorem d6_2 : decode prog_31_method_11_code 2 = .ok (.invokevirtual 31, 3) := by decide +kernel
theorem d6_5 : decode prog_31_method_11_code 5 = .ok (.astore_n 2, 1) := by decide +kernel
theorem d6_6 : decode prog_31_method_11_code 6 = .ok (.aload_n 0, 1) := by decide +kernel
theorem d6_7 : decode prog_31_method_11_code 7 = .ok (.getfield 13, 3) := by decide +kernel
theorem d6_10 : decode prog_31_method_11_code 10 = .ok (.iload_n 1, 1) := by decide +kernel
theorem d6_11 : decode prog_31_method_11_code 11 = .ok (.laload, 1) := by decide +kernel
theorem d6_12 : decode prog_31_method_11_code 12 = .ok (.lstore_n 3, 1) := by decide +kernel
theorem d6_13 : decode prog_31_method_11_code 13 = .ok (.aload_n 0, 1) := by decide +kernel
theorem d6_14 : decode prog_31_method_11_code 14 = .ok (.getfield 17, 3) := by decide +kernel
theorem d6_17 : decode prog_31_method_11_code 17 = .ok (.iload_n 1, 1) := by decide +kernel
theorem d6_18 : decode prog_31_method_11_code 18 = .ok (.laload, 1) := by decide +kernel
theorem d6_19 : decode prog_31_method_11_code 19 = .ok (.lstore 5, 2) := by decide +kernel
theorem d6_21 : decode prog_31_method_11_code 21 = .ok (.iload_n 1, 1) := by decide +kernel
theorem d6_22 : decode prog_31_method_11_code 22 = .ok (.ifCond .le 67, 3) := by decide +kernel
theorem d6_25 : decode prog_31_method_11_code 25 = .ok (.iload_n 1, 1) := by decide +kernel
theorem d6_26 : decode prog_31_method_11_code 26 = .ok (.iconst 1, 1) := by decide +kernel
theorem d6_27 : decode prog_31_method_11_code 27 = .ok (.isub, 1) := by decide +kernel
theorem d6_28 : decode prog_31_method_11_code 28 = .ok (.iconst 2, 1) := by decide +kernel
theorem d6_29 : decode prog_31_method_11_code 29 = .ok (.idiv, 1) := by decide +kernel
theorem d6_30 : decode prog_31_method_11_code 30 = .ok (.istore 7, 2) := by decide +kernel
theorem d6_32 : decode prog_31_method_11_code 32 = .ok (.lload_n 3, 1) := by decide +kernel
theorem d6_33 : decode prog_31_method_11_code 33 = .ok (.lload 5, 2) := by decide +kernel
theorem d6_35 : decode prog_31_method_11_code 35 = .ok (.aload_n 0, 1) := by decide +kernel
theorem d6_36 : decode prog_31_method_11_code 36 = .ok (.getfield 13, 3) := by decide +kernel
theorem d6_39 : decode prog_31_method_11_code 39 = .ok (.iload 7, 2) := by decide +kernel
theorem d6_41 : decode prog_31_method_11_code 41 = .ok (.laload, 1) := by decide +kernel
theorem d6_42 : decode prog_31_method_11_code 42 = .ok (.aload_n 0, 1) := by decide +kernel
theorem d6_43 : decode prog_31_method_11_code 43 = .ok (.getfield 17, 3) := by decide +kernel
theorem d6_46 : decode prog_31_method_11_code 46 = .ok (.iload 7, 2) := by decide +kernel
theorem d6_48 : decode prog_31_method_11_code 48 = .ok (.laload, 1) := by decide +kernel
theorem d6_49 : decode prog_31_method_11_code 49 = .ok (.invokestatic 69, 3) := by decide +kernel
theorem d6_52 : decode prog_31_method_11_code 52 = .ok (.ifCond .ne 6, 3) := by decide +kernel
theorem d6_55 : decode prog_31_method_11_code 55 = .ok (.goto 34, 3) := by decide +kernel
theorem d6_58 : decode prog_31_method_11_code 58 = .ok (.aload_n 0, 1) := by decide +kernel
theorem d6_59 : decode prog_31_method_11_code 59 = .ok (.iload_n 1, 1) := by decide +kernel
theorem d6_60 : decode prog_31_method_11_code 60 = .ok (.aload_n 0, 1) := by decide +kernel
theorem d6_61 : decode prog_31_method_11_code 61 = .ok (.iload 7, 2) := by decide +kernel
theorem d6_63 : decode prog_31_method_11_code 63 = .ok (.invokevirtual 31, 3) := by decide +kernel
theorem d6_66 : decode prog_31_method_11_code 66 = .ok (.aload_n 0, 1) := by decide +kernel
theorem d6_67 : decode prog_31_method_11_code 67 = .ok (.getfield 13, 3) := by decide +kernel
theorem d6_70 : decode prog_31_method_11_code 70 = .ok (.iload 7, 2) := by decide +kernel
theorem d6_72 : decode prog_31_method_11_code 72 = .ok (.laload, 1) := by decide +kernel
theorem d6_73 : decode prog_31_method_11_code 73 = .ok (.aload_n 0, 1) := by decide +kernel
theorem d6_74 : decode prog_31_method_11_code 74 = .ok (.getfield 17, 3) := by decide +kernel
theorem d6_77 : decode prog_31_method_11_code 77 = .ok (.iload 7, 2) := by decide +kernel
theorem d6_79 : decode prog_31_method_11_code 79 = .ok (.laload, 1) := by decide +kernel
theorem d6_80 : decode prog_31_method_11_code 80 = .ok (.invokevirtual 44, 3) := by decide +kernel
theorem d6_83 : decode prog_31_method_11_code 83 = .ok (.iload 7, 2) := by decide +kernel
theorem d6_85 : decode prog_31_method_11_code 85 = .ok (.istore_n 1, 1) := by decide +kernel
theorem d6_86 : decode prog_31_method_11_code 86 = .ok (.goto (-65), 3) := by decide +kernel
theorem d6_89 : decode prog_31_method_11_code 89 = .ok (.aload_n 0, 1) := by decide +kernel
theorem d6_90 : decode prog_31_method_11_code 90 = .ok (.iload_n 1, 1) := by decide +kernel
theorem d6_91 : decode prog_31_method_11_code 91 = .ok (.aload_n 2, 1) := by decide +kernel
theorem d6_92 : decode prog_31_method_11_code 92 = .ok (.lload_n 3, 1) := by decide +kernel
theorem d6_93 : decode prog_31_method_11_code 93 = .ok (.lload 5, 2) := by decide +kernel
theorem d6_95 : decode prog_31_method_11_code 95 = .ok (.invokevirtual 44, 3) := by decide +kernel
theorem d6_98 : decode prog_31_method_11_code 98 = .ok (.iload_n 1, 1) := by decide +kernel
theorem d6_99 : decode prog_31_method_11_code 99 = .ok (.ireturn, 1) := by decide +kernel
theorem ef_6s3 (m : MethodId) (x0 : Addr) (x1 : Int32) : entryFrame m #[(.ref x0), (.int x1)] 8 = mkF m 0 #[.val (.ref x0), .val (.int x1), .unset, .unset, .unset, .unset, .unset, .unset] [] := by first | (simp [entryFrame, mkF, argsToLocals, Value.category]; done) | rfl
def Q6s3 (Z : State) (r0 : Addr) (r1 : Addr) (r2 : Addr) (r3 : Addr) (r4 : Addr) (p0 : Int64) (p1 : Int64) (p2 : Int64) (p3 : Int64) (p4 : Int64) (p5 : Int64) (p6 : Int64) (p7 : Int64) (p8 : Int64) (p9 : Int64) (p10 : Int64) (p11 : Int64) (p12 : Int64) (p13 : Int64) (p14 : Int64) (p15 : Int64) (k_r1 : ClassId) (k_r3 : ClassId) (k_r4 : ClassId) (h0 : Heap) (n0 : Nat) (v : Option Value) (h : Heap) (L : List Loc) : Prop := (v = some (.int (0 : Int32)) ∧ Fr n0 L ∧ Keep h0 h [r0, r1, r3, r4] ∧ Exa Z h r0 cN0 ∧ Fld Z h r0 cN0 "elements" "[Ljava/lang/Object;" (.ref r1) ∧ Fld Z h r0 cN0 "ends" "[J" (.ref r3) ∧ Fld Z h r0 cN0 "orders" "[J" (.ref r4) ∧ Fld Z h r0 cN0 "placed" "Ljava/util/function/ObjIntConsumer;" (.null) ∧ Fld Z h r0 cN0 "size" "I" (.int (1 : Int32)) ∧ Arv Z h r1 k_r1 (.object "java/lang/Object") (8 : Int32) [.ref r2, .null, .null, .null, .null, .null, .null, .null] (.null) ∧ Arv Z h r3 k_r3 .long (8 : Int32) [.long p0, .long p1, .long p2, .long p3, .long p4, .long p5, .long p6, .long p7] (.long (0 : Int64)) ∧ Arv Z h r4 k_r4 .long (8 : Int32) [.long p8, .long p9, .long p10, .long p11, .long p12, .long p13, .long p14, .long p15] (.long (0 : Int64)))
set_option maxRecDepth 65536 in
set_option maxHeartbeats 40000000 in
theorem rm6s3 (l : Launch) (Z : State) (a0 : Array Value) (hw : ∀ d ∈ tables_1, d.before a0 Z = true) (ws : List Jvm.Cond) (r0 : Addr) (r1 : Addr) (r2 : Addr) (r3 : Addr) (r4 : Addr) (p0 : Int64) (p1 : Int64) (p2 : Int64) (p3 : Int64) (p4 : Int64) (p5 : Int64) (p6 : Int64) (p7 : Int64) (p8 : Int64) (p9 : Int64) (p10 : Int64) (p11 : Int64) (p12 : Int64) (p13 : Int64) (p14 : Int64) (p15 : Int64) (k_r1 : ClassId) (k_r3 : ClassId) (k_r4 : ClassId) (h0 : Heap) (n0 : Nat) (Z0 : n0 ≤ h0.size) (E_r0 : Exa Z h0 r0 cN0) (F_elements_r0 : Fld Z h0 r0 cN0 "elements" "[Ljava/lang/Object;" (.ref r1)) (F_ends_r0 : Fld Z h0 r0 cN0 "ends" "[J" (.ref r3)) (F_orders_r0 : Fld Z h0 r0 cN0 "orders" "[J" (.ref r4)) (F_placed_r0 : Fld Z h0 r0 cN0 "placed" "Ljava/util/function/ObjIntConsumer;" (.null)) (F_size_r0 : Fld Z h0 r0 cN0 "size" "I" (.int (1 : Int32))) (g_r0 : n0 ≤ r0) (E_r2 : Exa Z h0 r2 "[I") (V_r1 : Arv Z h0 r1 k_r1 (.object "java/lang/Object") (8 : Int32) [.ref r2, .null, .null, .null, .null, .null, .null, .null] (.null)) (O_r1 : Ovr Z k_r1 "java/lang/Object") (g_r1 : n0 ≤ r1) (V_r3 : Arv Z h0 r3 k_r3 .long (8 : Int32) [.long p0, .long p1, .long p2, .long p3, .long p4, .long p5, .long p6, .long p7] (.long (0 : Int64))) (g_r3 : n0 ≤ r3) (V_r4 : Arv Z h0 r4 k_r4 .long (8 : Int32) [.long p8, .long p9, .long p10, .long p11, .long p12, .long p13, .long p14, .long p15] (.long (0 : Int64))) (g_r4 : n0 ≤ r4) (ne_r0_r1 : r0 ≠ r1) (ne_r0_r2 : r0 ≠ r2) (ne_r1_r2 : r1 ≠ r2) (ne_r0_r3 : r0 ≠ r3) (ne_r1_r3 : r1 ≠ r3) (ne_r2_r3 : r2 ≠ r3) (ne_r0_r4 : r0 ≠ r4) (ne_r1_r4 : r1 ≠ r4) (ne_r2_r4 : r2 ≠ r4) (ne_r3_r4 : r3 ≠ r4) :
    Con l (⟨cN0, "siftUp", "(I)I"⟩ : MethodName) prog_31_method_11_code 8 (some .int) ws ({ frames := 1, cells := 0, slots := 0, locals := 18 } : Room) #[(.ref r0), (.int (0 : Int32))] Z h0 (Q6s3 Z r0 r1 r2 r3 r4 p0 p1 p2 p3 p4 p5 p6 p7 p8 p9 p10 p11 p12 p13 p14 p15 k_r1 k_r3 k_r4 h0 n0) ({ frames := 1, cells := 0, slots := 0, locals := 18 } : Room).cells ({ frames := 1, cells := 0, slots := 0, locals := 18 } : Room).slots := by
  refine own_body (plainFor_of_name pn_2) ?_
  intro p e s m below meth c s₁ hx hby hlk hml hown hnm hrt hZ X0 e0
  have w : ∀ (k : Nat) (d : Jvm.Cond), tables_1[k]? = some d → d.before a0 Z = true := fun k d h => hw d (List.mem_of_getElem? h)
  have N0 := Fr.nil n0
  have K0 := Keep.refl h0 [r0, r1, r3, r4]
  rw [ef_6s3]
  generalize hOWE : Owe s _ _ _ = OWE
  refine o_aloadN X0 hx (hb hby d6_0) (pc' := 1) rfl rfl rfl ?_
  refine o_iloadN X0 hx (hb hby d6_1) (pc' := 2) rfl rfl ?_
  refine o_callP X0 hx hZ 0 (argsL := [.int (0 : Int32)]) (rest := []) (a := r0) hown (w 41 _ rfl) (w 3 _ rfl) (w 43 _ rfl) (w 42 _ rfl) (w 4 _ rfl) (w 44 _ rfl) (by decide) (rm7s4 l Z a0 hw [] _ _ _ _ _ _ _ _ _ _ _ h0 n0 Z0 E_r0 F_elements_r0 E_r2 V_r1 O_r1 ne_r0_r1 ne_r0_r2 ne_r1_r2) E_r0 (by decide) (by decide) (cells' := 0) rfl (slots' := 0) rfl (by decide) (by decide) e0 (by rw [hml]; rfl) (lenOf pd_7 rfl) rfl rfl (hb hby d6_2) (pc' := 5) rfl ?_
  intro T1 v1 L1 X1 hQ1
  obtain ⟨rfl, Nq1, e1⟩ := hQ1
  have N1 := Fr.app N0 Nq1
  show Go p e below _ (T1.setTop (mkF m 5 _ [.ref r2]))
  refine o_astoreN X1 hx (hb hby d6_5) (pc' := 6) rfl (L' := #[.val (.ref r0), .val (.int (0 : Int32)), .val (.ref r2), .unset, .unset, .unset, .unset, .unset]) rfl rfl ?_
  refine o_aloadN X1 hx (hb hby d6_6) (pc' := 7) rfl rfl rfl ?_
  refine o_getF X1 hx hZ hown (w 19 _ rfl) e1 F_ends_r0 (hb hby d6_7) (pc' := 10) rfl ?_
  intro T2 X2 e2
  refine o_iloadN X2 hx (hb hby d6_10) (pc' := 11) rfl rfl ?_
  refine o_laload X2 hx hZ (.long p0) e2 V_r3 (by decide) (by rfl) (hb hby d6_11) (pc' := 12) rfl ?_
  refine o_lstoreN X2 hx (hb hby d6_12) (pc' := 13) rfl (L' := #[.val (.ref r0), .val (.int (0 : Int32)), .val (.ref r2), .val (.long p0), .second, .unset, .unset, .unset]) rfl ?_
  refine o_aloadN X2 hx (hb hby d6_13) (pc' := 14) rfl rfl rfl ?_
  refine o_getF X2 hx hZ hown (w 21 _ rfl) e2 F_orders_r0 (hb hby d6_14) (pc' := 17) rfl ?_
  intro T3 X3 e3
  refine o_iloadN X3 hx (hb hby d6_17) (pc' := 18) rfl rfl ?_
  refine o_laload X3 hx hZ (.long p8) e3 V_r4 (by decide) (by rfl) (hb hby d6_18) (pc' := 19) rfl ?_
  refine o_lstore X3 hx (hb hby d6_19) (pc' := 21) rfl (L' := #[.val (.ref r0), .val (.int (0 : Int32)), .val (.ref r2), .val (.long p0), .second, .val (.long p8), .second, .unset]) rfl ?_
  refine o_iloadN X3 hx (hb hby d6_21) (pc' := 22) rfl rfl ?_
  refine o_ifY X3 hx (hb hby d6_22) (flt (by decide : ¬ ((0 : Int32) < (0 : Int32)))).2.2.2 (by decide) (pc' := 89) (by decide) ?_
  refine o_aloadN X3 hx (hb hby d6_89) (pc' := 90) rfl rfl rfl ?_
  refine o_iloadN X3 hx (hb hby d6_90) (pc' := 91) rfl rfl ?_
  refine o_aloadN X3 hx (hb hby d6_91) (pc' := 92) rfl rfl rfl ?_
  refine o_lloadN X3 hx (hb hby d6_92) (pc' := 93) rfl rfl ?_
  refine o_lload X3 hx (hb hby d6_93) (pc' := 95) rfl rfl ?_
  refine o_callP X3 hx hZ 0 (argsL := [.int (0 : Int32), .ref r2, .long p0, .long p8]) (rest := []) (a := r0) hown (w 32 _ rfl) (w 3 _ rfl) (w 34 _ rfl) (w 33 _ rfl) (w 4 _ rfl) (w 35 _ rfl) (by decide) (rm5s2 l Z a0 hw [] _ _ _ _ _ _ _ _ _ _ _ _ _ _ _ _ _ _ _ _ _ _ _ _ _ _ _ _ _ _ p0 p8 _ _ _ h0 n0 Z0 E_r0 F_elements_r0 F_ends_r0 F_orders_r0 F_placed_r0 F_size_r0 g_r0 E_r2 V_r1 O_r1 g_r1 V_r3 g_r3 V_r4 g_r4 ne_r0_r1 ne_r0_r3 ne_r1_r3 ne_r0_r4 ne_r1_r4 ne_r3_r4 ne_r0_r2 ne_r1_r2 (Ne.symm ne_r2_r3) (Ne.symm ne_r2_r4)) E_r0 (by decide) (by decide) (cells' := 0) rfl (slots' := 0) rfl (by decide) (by decide) e3 (by rw [hml]; rfl) (lenOf pd_6 rfl) rfl rfl (hb hby d6_95) (pc' := 98) rfl ?_
  intro T4 v4 L4 X4 hQ4
  obtain ⟨rfl, Nq4, Kq4, P4_0, P4_1, P4_2, P4_3, P4_4, P4_5, P4_6, P4_7, P4_8⟩ := hQ4
  have N4 := Fr.app N1 Nq4
  have E5_r2 := Exa.keep E_r2 Kq4
  have Z4 : n0 ≤ T4.heap.size := Nat.le_trans Z0 Kq4.1
  have K4 := Keep.trans K0 Kq4 (allS (Or.inl (List.mem_of_getElem? (i := 0) rfl)) (allS (Or.inl (List.mem_of_getElem? (i := 1) rfl)) (allS (Or.inl (List.mem_of_getElem? (i := 2) rfl)) (allS (Or.inl (List.mem_of_getElem? (i := 3) rfl)) all0))))
  show Go p e below _ (T4.setTop (mkF m 98 _ []))
  refine o_iloadN X4 hx (hb hby d6_98) (pc' := 99) rfl rfl ?_
  rw [← hOWE]
  exact o_retI X4 hx hlk hrt (hb hby d6_99) (by decide) (by decide) ⟨rfl, N4, K4, P4_0, P4_1, P4_2, P4_3, P4_4, P4_5, P4_6, P4_7, P4_8⟩
theorem d4_0 : decode prog_31_method_6_code 0 = .ok (.aload_n 0, 1) := by decide +kernel
theorem d4_1 : decode prog_31_method_6_code 1 = .ok (.getfield 27, 3) := by decide +kernel
theorem d4_4 : decode prog_31_method_6_code 4 = .ok (.aload_n 0, 1) := by decide +kernel
theorem d4_5 : decode prog_31_method_6_code 5 = .ok (.getfield 7, 3) := by decide +kernel
theorem d4_8 : decode prog_31_method_6_code 8 = .ok (.arraylength, 1) := by decide +kernel
theorem d4_9 : decode prog_31_method_6_code 9 = .ok (.if_icmp .ne 54, 3) := by decide +kernel
theorem d4_12 : decode prog_31_method_6_code 12 = .ok (.aload_n 0, 1) := by decide +kernel
theorem d4_13 : decode prog_31_method_6_code 13 = .ok (.aload_n 0, 1) := by decide +kernel
theorem d4_14 : decode prog_31_method_6_code 14 = .ok (.getfield 7, 3) := by decide +kernel
theorem d4_17 : decode prog_31_method_6_code 17 = .ok (.iconst 2, 1) := by decide +kernel
theorem d4_18 : decode prog_31_method_6_code 18 = .ok (.aload_n 0, 1) := by decide +kernel
theorem d4_19 : decode prog_31_method_6_code 19 = .ok (.getfield 27, 3) := by decide +kernel
theorem d4_22 : decode prog_31_method_6_code 22 = .ok (.imul, 1) := by decide +kernel
theorem d4_23 : decode prog_31_method_6_code 23 = .ok (.invokestatic 35, 3) := by decide +kernel
theorem d4_26 : decode prog_31_method_6_code 26 = .ok (.putfield 7, 3) := by decide +kernel
theorem d4_29 : decode prog_31_method_6_code 29 = .ok (.aload_n 0, 1) := by decide +kernel
theorem d4_30 : decode prog_31_method_6_code 30 = .ok (.aload_n 0, 1) := by decide +kernel
theorem d4_31 : decode prog_31_method_6_code 31 = .ok (.getfield 13, 3) := by decide +kernel
theorem d4_34 : decode prog_31_method_6_code 34 = .ok (.iconst 2, 1) := by decide +kernel
theorem d4_35 : decode prog_31_method_6_code 35 = .ok (.aload_n 0, 1) := by decide +kernel
theorem d4_36 : decode prog_31_method_6_code 36 = .ok (.getfield 27, 3) := by decide +kernel
theorem d4_39 : decode prog_31_method_6_code 39 = .ok (.imul, 1) := by decide +kernel
theorem d4_40 : decode prog_31_method_6_code 40 = .ok (.invokestatic 41, 3) := by decide +kernel
theorem d4_43 : decode prog_31_method_6_code 43 = .ok (.putfield 13, 3) := by decide +kernel
theorem d4_46 : decode prog_31_method_6_code 46 = .ok (.aload_n 0, 1) := by decide +kernel
theorem d4_47 : decode prog_31_method_6_code 47 = .ok (.aload_n 0, 1) := by decide +kernel
theorem d4_48 : decode prog_31_method_6_code 48 = .ok (.getfield 17, 3) := by decide +kernel
theorem d4_51 : decode prog_31_method_6_code 51 = .ok (.iconst 2, 1) := by decide +kernel
theorem d4_52 : decode prog_31_method_6_code 52 = .ok (.aload_n 0, 1) := by decide +kernel
theorem d4_53 : decode prog_31_method_6_code 53 = .ok (.getfield 27, 3) := by decide +kernel
theorem d4_56 : decode prog_31_method_6_code 56 = .ok (.imul, 1) := by decide +kernel
theorem d4_57 : decode prog_31_method_6_code 57 = .ok (.invokestatic 41, 3) := by decide +kernel
theorem d4_60 : decode prog_31_method_6_code 60 = .ok (.putfield 17, 3) := by decide +kernel
theorem d4_63 : decode prog_31_method_6_code 63 = .ok (.aload_n 0, 1) := by decide +kernel
theorem d4_64 : decode prog_31_method_6_code 64 = .ok (.aload_n 0, 1) := by decide +kernel
theorem d4_65 : decode prog_31_method_6_code 65 = .ok (.getfield 27, 3) := by decide +kernel
theorem d4_68 : decode prog_31_method_6_code 68 = .ok (.aload_n 1, 1) := by decide +kernel
theorem d4_69 : decode prog_31_method_6_code 69 = .ok (.lload_n 2, 1) := by decide +kernel
theorem d4_70 : decode prog_31_method_6_code 70 = .ok (.lload 4, 2) := by decide +kernel
theorem d4_72 : decode prog_31_method_6_code 72 = .ok (.invokevirtual 44, 3) := by decide +kernel
theorem d4_75 : decode prog_31_method_6_code 75 = .ok (.aload_n 0, 1) := by decide +kernel
theorem d4_76 : decode prog_31_method_6_code 76 = .ok (.aload_n 0, 1) := by decide +kernel
theorem d4_77 : decode prog_31_method_6_code 77 = .ok (.dup, 1) := by decide +kernel
theorem d4_78 : decode prog_31_method_6_code 78 = .ok (.getfield 27, 3) := by decide +kernel
theorem d4_81 : decode prog_31_method_6_code 81 = .ok (.dup_x1, 1) := by decide +kernel
theorem d4_82 : decode prog_31_method_6_code 82 = .ok (.iconst 1, 1) := by decide +kernel
theorem d4_83 : decode prog_31_method_6_code 83 = .ok (.iadd, 1) := by decide +kernel
theorem d4_84 : decode prog_31_method_6_code 84 = .ok (.putfield 27, 3) := by decide +kernel
theorem d4_87 : decode prog_31_method_6_code 87 = .ok (.invokevirtual 48, 3) := by decide +kernel
theorem d4_90 : decode prog_31_method_6_code 90 = .ok (.pop, 1) := by decide +kernel
theorem d4_91 : decode prog_31_method_6_code 91 = .ok (.return_, 1) := by decide +kernel
theorem ef_4s1 (m : MethodId) (x0 : Addr) (x1 : Addr) (x2 : Int64) (x3 : Int64) : entryFrame m #[(.ref x0), (.ref x1), (.long x2), (.long x3)] 6 = mkF m 0 #[.val (.ref x0), .val (.ref x1), .val (.long x2), .second, .val (.long x3), .second] [] := by first | (simp [entryFrame, mkF, argsToLocals, Value.category]; done) | rfl
def Q4s1 (Z : State) (r0 : Addr) (r1 : Addr) (r2 : Addr) (r3 : Addr) (r4 : Addr) (p0 : Int64) (p1 : Int64) (p2 : Int64) (p3 : Int64) (p4 : Int64) (p5 : Int64) (p6 : Int64) (p7 : Int64) (p8 : Int64) (p9 : Int64) (p10 : Int64) (p11 : Int64) (p12 : Int64) (p13 : Int64) (p14 : Int64) (p15 : Int64) (p16 : Int64) (p17 : Int64) (k_r1 : ClassId) (k_r2 : ClassId) (k_r3 : ClassId) (h0 : Heap) (n0 : Nat) (v : Option Value) (h : Heap) (L : List Loc) : Prop := (v = none ∧ Fr n0 L ∧ Keep h0 h [r0, r1, r2, r3] ∧ Exa Z h r0 cN0 ∧ Fld Z h r0 cN0 "elements" "[Ljava/lang/Object;" (.ref r1) ∧ Fld Z h r0 cN0 "ends" "[J" (.ref r2) ∧ Fld Z h r0 cN0 "orders" "[J" (.ref r3) ∧ Fld Z h r0 cN0 "placed" "Ljava/util/function/ObjIntConsumer;" (.null) ∧ Fld Z h r0 cN0 "size" "I" (.int (1 : Int32)) ∧ Arv Z h r1 k_r1 (.object "java/lang/Object") (8 : Int32) [.ref r4, .null, .null, .null, .null, .null, .null, .null] (.null) ∧ Arv Z h r2 k_r2 .long (8 : Int32) [.long p16, .long p1, .long p2, .long p3, .long p4, .long p5, .long p6, .long p7] (.long (0 : Int64)) ∧ Arv Z h r3 k_r3 .long (8 : Int32) [.long p17, .long p9, .long p10, .long p11, .long p12, .long p13, .long p14, .long p15] (.long (0 : Int64)))
set_option maxRecDepth 65536 in
set_option maxHeartbeats 40000000 in
theorem rm4s1 (l : Launch) (Z : State) (a0 : Array Value) (hw : ∀ d ∈ tables_1, d.before a0 Z = true) (ws : List Jvm.Cond) (r0 : Addr) (r1 : Addr) (r2 : Addr) (r3 : Addr) (r4 : Addr) (p0 : Int64) (p1 : Int64) (p2 : Int64) (p3 : Int64) (p4 : Int64) (p5 : Int64) (p6 : Int64) (p7 : Int64) (p8 : Int64) (p9 : Int64) (p10 : Int64) (p11 : Int64) (p12 : Int64) (p13 : Int64) (p14 : Int64) (p15 : Int64) (p16 : Int64) (p17 : Int64) (k_r1 : ClassId) (k_r2 : ClassId) (k_r3 : ClassId) (h0 : Heap) (n0 : Nat) (Z0 : n0 ≤ h0.size) (E_r0 : Exa Z h0 r0 cN0) (F_elements_r0 : Fld Z h0 r0 cN0 "elements" "[Ljava/lang/Object;" (.ref r1)) (F_ends_r0 : Fld Z h0 r0 cN0 "ends" "[J" (.ref r2)) (F_orders_r0 : Fld Z h0 r0 cN0 "orders" "[J" (.ref r3)) (F_placed_r0 : Fld Z h0 r0 cN0 "placed" "Ljava/util/function/ObjIntConsumer;" (.null)) (F_size_r0 : Fld Z h0 r0 cN0 "size" "I" (.int (0 : Int32))) (g_r0 : n0 ≤ r0) (E_r4 : Exa Z h0 r4 "[I") (V_r1 : Arv Z h0 r1 k_r1 (.object "java/lang/Object") (8 : Int32) [.null, .null, .null, .null, .null, .null, .null, .null] (.null)) (O_r1 : Ovr Z k_r1 "java/lang/Object") (g_r1 : n0 ≤ r1) (V_r2 : Arv Z h0 r2 k_r2 .long (8 : Int32) [.long p0, .long p1, .long p2, .long p3, .long p4, .long p5, .long p6, .long p7] (.long (0 : Int64))) (g_r2 : n0 ≤ r2) (V_r3 : Arv Z h0 r3 k_r3 .long (8 : Int32) [.long p8, .long p9, .long p10, .long p11, .long p12, .long p13, .long p14, .long p15] (.long (0 : Int64))) (g_r3 : n0 ≤ r3) (ne_r0_r1 : r0 ≠ r1) (ne_r0_r2 : r0 ≠ r2) (ne_r1_r2 : r1 ≠ r2) (ne_r0_r3 : r0 ≠ r3) (ne_r1_r3 : r1 ≠ r3) (ne_r2_r3 : r2 ≠ r3) (ne_r0_r4 : r0 ≠ r4) (ne_r1_r4 : r1 ≠ r4) (ne_r2_r4 : r2 ≠ r4) (ne_r3_r4 : r3 ≠ r4) :
    Con l (⟨cN0, "add", "(Ljava/lang/Object;JJ)V"⟩ : MethodName) prog_31_method_6_code 6 none ws ({ frames := 2, cells := 0, slots := 0, locals := 37 } : Room) #[(.ref r0), (.ref r4), (.long p16), (.long p17)] Z h0 (Q4s1 Z r0 r1 r2 r3 r4 p0 p1 p2 p3 p4 p5 p6 p7 p8 p9 p10 p11 p12 p13 p14 p15 p16 p17 k_r1 k_r2 k_r3 h0 n0) ({ frames := 2, cells := 0, slots := 0, locals := 37 } : Room).cells ({ frames := 2, cells := 0, slots := 0, locals := 37 } : Room).slots := by
  refine own_body (plainFor_of_name pn_2) ?_
  intro p e s m below meth c s₁ hx hby hlk hml hown hnm hrt hZ X0 e0
  have w : ∀ (k : Nat) (d : Jvm.Cond), tables_1[k]? = some d → d.before a0 Z = true := fun k d h => hw d (List.mem_of_getElem? h)
  have N0 := Fr.nil n0
  have K0 := Keep.refl h0 [r0, r1, r2, r3]
  rw [ef_4s1]
  generalize hOWE : Owe s _ _ _ = OWE
  refine o_aloadN X0 hx (hb hby d4_0) (pc' := 1) rfl rfl rfl ?_
  refine o_getF X0 hx hZ hown (w 30 _ rfl) e0 F_size_r0 (hb hby d4_1) (pc' := 4) rfl ?_
  intro T1 X1 e1
  refine o_aloadN X1 hx (hb hby d4_4) (pc' := 5) rfl rfl rfl ?_
  refine o_getF X1 hx hZ hown (w 16 _ rfl) e1 F_elements_r0 (hb hby d4_5) (pc' := 8) rfl ?_
  intro T2 X2 e2
  refine o_arraylength X2 hx hZ e2 V_r1 (hb hby d4_8) (pc' := 9) rfl ?_
  refine o_cmpY X2 hx (hb hby d4_9) (feq (by decide : ¬ ((0 : Int32) = (8 : Int32)))).2 (by decide) (pc' := 63) (by decide) ?_
  refine o_aloadN X2 hx (hb hby d4_63) (pc' := 64) rfl rfl rfl ?_
  refine o_aloadN X2 hx (hb hby d4_64) (pc' := 65) rfl rfl rfl ?_
  refine o_getF X2 hx hZ hown (w 30 _ rfl) e2 F_size_r0 (hb hby d4_65) (pc' := 68) rfl ?_
  intro T3 X3 e3
  refine o_aloadN X3 hx (hb hby d4_68) (pc' := 69) rfl rfl rfl ?_
  refine o_lloadN X3 hx (hb hby d4_69) (pc' := 70) rfl rfl ?_
  refine o_lload X3 hx (hb hby d4_70) (pc' := 72) rfl rfl ?_
  refine o_callP X3 hx hZ 0 (argsL := [.int (0 : Int32), .ref r4, .long p16, .long p17]) (rest := []) (a := r0) hown (w 32 _ rfl) (w 3 _ rfl) (w 34 _ rfl) (w 33 _ rfl) (w 4 _ rfl) (w 35 _ rfl) (by decide) (rm5s2 l Z a0 hw [] _ _ _ _ _ _ _ _ _ _ _ _ _ _ _ _ _ _ _ _ _ _ _ _ _ _ _ _ _ _ p16 p17 _ _ _ h0 n0 Z0 E_r0 F_elements_r0 F_ends_r0 F_orders_r0 F_placed_r0 F_size_r0 g_r0 E_r4 V_r1 O_r1 g_r1 V_r2 g_r2 V_r3 g_r3 ne_r0_r1 ne_r0_r2 ne_r1_r2 ne_r0_r3 ne_r1_r3 ne_r2_r3 ne_r0_r4 ne_r1_r4 ne_r2_r4 ne_r3_r4) E_r0 (by decide) (by decide) (cells' := 0) rfl (slots' := 0) rfl (by decide) (by decide) e3 (by rw [hml]; rfl) (lenOf pd_6 rfl) rfl rfl (hb hby d4_72) (pc' := 75) rfl ?_
  intro T4 v4 L4 X4 hQ4
  obtain ⟨rfl, Nq4, Kq4, P4_0, P4_1, P4_2, P4_3, P4_4, P4_5, P4_6, P4_7, P4_8⟩ := hQ4
  have N4 := Fr.app N0 Nq4
  have E5_r4 := Exa.keep E_r4 Kq4
  have Z4 : n0 ≤ T4.heap.size := Nat.le_trans Z0 Kq4.1
  have K4 := Keep.trans K0 Kq4 (allS (Or.inl (List.mem_of_getElem? (i := 0) rfl)) (allS (Or.inl (List.mem_of_getElem? (i := 1) rfl)) (allS (Or.inl (List.mem_of_getElem? (i := 2) rfl)) (allS (Or.inl (List.mem_of_getElem? (i := 3) rfl)) all0))))
  show Go p e below _ (T4.setTop (mkF m 75 _ []))
  refine o_aloadN X4 hx (hb hby d4_75) (pc' := 76) rfl rfl rfl ?_
  refine o_aloadN X4 hx (hb hby d4_76) (pc' := 77) rfl rfl rfl ?_
  refine o_dup X4 hx (hb hby d4_77) (pc' := 78) rfl rfl ?_
  refine o_getF X4 hx hZ hown (w 30 _ rfl) rfl P4_5 (hb hby d4_78) (pc' := 81) rfl ?_
  intro T6 X6 e6
  refine o_dup_x1 X6 hx (hb hby d4_81) (pc' := 82) rfl rfl rfl ?_
  refine o_iconst X6 hx (1 : Int32) (hb hby d4_82) (pc' := 83) rfl (by decide) ?_
  refine o_iadd X6 hx (hb hby d4_83) (pc' := 84) rfl ?_
  rw [show ((0 : Int32) + (1 : Int32)) = (1 : Int32) from by decide]
  refine o_putF X6 hx hZ hown (w 30 _ rfl) e6 P4_5 P4_0 (Or.inl (w 31 _ rfl)) (w 3 _ rfl) (ty := .int) (by decide) rfl rfl (hb hby d4_84) (pc' := 87) rfl ?_
  intro T7 h7 X7 e7 W7
  have Fw7 := Fld.same W7 P4_5
  have E8_r0 := Exa.wr W7 P4_0
  have F8_r0_elements := Fld.other W7 P4_1 (Or.inr (slot_ne (C := cN0) (a0 := a0) (Or.inl (w 17 _ rfl)) (Or.inl (w 31 _ rfl)) (by decide) (t := (.array (.object "java/lang/Object"))) (t' := .int) (by decide) (by decide)))
  have F8_r0_ends := Fld.other W7 P4_2 (Or.inr (slot_ne (C := cN0) (a0 := a0) (Or.inl (w 20 _ rfl)) (Or.inl (w 31 _ rfl)) (by decide) (t := (.array .long)) (t' := .int) (by decide) (by decide)))
  have F8_r0_orders := Fld.other W7 P4_3 (Or.inr (slot_ne (C := cN0) (a0 := a0) (Or.inl (w 22 _ rfl)) (Or.inl (w 31 _ rfl)) (by decide) (t := (.array .long)) (t' := .int) (by decide) (by decide)))
  have F8_r0_placed := Fld.other W7 P4_4 (Or.inr (slot_ne (C := cN0) (a0 := a0) (Or.inr (w 24 _ rfl)) (Or.inl (w 31 _ rfl)) (by decide) (t := (.object "java/util/function/ObjIntConsumer")) (t' := .int) (by decide) (by decide)))
  have E8_r4 := Exa.wr W7 E5_r4
  have V8_r1 := Arv.other P4_6 W7 (Ne.symm ne_r0_r1)
  have V8_r2 := Arv.other P4_7 W7 (Ne.symm ne_r0_r2)
  have V8_r3 := Arv.other P4_8 W7 (Ne.symm ne_r0_r3)
  have N7 := Fr.snoc X7 N4 g_r0
  have Z7 : n0 ≤ h7.size := by rw [W7.size]; exact Z4
  have K7 := Keep.wr K4 W7 (Or.inl (List.mem_of_getElem? (i := 0) rfl))
  refine o_callP X7 hx hZ 0 (argsL := [.int (0 : Int32)]) (rest := []) (a := r0) hown (w 37 _ rfl) (w 3 _ rfl) (w 39 _ rfl) (w 38 _ rfl) (w 4 _ rfl) (w 40 _ rfl) (by decide) (rm6s3 l Z a0 hw [] _ _ _ _ _ _ _ _ _ _ _ _ _ _ _ _ _ _ _ _ _ _ _ _ h7 n0 Z7 E8_r0 F8_r0_elements F8_r0_ends F8_r0_orders F8_r0_placed Fw7 g_r0 E8_r4 V8_r1 O_r1 g_r1 V8_r2 g_r2 V8_r3 g_r3 ne_r0_r1 ne_r0_r4 ne_r1_r4 ne_r0_r2 ne_r1_r2 (Ne.symm ne_r2_r4) ne_r0_r3 ne_r1_r3 (Ne.symm ne_r3_r4) ne_r2_r3) E8_r0 (by decide) (by decide) (cells' := 0) rfl (slots' := 0) rfl (by decide) (by decide) e7 (by rw [hml]; rfl) (lenOf pd_8 rfl) rfl rfl (hb hby d4_87) (pc' := 90) rfl ?_
  intro T9 v9 L9 X9 hQ9
  obtain ⟨rfl, Nq9, Kq9, P9_0, P9_1, P9_2, P9_3, P9_4, P9_5, P9_6, P9_7, P9_8⟩ := hQ9
  have N9 := Fr.app N7 Nq9
  have E10_r4 := Exa.keep E8_r4 Kq9
  have Z9 : n0 ≤ T9.heap.size := Nat.le_trans Z7 Kq9.1
  have K9 := Keep.trans K7 Kq9 (allS (Or.inl (List.mem_of_getElem? (i := 0) rfl)) (allS (Or.inl (List.mem_of_getElem? (i := 1) rfl)) (allS (Or.inl (List.mem_of_getElem? (i := 2) rfl)) (allS (Or.inl (List.mem_of_getElem? (i := 3) rfl)) all0))))
  show Go p e below _ (T9.setTop (mkF m 90 _ [.int (0 : Int32)]))
  refine o_pop X9 hx (hb hby d4_90) (pc' := 91) rfl rfl ?_
  rw [← hOWE]
  exact o_retV X9 hx hlk hrt (hb hby d4_91) (by decide) (by decide) ⟨rfl, N9, K9, P9_0, P9_1, P9_2, P9_3, P9_4, P9_5, P9_6, P9_7, P9_8⟩
theorem ef_9s5 (m : MethodId) (x0 : Addr) (x1 : Addr) : entryFrame m #[(.ref x0), (.ref x1)] 3 = mkF m 0 #[.val (.ref x0), .val (.ref x1), .unset] [] := by first | (simp [entryFrame, mkF, argsToLocals, Value.category]; done) | rfl
def Q9s5 (Z : State) (r0 : Addr) (r1 : Addr) (r2 : Addr) (k_r1 : ClassId) (h0 : Heap) (n0 : Nat) (v : Option Value) (h : Heap) (L : List Loc) : Prop := (v = some (.int (0 : Int32)) ∧ Fr n0 L ∧ h = h0)
set_option maxRecDepth 65536 in
set_option maxHeartbeats 40000000 in
theorem rm9s5 (l : Launch) (Z : State) (a0 : Array Value) (hw : ∀ d ∈ tables_1, d.before a0 Z = true) (ws : List Jvm.Cond) (r0 : Addr) (r1 : Addr) (r2 : Addr) (k_r1 : ClassId) (h0 : Heap) (n0 : Nat) (Z0 : n0 ≤ h0.size) (E_r0 : Exa Z h0 r0 cN0) (F_elements_r0 : Fld Z h0 r0 cN0 "elements" "[Ljava/lang/Object;" (.ref r1)) (F_size_r0 : Fld Z h0 r0 cN0 "size" "I" (.int (1 : Int32))) (E_r2 : Exa Z h0 r2 "[I") (V_r1 : Arv Z h0 r1 k_r1 (.object "java/lang/Object") (8 : Int32) [.ref r2, .null, .null, .null, .null, .null, .null, .null] (.null)) (O_r1 : Ovr Z k_r1 "java/lang/Object") (ne_r0_r1 : r0 ≠ r1) (ne_r0_r2 : r0 ≠ r2) (ne_r1_r2 : r1 ≠ r2) :
    Con l (⟨cN0, "placeOf", "(Ljava/lang/Object;)I"⟩ : MethodName) prog_31_method_10_code 3 (some .int) ws ({ frames := 0, cells := 0, slots := 0, locals := 0 } : Room) #[(.ref r0), (.ref r2)] Z h0 (Q9s5 Z r0 r1 r2 k_r1 h0 n0) ({ frames := 0, cells := 0, slots := 0, locals := 0 } : Room).cells ({ frames := 0, cells := 0, slots := 0, locals := 0 } : Room).slots := by
  refine own_body (plainFor_of_name pn_2) ?_
  intro p e s m below meth c s₁ hx hby hlk hml hown hnm hrt hZ X0 e0
  have w : ∀ (k : Nat) (d : Jvm.Cond), tables_1[k]? = some d → d.before a0 Z = true := fun k d h => hw d (List.mem_of_getElem? h)
  have N0 := Fr.nil n0
  rw [ef_9s5]
  generalize hOWE : Owe s _ _ _ = OWE
  refine o_iconst X0 hx (0 : Int32) (hb hby d9_0) (pc' := 1) rfl (by decide) ?_
  refine o_istoreN X0 hx (hb hby d9_1) (pc' := 2) rfl (L' := #[.val (.ref r0), .val (.ref r2), .val (.int (0 : Int32))]) rfl ?_
  refine o_iloadN X0 hx (hb hby d9_2) (pc' := 3) rfl rfl ?_
  refine o_aloadN X0 hx (hb hby d9_3) (pc' := 4) rfl rfl rfl ?_
  refine o_getF X0 hx hZ hown (w 30 _ rfl) e0 F_size_r0 (hb hby d9_4) (pc' := 7) rfl ?_
  intro T1 X1 e1
  refine o_cmpN X1 hx (hb hby d9_7) (tlt (by decide : (0 : Int32) < (1 : Int32))).2.1 (pc' := 10) rfl ?_
  refine o_aloadN X1 hx (hb hby d9_10) (pc' := 11) rfl rfl rfl ?_
  refine o_getF X1 hx hZ hown (w 16 _ rfl) e1 F_elements_r0 (hb hby d9_11) (pc' := 14) rfl ?_
  intro T2 X2 e2
  refine o_iloadN X2 hx (hb hby d9_14) (pc' := 15) rfl rfl ?_
  refine o_aaload X2 hx hZ (.ref r2) e2 V_r1 rfl (by decide) (by rfl) (hb hby d9_15) (pc' := 16) rfl ?_
  refine o_aloadN X2 hx (hb hby d9_16) (pc' := 17) rfl rfl rfl ?_
  refine Go.via (fun t k => Jvm.RoadKit.acmp (g := mkF m 17 #[.val (.ref r0), .val (.ref r2), .val (.int (0 : Int32))] [.ref r2, .ref r2]) X2 hx rfl (x := .ref r2) (y := .ref r2) rfl rfl (pc0 := 17) (pc' := 20) (same := true) rfl (hb hby d9_17) rfl (decide_eq_true rfl) (by decide) (by decide) k) ?_
  show Go p e below _ (T2.setTop (mkF m 20 _ []))
  refine o_iloadN X2 hx (hb hby d9_20) (pc' := 21) rfl rfl ?_
  rw [← hOWE]
  exact o_retI X2 hx hlk hrt (hb hby d9_21) (by decide) (by decide) (by rw [e2]; exact ⟨rfl, N0, rfl⟩)
theorem ef_9s6 (m : MethodId) (x0 : Addr) (x1 : Addr) : entryFrame m #[(.ref x0), (.ref x1)] 3 = mkF m 0 #[.val (.ref x0), .val (.ref x1), .unset] [] := by first | (simp [entryFrame, mkF, argsToLocals, Value.category]; done) | rfl
def Q9s6 (Z : State) (r0 : Addr) (r1 : Addr) (r2 : Addr) (r3 : Addr) (k_r1 : ClassId) (h0 : Heap) (n0 : Nat) (v : Option Value) (h : Heap) (L : List Loc) : Prop := (v = some (.int (-1 : Int32)) ∧ Fr n0 L ∧ h = h0)
set_option maxRecDepth 65536 in
set_option maxHeartbeats 40000000 in
theorem rm9s6 (l : Launch) (Z : State) (a0 : Array Value) (hw : ∀ d ∈ tables_1, d.before a0 Z = true) (ws : List Jvm.Cond) (r0 : Addr) (r1 : Addr) (r2 : Addr) (r3 : Addr) (k_r1 : ClassId) (h0 : Heap) (n0 : Nat) (Z0 : n0 ≤ h0.size) (E_r0 : Exa Z h0 r0 cN0) (F_elements_r0 : Fld Z h0 r0 cN0 "elements" "[Ljava/lang/Object;" (.ref r1)) (F_size_r0 : Fld Z h0 r0 cN0 "size" "I" (.int (1 : Int32))) (E_r2 : Exa Z h0 r2 "[I") (E_r3 : Exa Z h0 r3 "[I") (V_r1 : Arv Z h0 r1 k_r1 (.object "java/lang/Object") (8 : Int32) [.ref r2, .null, .null, .null, .null, .null, .null, .null] (.null)) (O_r1 : Ovr Z k_r1 "java/lang/Object") (ne_r0_r1 : r0 ≠ r1) (ne_r0_r2 : r0 ≠ r2) (ne_r1_r2 : r1 ≠ r2) (ne_r0_r3 : r0 ≠ r3) (ne_r1_r3 : r1 ≠ r3) (ne_r2_r3 : r2 ≠ r3) :
    Con l (⟨cN0, "placeOf", "(Ljava/lang/Object;)I"⟩ : MethodName) prog_31_method_10_code 3 (some .int) ws ({ frames := 0, cells := 0, slots := 0, locals := 0 } : Room) #[(.ref r0), (.ref r3)] Z h0 (Q9s6 Z r0 r1 r2 r3 k_r1 h0 n0) ({ frames := 0, cells := 0, slots := 0, locals := 0 } : Room).cells ({ frames := 0, cells := 0, slots := 0, locals := 0 } : Room).slots := by
  refine own_body (plainFor_of_name pn_2) ?_
  intro p e s m below meth c s₁ hx hby hlk hml hown hnm hrt hZ X0 e0
  have w : ∀ (k : Nat) (d : Jvm.Cond), tables_1[k]? = some d → d.before a0 Z = true := fun k d h => hw d (List.mem_of_getElem? h)
  have N0 := Fr.nil n0
  rw [ef_9s6]
  generalize hOWE : Owe s _ _ _ = OWE
  refine o_iconst X0 hx (0 : Int32) (hb hby d9_0) (pc' := 1) rfl (by decide) ?_
  refine o_istoreN X0 hx (hb hby d9_1) (pc' := 2) rfl (L' := #[.val (.ref r0), .val (.ref r3), .val (.int (0 : Int32))]) rfl ?_
  refine o_iloadN X0 hx (hb hby d9_2) (pc' := 3) rfl rfl ?_
  refine o_aloadN X0 hx (hb hby d9_3) (pc' := 4) rfl rfl rfl ?_
  refine o_getF X0 hx hZ hown (w 30 _ rfl) e0 F_size_r0 (hb hby d9_4) (pc' := 7) rfl ?_
  intro T1 X1 e1
  refine o_cmpN X1 hx (hb hby d9_7) (tlt (by decide : (0 : Int32) < (1 : Int32))).2.1 (pc' := 10) rfl ?_
  refine o_aloadN X1 hx (hb hby d9_10) (pc' := 11) rfl rfl rfl ?_
  refine o_getF X1 hx hZ hown (w 16 _ rfl) e1 F_elements_r0 (hb hby d9_11) (pc' := 14) rfl ?_
  intro T2 X2 e2
  refine o_iloadN X2 hx (hb hby d9_14) (pc' := 15) rfl rfl ?_
  refine o_aaload X2 hx hZ (.ref r2) e2 V_r1 rfl (by decide) (by rfl) (hb hby d9_15) (pc' := 16) rfl ?_
  refine o_aloadN X2 hx (hb hby d9_16) (pc' := 17) rfl rfl rfl ?_
  refine Go.via (fun t k => Jvm.RoadKit.acmp (g := mkF m 17 #[.val (.ref r0), .val (.ref r3), .val (.int (0 : Int32))] [.ref r3, .ref r2]) X2 hx rfl (x := .ref r2) (y := .ref r3) rfl rfl (pc0 := 17) (pc' := 22) (same := false) rfl (hb hby d9_17) rfl (decide_eq_false (fun q => ne_r2_r3 (Value.ref.inj q))) (by decide) (by decide) k) ?_
  show Go p e below _ (T2.setTop (mkF m 22 _ []))
  refine o_iinc X2 hx (hb hby d9_22) (pc' := 25) rfl rfl (v' := (1 : Int32)) (by first | rfl | decide) (L' := #[.val (.ref r0), .val (.ref r3), .val (.int (1 : Int32))]) rfl ?_
  refine o_goto X2 hx (hb hby d9_25) (by decide) (pc' := 2) (by decide) ?_
  refine o_iloadN X2 hx (hb hby d9_2) (pc' := 3) rfl rfl ?_
  refine o_aloadN X2 hx (hb hby d9_3) (pc' := 4) rfl rfl rfl ?_
  refine o_getF X2 hx hZ hown (w 30 _ rfl) e2 F_size_r0 (hb hby d9_4) (pc' := 7) rfl ?_
  intro T3 X3 e3
  refine o_cmpY X3 hx (hb hby d9_7) (flt (by decide : ¬ ((1 : Int32) < (1 : Int32)))).2.1 (by decide) (pc' := 28) (by decide) ?_
  refine o_iconst X3 hx (-1 : Int32) (hb hby d9_28) (pc' := 29) rfl (by decide) ?_
  rw [← hOWE]
  exact o_retI X3 hx hlk hrt (hb hby d9_29) (by decide) (by decide) (by rw [e3]; exact ⟨rfl, N0, rfl⟩)
theorem d13_0 : decode prog_31_method_9_code 0 = .ok (.aload_n 0, 1) := by decide +kernel
theorem d13_1 : decode prog_31_method_9_code 1 = .ok (.iload_n 1, 1) := by decide +kernel
theorem d13_2 : decode prog_31_method_9_code 2 = .ok (.invokevirtual 31, 3) := by decide +kernel
theorem d13_5 : decode prog_31_method_9_code 5 = .ok (.astore_n 2, 1) := by decide +kernel
theorem d13_6 : decode prog_31_method_9_code 6 = .ok (.aload_n 0, 1) := by decide +kernel
theorem d13_7 : decode prog_31_method_9_code 7 = .ok (.dup, 1) := by decide +kernel
theorem d13_8 : decode prog_31_method_9_code 8 = .ok (.getfield 27, 3) := by decide +kernel
theorem d13_11 : decode prog_31_method_9_code 11 = .ok (.iconst 1, 1) := by decide +kernel
theorem d13_12 : decode prog_31_method_9_code 12 = .ok (.isub, 1) := by decide +kernel
theorem d13_13 : decode prog_31_method_9_code 13 = .ok (.putfield 27, 3) := by decide +kernel
theorem d13_16 : decode prog_31_method_9_code 16 = .ok (.iload_n 1, 1) := by decide +kernel
theorem d13_17 : decode prog_31_method_9_code 17 = .ok (.aload_n 0, 1) := by decide +kernel
theorem d13_18 : decode prog_31_method_9_code 18 = .ok (.getfield 27, 3) := by decide +kernel
theorem d13_21 : decode prog_31_method_9_code 21 = .ok (.if_icmp .ge 43, 3) := by decide +kernel
theorem d13_24 : decode prog_31_method_9_code 24 = .ok (.aload_n 0, 1) := by decide +kernel
theorem d13_25 : decode prog_31_method_9_code 25 = .ok (.iload_n 1, 1) := by decide +kernel
theorem d13_26 : decode prog_31_method_9_code 26 = .ok (.aload_n 0, 1) := by decide +kernel
theorem d13_27 : decode prog_31_method_9_code 27 = .ok (.aload_n 0, 1) := by decide +kernel
theorem d13_28 : decode prog_31_method_9_code 28 = .ok (.getfield 27, 3) := by decide +kernel
theorem d13_31 : decode prog_31_method_9_code 31 = .ok (.invokevirtual 31, 3) := by decide +kernel
theorem d13_34 : decode prog_31_method_9_code 34 = .ok (.aload_n 0, 1) := by decide +kernel
theorem d13_35 : decode prog_31_method_9_code 35 = .ok (.getfield 13, 3) := by decide +kernel
theorem d13_38 : decode prog_31_method_9_code 38 = .ok (.aload_n 0, 1) := by decide +kernel
theorem d13_39 : decode prog_31_method_9_code 39 = .ok (.getfield 27, 3) := by decide +kernel
theorem d13_42 : decode prog_31_method_9_code 42 = .ok (.laload, 1) := by decide +kernel
theorem d13_43 : decode prog_31_method_9_code 43 = .ok (.aload_n 0, 1) := by decide +kernel
theorem d13_44 : decode prog_31_method_9_code 44 = .ok (.getfield 17, 3) := by decide +kernel
theorem d13_47 : decode prog_31_method_9_code 47 = .ok (.aload_n 0, 1) := by decide +kernel
theorem d13_48 : decode prog_31_method_9_code 48 = .ok (.getfield 27, 3) := by decide +kernel
theorem d13_51 : decode prog_31_method_9_code 51 = .ok (.laload, 1) := by decide +kernel
theorem d13_52 : decode prog_31_method_9_code 52 = .ok (.invokevirtual 44, 3) := by decide +kernel
theorem d13_55 : decode prog_31_method_9_code 55 = .ok (.aload_n 0, 1) := by decide +kernel
theorem d13_56 : decode prog_31_method_9_code 56 = .ok (.aload_n 0, 1) := by decide +kernel
theorem d13_57 : decode prog_31_method_9_code 57 = .ok (.iload_n 1, 1) := by decide +kernel
theorem d13_58 : decode prog_31_method_9_code 58 = .ok (.invokevirtual 48, 3) := by decide +kernel
theorem d13_61 : decode prog_31_method_9_code 61 = .ok (.invokevirtual 52, 3) := by decide +kernel
theorem d13_64 : decode prog_31_method_9_code 64 = .ok (.aload_n 0, 1) := by decide +kernel
theorem d13_65 : decode prog_31_method_9_code 65 = .ok (.getfield 7, 3) := by decide +kernel
theorem d13_68 : decode prog_31_method_9_code 68 = .ok (.aload_n 0, 1) := by decide +kernel
theorem d13_69 : decode prog_31_method_9_code 69 = .ok (.getfield 27, 3) := by decide +kernel
theorem d13_72 : decode prog_31_method_9_code 72 = .ok (.aconst_null, 1) := by decide +kernel
theorem d13_73 : decode prog_31_method_9_code 73 = .ok (.aastore, 1) := by decide +kernel
theorem d13_74 : decode prog_31_method_9_code 74 = .ok (.aload_n 0, 1) := by decide +kernel
theorem d13_75 : decode prog_31_method_9_code 75 = .ok (.getfield 20, 3) := by decide +kernel
theorem d13_78 : decode prog_31_method_9_code 78 = .ok (.ifnull 14, 3) := by decide +kernel
theorem d13_81 : decode prog_31_method_9_code 81 = .ok (.aload_n 0, 1) := by decide +kernel
theorem d13_82 : decode prog_31_method_9_code 82 = .ok (.getfield 20, 3) := by decide +kernel
theorem d13_85 : decode prog_31_method_9_code 85 = .ok (.aload_n 2, 1) := by decide +kernel
theorem d13_86 : decode prog_31_method_9_code 86 = .ok (.iconst (-1), 1) := by decide +kernel
theorem d13_87 : decode prog_31_method_9_code 87 = .ok (.invokeinterface 63 3, 5) := by decide +kernel
theorem d13_92 : decode prog_31_method_9_code 92 = .ok (.return_, 1) := by decide +kernel
theorem ef_13s7 (m : MethodId) (x0 : Addr) (x1 : Int32) : entryFrame m #[(.ref x0), (.int x1)] 3 = mkF m 0 #[.val (.ref x0), .val (.int x1), .unset] [] := by first | (simp [entryFrame, mkF, argsToLocals, Value.category]; done) | rfl
def Q13s7 (Z : State) (r0 : Addr) (r1 : Addr) (r2 : Addr) (r3 : Addr) (r4 : Addr) (p0 : Int64) (p1 : Int64) (p2 : Int64) (p3 : Int64) (p4 : Int64) (p5 : Int64) (p6 : Int64) (p7 : Int64) (p8 : Int64) (p9 : Int64) (p10 : Int64) (p11 : Int64) (p12 : Int64) (p13 : Int64) (p14 : Int64) (p15 : Int64) (k_r1 : ClassId) (k_r3 : ClassId) (k_r4 : ClassId) (h0 : Heap) (n0 : Nat) (v : Option Value) (h : Heap) (L : List Loc) : Prop := (v = none ∧ Fr n0 L ∧ Keep h0 h [r0, r1, r3, r4] ∧ Exa Z h r0 cN0 ∧ Fld Z h r0 cN0 "elements" "[Ljava/lang/Object;" (.ref r1) ∧ Fld Z h r0 cN0 "ends" "[J" (.ref r3) ∧ Fld Z h r0 cN0 "orders" "[J" (.ref r4) ∧ Fld Z h r0 cN0 "placed" "Ljava/util/function/ObjIntConsumer;" (.null) ∧ Fld Z h r0 cN0 "size" "I" (.int (0 : Int32)) ∧ Arv Z h r1 k_r1 (.object "java/lang/Object") (8 : Int32) [.null, .null, .null, .null, .null, .null, .null, .null] (.null) ∧ Arv Z h r3 k_r3 .long (8 : Int32) [.long p0, .long p1, .long p2, .long p3, .long p4, .long p5, .long p6, .long p7] (.long (0 : Int64)) ∧ Arv Z h r4 k_r4 .long (8 : Int32) [.long p8, .long p9, .long p10, .long p11, .long p12, .long p13, .long p14, .long p15] (.long (0 : Int64)))
set_option maxRecDepth 65536 in
set_option maxHeartbeats 40000000 in
theorem rm13s7 (l : Launch) (Z : State) (a0 : Array Value) (hw : ∀ d ∈ tables_1, d.before a0 Z = true) (ws : List Jvm.Cond) (r0 : Addr) (r1 : Addr) (r2 : Addr) (r3 : Addr) (r4 : Addr) (p0 : Int64) (p1 : Int64) (p2 : Int64) (p3 : Int64) (p4 : Int64) (p5 : Int64) (p6 : Int64) (p7 : Int64) (p8 : Int64) (p9 : Int64) (p10 : Int64) (p11 : Int64) (p12 : Int64) (p13 : Int64) (p14 : Int64) (p15 : Int64) (k_r1 : ClassId) (k_r3 : ClassId) (k_r4 : ClassId) (h0 : Heap) (n0 : Nat) (Z0 : n0 ≤ h0.size) (E_r0 : Exa Z h0 r0 cN0) (F_elements_r0 : Fld Z h0 r0 cN0 "elements" "[Ljava/lang/Object;" (.ref r1)) (F_ends_r0 : Fld Z h0 r0 cN0 "ends" "[J" (.ref r3)) (F_orders_r0 : Fld Z h0 r0 cN0 "orders" "[J" (.ref r4)) (F_placed_r0 : Fld Z h0 r0 cN0 "placed" "Ljava/util/function/ObjIntConsumer;" (.null)) (F_size_r0 : Fld Z h0 r0 cN0 "size" "I" (.int (1 : Int32))) (g_r0 : n0 ≤ r0) (E_r2 : Exa Z h0 r2 "[I") (V_r1 : Arv Z h0 r1 k_r1 (.object "java/lang/Object") (8 : Int32) [.ref r2, .null, .null, .null, .null, .null, .null, .null] (.null)) (O_r1 : Ovr Z k_r1 "java/lang/Object") (g_r1 : n0 ≤ r1) (V_r3 : Arv Z h0 r3 k_r3 .long (8 : Int32) [.long p0, .long p1, .long p2, .long p3, .long p4, .long p5, .long p6, .long p7] (.long (0 : Int64))) (g_r3 : n0 ≤ r3) (V_r4 : Arv Z h0 r4 k_r4 .long (8 : Int32) [.long p8, .long p9, .long p10, .long p11, .long p12, .long p13, .long p14, .long p15] (.long (0 : Int64))) (g_r4 : n0 ≤ r4) (ne_r0_r1 : r0 ≠ r1) (ne_r0_r2 : r0 ≠ r2) (ne_r1_r2 : r1 ≠ r2) (ne_r0_r3 : r0 ≠ r3) (ne_r1_r3 : r1 ≠ r3) (ne_r2_r3 : r2 ≠ r3) (ne_r0_r4 : r0 ≠ r4) (ne_r1_r4 : r1 ≠ r4) (ne_r2_r4 : r2 ≠ r4) (ne_r3_r4 : r3 ≠ r4) :
    Con l (⟨cN0, "removeAt", "(I)V"⟩ : MethodName) prog_31_method_9_code 3 none ws ({ frames := 1, cells := 0, slots := 0, locals := 13 } : Room) #[(.ref r0), (.int (0 : Int32))] Z h0 (Q13s7 Z r0 r1 r2 r3 r4 p0 p1 p2 p3 p4 p5 p6 p7 p8 p9 p10 p11 p12 p13 p14 p15 k_r1 k_r3 k_r4 h0 n0) ({ frames := 1, cells := 0, slots := 0, locals := 13 } : Room).cells ({ frames := 1, cells := 0, slots := 0, locals := 13 } : Room).slots := by
  refine own_body (plainFor_of_name pn_2) ?_
  intro p e s m below meth c s₁ hx hby hlk hml hown hnm hrt hZ X0 e0
  have w : ∀ (k : Nat) (d : Jvm.Cond), tables_1[k]? = some d → d.before a0 Z = true := fun k d h => hw d (List.mem_of_getElem? h)
  have N0 := Fr.nil n0
  have K0 := Keep.refl h0 [r0, r1, r3, r4]
  rw [ef_13s7]
  generalize hOWE : Owe s _ _ _ = OWE
  refine o_aloadN X0 hx (hb hby d13_0) (pc' := 1) rfl rfl rfl ?_
  refine o_iloadN X0 hx (hb hby d13_1) (pc' := 2) rfl rfl ?_
  refine o_callP X0 hx hZ 0 (argsL := [.int (0 : Int32)]) (rest := []) (a := r0) hown (w 41 _ rfl) (w 3 _ rfl) (w 43 _ rfl) (w 42 _ rfl) (w 4 _ rfl) (w 44 _ rfl) (by decide) (rm7s4 l Z a0 hw [] _ _ _ _ _ _ _ _ _ _ _ h0 n0 Z0 E_r0 F_elements_r0 E_r2 V_r1 O_r1 ne_r0_r1 ne_r0_r2 ne_r1_r2) E_r0 (by decide) (by decide) (cells' := 0) rfl (slots' := 0) rfl (by decide) (by decide) e0 (by rw [hml]; rfl) (lenOf pd_7 rfl) rfl rfl (hb hby d13_2) (pc' := 5) rfl ?_
  intro T1 v1 L1 X1 hQ1
  obtain ⟨rfl, Nq1, e1⟩ := hQ1
  have N1 := Fr.app N0 Nq1
  show Go p e below _ (T1.setTop (mkF m 5 _ [.ref r2]))
  refine o_astoreN X1 hx (hb hby d13_5) (pc' := 6) rfl (L' := #[.val (.ref r0), .val (.int (0 : Int32)), .val (.ref r2)]) rfl rfl ?_
  refine o_aloadN X1 hx (hb hby d13_6) (pc' := 7) rfl rfl rfl ?_
  refine o_dup X1 hx (hb hby d13_7) (pc' := 8) rfl rfl ?_
  refine o_getF X1 hx hZ hown (w 30 _ rfl) e1 F_size_r0 (hb hby d13_8) (pc' := 11) rfl ?_
  intro T2 X2 e2
  refine o_iconst X2 hx (1 : Int32) (hb hby d13_11) (pc' := 12) rfl (by decide) ?_
  refine o_isub X2 hx (hb hby d13_12) (pc' := 13) rfl ?_
  rw [show ((1 : Int32) - (1 : Int32)) = (0 : Int32) from by decide]
  refine o_putF X2 hx hZ hown (w 30 _ rfl) e2 F_size_r0 E_r0 (Or.inl (w 31 _ rfl)) (w 3 _ rfl) (ty := .int) (by decide) rfl rfl (hb hby d13_13) (pc' := 16) rfl ?_
  intro T3 h3 X3 e3 W3
  have Fw3 := Fld.same W3 F_size_r0
  have E4_r0 := Exa.wr W3 E_r0
  have F4_r0_elements := Fld.other W3 F_elements_r0 (Or.inr (slot_ne (C := cN0) (a0 := a0) (Or.inl (w 17 _ rfl)) (Or.inl (w 31 _ rfl)) (by decide) (t := (.array (.object "java/lang/Object"))) (t' := .int) (by decide) (by decide)))
  have F4_r0_ends := Fld.other W3 F_ends_r0 (Or.inr (slot_ne (C := cN0) (a0 := a0) (Or.inl (w 20 _ rfl)) (Or.inl (w 31 _ rfl)) (by decide) (t := (.array .long)) (t' := .int) (by decide) (by decide)))
  have F4_r0_orders := Fld.other W3 F_orders_r0 (Or.inr (slot_ne (C := cN0) (a0 := a0) (Or.inl (w 22 _ rfl)) (Or.inl (w 31 _ rfl)) (by decide) (t := (.array .long)) (t' := .int) (by decide) (by decide)))
  have F4_r0_placed := Fld.other W3 F_placed_r0 (Or.inr (slot_ne (C := cN0) (a0 := a0) (Or.inr (w 24 _ rfl)) (Or.inl (w 31 _ rfl)) (by decide) (t := (.object "java/util/function/ObjIntConsumer")) (t' := .int) (by decide) (by decide)))
  have E4_r2 := Exa.wr W3 E_r2
  have V4_r1 := Arv.other V_r1 W3 (Ne.symm ne_r0_r1)
  have V4_r3 := Arv.other V_r3 W3 (Ne.symm ne_r0_r3)
  have V4_r4 := Arv.other V_r4 W3 (Ne.symm ne_r0_r4)
  have N3 := Fr.snoc X3 N1 g_r0
  have Z3 : n0 ≤ h3.size := by rw [W3.size]; exact Z0
  have K3 := Keep.wr K0 W3 (Or.inl (List.mem_of_getElem? (i := 0) rfl))
  refine o_iloadN X3 hx (hb hby d13_16) (pc' := 17) rfl rfl ?_
  refine o_aloadN X3 hx (hb hby d13_17) (pc' := 18) rfl rfl rfl ?_
  refine o_getF X3 hx hZ hown (w 30 _ rfl) e3 Fw3 (hb hby d13_18) (pc' := 21) rfl ?_
  intro T5 X5 e5
  refine o_cmpY X5 hx (hb hby d13_21) (flt (by decide : ¬ ((0 : Int32) < (0 : Int32)))).2.1 (by decide) (pc' := 64) (by decide) ?_
  refine o_aloadN X5 hx (hb hby d13_64) (pc' := 65) rfl rfl rfl ?_
  refine o_getF X5 hx hZ hown (w 16 _ rfl) e5 F4_r0_elements (hb hby d13_65) (pc' := 68) rfl ?_
  intro T6 X6 e6
  refine o_aloadN X6 hx (hb hby d13_68) (pc' := 69) rfl rfl rfl ?_
  refine o_getF X6 hx hZ hown (w 30 _ rfl) e6 Fw3 (hb hby d13_69) (pc' := 72) rfl ?_
  intro T7 X7 e7
  refine o_aconst_null X7 hx (hb hby d13_72) (pc' := 73) rfl ?_
  refine o_aastore X7 hx hZ 0 e7 V4_r1 rfl (fun cl A q => Or.inl rfl) (by decide) (by decide) (by exact (by decide : 0 < 8)) rfl (vs' := [.null, .null, .null, .null, .null, .null, .null, .null]) rfl (hb hby d13_73) (pc' := 74) rfl ?_
  intro T8 h8 X8 e8 W8 V8_
  have E9_r0 := Exa.wr W8 E4_r0
  have F9_r0_elements := Fld.other W8 F4_r0_elements (Or.inl ne_r0_r1)
  have F9_r0_ends := Fld.other W8 F4_r0_ends (Or.inl ne_r0_r1)
  have F9_r0_orders := Fld.other W8 F4_r0_orders (Or.inl ne_r0_r1)
  have F9_r0_placed := Fld.other W8 F4_r0_placed (Or.inl ne_r0_r1)
  have F9_r0_size := Fld.other W8 Fw3 (Or.inl ne_r0_r1)
  have E9_r2 := Exa.wr W8 E4_r2
  have V9_r3 := Arv.other V4_r3 W8 (Ne.symm ne_r1_r3)
  have V9_r4 := Arv.other V4_r4 W8 (Ne.symm ne_r1_r4)
  have N8 := Fr.snoc X8 N3 g_r1
  have Z8 : n0 ≤ h8.size := by rw [W8.size]; exact Z3
  have K8 := Keep.wr K3 W8 (Or.inl (List.mem_of_getElem? (i := 1) rfl))
  refine o_aloadN X8 hx (hb hby d13_74) (pc' := 75) rfl rfl rfl ?_
  refine o_getF X8 hx hZ hown (w 23 _ rfl) e8 F9_r0_placed (hb hby d13_75) (pc' := 78) rfl ?_
  intro T10 X10 e10
  refine Go.via (fun t k => XS.ifnullYes X10.here hx rfl (pc0 := 78) (pc' := 92) rfl (hb hby d13_78) rfl (by decide) (by decide) k) ?_
  show Go p e below _ (T10.setTop (mkF m 92 _ []))
  rw [← hOWE]
  exact o_retV X10 hx hlk hrt (hb hby d13_92) (by decide) (by decide) (by rw [e10]; exact ⟨rfl, N8, K8, E9_r0, F9_r0_elements, F9_r0_ends, F9_r0_orders, F9_r0_placed, F9_r0_size, V8_, V9_r3, V9_r4⟩)
theorem ef_5s9 (m : MethodId) (x0 : Addr) (x1 : Int32) (x2 : Addr) (x3 : Int64) (x4 : Int64) : entryFrame m #[(.ref x0), (.int x1), (.ref x2), (.long x3), (.long x4)] 7 = mkF m 0 #[.val (.ref x0), .val (.int x1), .val (.ref x2), .val (.long x3), .second, .val (.long x4), .second] [] := by first | (simp [entryFrame, mkF, argsToLocals, Value.category]; done) | rfl
def Q5s9 (Z : State) (r0 : Addr) (r1 : Addr) (r2 : Addr) (r3 : Addr) (r4 : Addr) (p0 : Value) (p1 : Value) (p2 : Value) (p3 : Value) (p4 : Value) (p5 : Value) (p6 : Value) (p7 : Value) (p8 : Int64) (p9 : Int64) (p10 : Int64) (p11 : Int64) (p12 : Int64) (p13 : Int64) (p14 : Int64) (p15 : Int64) (p16 : Int64) (p17 : Int64) (p18 : Int64) (p19 : Int64) (p20 : Int64) (p21 : Int64) (p22 : Int64) (p23 : Int64) (p24 : Int32) (p25 : Int64) (p26 : Int64) (k_r1 : ClassId) (k_r2 : ClassId) (k_r3 : ClassId) (h0 : Heap) (n0 : Nat) (v : Option Value) (h : Heap) (L : List Loc) : Prop := (v = none ∧ Fr n0 L ∧ Keep h0 h [r0, r1, r2, r3] ∧ Exa Z h r0 cN0 ∧ Fld Z h r0 cN0 "elements" "[Ljava/lang/Object;" (.ref r1) ∧ Fld Z h r0 cN0 "ends" "[J" (.ref r2) ∧ Fld Z h r0 cN0 "orders" "[J" (.ref r3) ∧ Fld Z h r0 cN0 "placed" "Ljava/util/function/ObjIntConsumer;" (.null) ∧ Fld Z h r0 cN0 "size" "I" (.int p24) ∧ Arv Z h r1 k_r1 (.object "java/lang/Object") (8 : Int32) [p0, .ref r4, p2, p3, p4, p5, p6, p7] (.null) ∧ Arv Z h r2 k_r2 .long (8 : Int32) [.long p8, .long p25, .long p10, .long p11, .long p12, .long p13, .long p14, .long p15] (.long (0 : Int64)) ∧ Arv Z h r3 k_r3 .long (8 : Int32) [.long p16, .long p26, .long p18, .long p19, .long p20, .long p21, .long p22, .long p23] (.long (0 : Int64)))
set_option maxRecDepth 65536 in
set_option maxHeartbeats 40000000 in
theorem rm5s9 (l : Launch) (Z : State) (a0 : Array Value) (hw : ∀ d ∈ tables_1, d.before a0 Z = true) (ws : List Jvm.Cond) (r0 : Addr) (r1 : Addr) (r2 : Addr) (r3 : Addr) (r4 : Addr) (p0 : Value) (p1 : Value) (p2 : Value) (p3 : Value) (p4 : Value) (p5 : Value) (p6 : Value) (p7 : Value) (p8 : Int64) (p9 : Int64) (p10 : Int64) (p11 : Int64) (p12 : Int64) (p13 : Int64) (p14 : Int64) (p15 : Int64) (p16 : Int64) (p17 : Int64) (p18 : Int64) (p19 : Int64) (p20 : Int64) (p21 : Int64) (p22 : Int64) (p23 : Int64) (p24 : Int32) (p25 : Int64) (p26 : Int64) (k_r1 : ClassId) (k_r2 : ClassId) (k_r3 : ClassId) (h0 : Heap) (n0 : Nat) (Z0 : n0 ≤ h0.size) (E_r0 : Exa Z h0 r0 cN0) (F_elements_r0 : Fld Z h0 r0 cN0 "elements" "[Ljava/lang/Object;" (.ref r1)) (F_ends_r0 : Fld Z h0 r0 cN0 "ends" "[J" (.ref r2)) (F_orders_r0 : Fld Z h0 r0 cN0 "orders" "[J" (.ref r3)) (F_placed_r0 : Fld Z h0 r0 cN0 "placed" "Ljava/util/function/ObjIntConsumer;" (.null)) (F_size_r0 : Fld Z h0 r0 cN0 "size" "I" (.int p24)) (g_r0 : n0 ≤ r0) (E_r4 : Exa Z h0 r4 "[I") (V_r1 : Arv Z h0 r1 k_r1 (.object "java/lang/Object") (8 : Int32) [p0, p1, p2, p3, p4, p5, p6, p7] (.null)) (O_r1 : Ovr Z k_r1 "java/lang/Object") (g_r1 : n0 ≤ r1) (V_r2 : Arv Z h0 r2 k_r2 .long (8 : Int32) [.long p8, .long p9, .long p10, .long p11, .long p12, .long p13, .long p14, .long p15] (.long (0 : Int64))) (g_r2 : n0 ≤ r2) (V_r3 : Arv Z h0 r3 k_r3 .long (8 : Int32) [.long p16, .long p17, .long p18, .long p19, .long p20, .long p21, .long p22, .long p23] (.long (0 : Int64))) (g_r3 : n0 ≤ r3) (ne_r0_r1 : r0 ≠ r1) (ne_r0_r2 : r0 ≠ r2) (ne_r1_r2 : r1 ≠ r2) (ne_r0_r3 : r0 ≠ r3) (ne_r1_r3 : r1 ≠ r3) (ne_r2_r3 : r2 ≠ r3) (ne_r0_r4 : r0 ≠ r4) (ne_r1_r4 : r1 ≠ r4) (ne_r2_r4 : r2 ≠ r4) (ne_r3_r4 : r3 ≠ r4) :
    Con l (⟨cN0, "put", "(ILjava/lang/Object;JJ)V"⟩ : MethodName) prog_31_method_13_code 7 none ws ({ frames := 0, cells := 0, slots := 0, locals := 0 } : Room) #[(.ref r0), (.int (1 : Int32)), (.ref r4), (.long p25), (.long p26)] Z h0 (Q5s9 Z r0 r1 r2 r3 r4 p0 p1 p2 p3 p4 p5 p6 p7 p8 p9 p10 p11 p12 p13 p14 p15 p16 p17 p18 p19 p20 p21 p22 p23 p24 p25 p26 k_r1 k_r2 k_r3 h0 n0) ({ frames := 0, cells := 0, slots := 0, locals := 0 } : Room).cells ({ frames := 0, cells := 0, slots := 0, locals := 0 } : Room).slots := by
  refine own_body (plainFor_of_name pn_2) ?_
  intro p e s m below meth c s₁ hx hby hlk hml hown hnm hrt hZ X0 e0
  have w : ∀ (k : Nat) (d : Jvm.Cond), tables_1[k]? = some d → d.before a0 Z = true := fun k d h => hw d (List.mem_of_getElem? h)
  have N0 := Fr.nil n0
  have K0 := Keep.refl h0 [r0, r1, r2, r3]
  rw [ef_5s9]
  generalize hOWE : Owe s _ _ _ = OWE
  refine o_aloadN X0 hx (hb hby d5_0) (pc' := 1) rfl rfl rfl ?_
  refine o_getF X0 hx hZ hown (w 16 _ rfl) e0 F_elements_r0 (hb hby d5_1) (pc' := 4) rfl ?_
  intro T1 X1 e1
  refine o_iloadN X1 hx (hb hby d5_4) (pc' := 5) rfl rfl ?_
  refine o_aloadN X1 hx (hb hby d5_5) (pc' := 6) rfl rfl rfl ?_
  refine o_aastore X1 hx hZ 1 e1 V_r1 rfl (fun cl A q => Sto.ofV A q O_r1 (Ins.of_exa E_r4 (w 36 _ rfl))) (by decide) (by decide) (by exact (by decide : 1 < 8)) rfl (vs' := [p0, .ref r4, p2, p3, p4, p5, p6, p7]) rfl (hb hby d5_6) (pc' := 7) rfl ?_
  intro T2 h2 X2 e2 W2 V2_
  have E3_r0 := Exa.wr W2 E_r0
  have F3_r0_elements := Fld.other W2 F_elements_r0 (Or.inl ne_r0_r1)
  have F3_r0_ends := Fld.other W2 F_ends_r0 (Or.inl ne_r0_r1)
  have F3_r0_orders := Fld.other W2 F_orders_r0 (Or.inl ne_r0_r1)
  have F3_r0_placed := Fld.other W2 F_placed_r0 (Or.inl ne_r0_r1)
  have F3_r0_size := Fld.other W2 F_size_r0 (Or.inl ne_r0_r1)
  have E3_r4 := Exa.wr W2 E_r4
  have V3_r2 := Arv.other V_r2 W2 (Ne.symm ne_r1_r2)
  have V3_r3 := Arv.other V_r3 W2 (Ne.symm ne_r1_r3)
  have N2 := Fr.snoc X2 N0 g_r1
  have Z2 : n0 ≤ h2.size := by rw [W2.size]; exact Z0
  have K2 := Keep.wr K0 W2 (Or.inl (List.mem_of_getElem? (i := 1) rfl))
  refine o_aloadN X2 hx (hb hby d5_7) (pc' := 8) rfl rfl rfl ?_
  refine o_getF X2 hx hZ hown (w 19 _ rfl) e2 F3_r0_ends (hb hby d5_8) (pc' := 11) rfl ?_
  intro T4 X4 e4
  refine o_iloadN X4 hx (hb hby d5_11) (pc' := 12) rfl rfl ?_
  refine o_lloadN X4 hx (hb hby d5_12) (pc' := 13) rfl rfl ?_
  refine o_lastore X4 hx hZ 1 e4 V3_r2 (by decide) (by decide) (by exact (by decide : 1 < 8)) (vs' := [.long p8, .long p25, .long p10, .long p11, .long p12, .long p13, .long p14, .long p15]) rfl (hb hby d5_13) (pc' := 14) rfl ?_
  intro T5 h5 X5 e5 W5 V5_
  have E6_r0 := Exa.wr W5 E3_r0
  have F6_r0_elements := Fld.other W5 F3_r0_elements (Or.inl ne_r0_r2)
  have F6_r0_ends := Fld.other W5 F3_r0_ends (Or.inl ne_r0_r2)
  have F6_r0_orders := Fld.other W5 F3_r0_orders (Or.inl ne_r0_r2)
  have F6_r0_placed := Fld.other W5 F3_r0_placed (Or.inl ne_r0_r2)
  have F6_r0_size := Fld.other W5 F3_r0_size (Or.inl ne_r0_r2)
  have E6_r4 := Exa.wr W5 E3_r4
  have V6_r1 := Arv.other V2_ W5 ne_r1_r2
  have V6_r3 := Arv.other V3_r3 W5 (Ne.symm ne_r2_r3)
  have N5 := Fr.snoc X5 N2 g_r2
  have Z5 : n0 ≤ h5.size := by rw [W5.size]; exact Z2
  have K5 := Keep.wr K2 W5 (Or.inl (List.mem_of_getElem? (i := 2) rfl))
  refine o_aloadN X5 hx (hb hby d5_14) (pc' := 15) rfl rfl rfl ?_
  refine o_getF X5 hx hZ hown (w 21 _ rfl) e5 F6_r0_orders (hb hby d5_15) (pc' := 18) rfl ?_
  intro T7 X7 e7
  refine o_iloadN X7 hx (hb hby d5_18) (pc' := 19) rfl rfl ?_
  refine o_lload X7 hx (hb hby d5_19) (pc' := 21) rfl rfl ?_
  refine o_lastore X7 hx hZ 1 e7 V6_r3 (by decide) (by decide) (by exact (by decide : 1 < 8)) (vs' := [.long p16, .long p26, .long p18, .long p19, .long p20, .long p21, .long p22, .long p23]) rfl (hb hby d5_21) (pc' := 22) rfl ?_
  intro T8 h8 X8 e8 W8 V8_
  have E9_r0 := Exa.wr W8 E6_r0
  have F9_r0_elements := Fld.other W8 F6_r0_elements (Or.inl ne_r0_r3)
  have F9_r0_ends := Fld.other W8 F6_r0_ends (Or.inl ne_r0_r3)
  have F9_r0_orders := Fld.other W8 F6_r0_orders (Or.inl ne_r0_r3)
  have F9_r0_placed := Fld.other W8 F6_r0_placed (Or.inl ne_r0_r3)
  have F9_r0_size := Fld.other W8 F6_r0_size (Or.inl ne_r0_r3)
  have E9_r4 := Exa.wr W8 E6_r4
  have V9_r1 := Arv.other V6_r1 W8 ne_r1_r3
  have V9_r2 := Arv.other V5_ W8 ne_r2_r3
  have N8 := Fr.snoc X8 N5 g_r3
  have Z8 : n0 ≤ h8.size := by rw [W8.size]; exact Z5
  have K8 := Keep.wr K5 W8 (Or.inl (List.mem_of_getElem? (i := 3) rfl))
  refine o_aloadN X8 hx (hb hby d5_22) (pc' := 23) rfl rfl rfl ?_
  refine o_getF X8 hx hZ hown (w 23 _ rfl) e8 F9_r0_placed (hb hby d5_23) (pc' := 26) rfl ?_
  intro T10 X10 e10
  refine Go.via (fun t k => XS.ifnullYes X10.here hx rfl (pc0 := 26) (pc' := 40) rfl (hb hby d5_26) rfl (by decide) (by decide) k) ?_
  show Go p e below _ (T10.setTop (mkF m 40 _ []))
  rw [← hOWE]
  exact o_retV X10 hx hlk hrt (hb hby d5_40) (by decide) (by decide) (by rw [e10]; exact ⟨rfl, N8, K8, E9_r0, F9_r0_elements, F9_r0_ends, F9_r0_orders, F9_r0_placed, F9_r0_size, V9_r1, V9_r2, V8_⟩)
theorem ef_7s11 (m : MethodId) (x0 : Addr) (x1 : Int32) : entryFrame m #[(.ref x0), (.int x1)] 2 = mkF m 0 #[.val (.ref x0), .val (.int x1)] [] := by first | (simp [entryFrame, mkF, argsToLocals, Value.category]; done) | rfl
def Q7s11 (Z : State) (r0 : Addr) (r1 : Addr) (r2 : Addr) (p0 : Value) (p1 : Value) (p2 : Value) (p3 : Value) (p4 : Value) (p5 : Value) (p6 : Value) (k_r1 : ClassId) (h0 : Heap) (n0 : Nat) (v : Option Value) (h : Heap) (L : List Loc) : Prop := (v = some (.ref r2) ∧ Fr n0 L ∧ h = h0)
set_option maxRecDepth 65536 in
set_option maxHeartbeats 40000000 in
theorem rm7s11 (l : Launch) (Z : State) (a0 : Array Value) (hw : ∀ d ∈ tables_1, d.before a0 Z = true) (ws : List Jvm.Cond) (r0 : Addr) (r1 : Addr) (r2 : Addr) (p0 : Value) (p1 : Value) (p2 : Value) (p3 : Value) (p4 : Value) (p5 : Value) (p6 : Value) (k_r1 : ClassId) (h0 : Heap) (n0 : Nat) (Z0 : n0 ≤ h0.size) (E_r0 : Exa Z h0 r0 cN0) (F_elements_r0 : Fld Z h0 r0 cN0 "elements" "[Ljava/lang/Object;" (.ref r1)) (E_r2 : Exa Z h0 r2 "[I") (V_r1 : Arv Z h0 r1 k_r1 (.object "java/lang/Object") (8 : Int32) [p0, .ref r2, p1, p2, p3, p4, p5, p6] (.null)) (O_r1 : Ovr Z k_r1 "java/lang/Object") (ne_r0_r1 : r0 ≠ r1) (ne_r0_r2 : r0 ≠ r2) (ne_r1_r2 : r1 ≠ r2) :
    Con l (⟨cN0, "at", "(I)Ljava/lang/Object;"⟩ : MethodName) prog_31_method_14_code 2 (some (.object "java/lang/Object")) ws ({ frames := 0, cells := 0, slots := 0, locals := 0 } : Room) #[(.ref r0), (.int (1 : Int32))] Z h0 (Q7s11 Z r0 r1 r2 p0 p1 p2 p3 p4 p5 p6 k_r1 h0 n0) ({ frames := 0, cells := 0, slots := 0, locals := 0 } : Room).cells ({ frames := 0, cells := 0, slots := 0, locals := 0 } : Room).slots := by
  refine own_body (plainFor_of_name pn_2) ?_
  intro p e s m below meth c s₁ hx hby hlk hml hown hnm hrt hZ X0 e0
  have w : ∀ (k : Nat) (d : Jvm.Cond), tables_1[k]? = some d → d.before a0 Z = true := fun k d h => hw d (List.mem_of_getElem? h)
  have N0 := Fr.nil n0
  rw [ef_7s11]
  generalize hOWE : Owe s _ _ _ = OWE
  refine o_aloadN X0 hx (hb hby d7_0) (pc' := 1) rfl rfl rfl ?_
  refine o_getF X0 hx hZ hown (w 16 _ rfl) e0 F_elements_r0 (hb hby d7_1) (pc' := 4) rfl ?_
  intro T1 X1 e1
  refine o_iloadN X1 hx (hb hby d7_4) (pc' := 5) rfl rfl ?_
  refine o_aaload X1 hx hZ (.ref r2) e1 V_r1 rfl (by decide) (by rfl) (hb hby d7_5) (pc' := 6) rfl ?_
  rw [← hOWE]
  exact o_ret X1 hx hlk hrt rfl (Or.inr (Or.inr (Or.inr (Or.inr ⟨rfl, rfl, rfl⟩)))) (hb hby d7_6) (by decide) (by decide) (by rw [e1]; exact ⟨rfl, N0, rfl⟩)
theorem ef_6s10 (m : MethodId) (x0 : Addr) (x1 : Int32) : entryFrame m #[(.ref x0), (.int x1)] 8 = mkF m 0 #[.val (.ref x0), .val (.int x1), .unset, .unset, .unset, .unset, .unset, .unset] [] := by first | (simp [entryFrame, mkF, argsToLocals, Value.category]; done) | rfl
def Q6s10 (Z : State) (r0 : Addr) (r1 : Addr) (r2 : Addr) (r3 : Addr) (r4 : Addr) (r5 : Addr) (p0 : Int64) (p1 : Int64) (p2 : Int64) (p3 : Int64) (p4 : Int64) (p5 : Int64) (p6 : Int64) (p7 : Int64) (p8 : Int64) (p9 : Int64) (p10 : Int64) (p11 : Int64) (p12 : Int64) (p13 : Int64) (p14 : Int64) (p15 : Int64) (k_r1 : ClassId) (k_r4 : ClassId) (k_r5 : ClassId) (h0 : Heap) (n0 : Nat) (v : Option Value) (h : Heap) (L : List Loc) : Prop := (((o5 p1 p9 p0 p8) = (0 : Int32) ∧ (v = some (.int (1 : Int32)) ∧ Fr n0 L ∧ Keep h0 h [r0, r1, r4, r5] ∧ Exa Z h r0 cN0 ∧ Fld Z h r0 cN0 "elements" "[Ljava/lang/Object;" (.ref r1) ∧ Fld Z h r0 cN0 "ends" "[J" (.ref r4) ∧ Fld Z h r0 cN0 "orders" "[J" (.ref r5) ∧ Fld Z h r0 cN0 "placed" "Ljava/util/function/ObjIntConsumer;" (.null) ∧ Fld Z h r0 cN0 "size" "I" (.int (2 : Int32)) ∧ Arv Z h r1 k_r1 (.object "java/lang/Object") (8 : Int32) [.ref r2, .ref r3, .null, .null, .null, .null, .null, .null] (.null) ∧ Arv Z h r4 k_r4 .long (8 : Int32) [.long p0, .long p1, .long p2, .long p3, .long p4, .long p5, .long p6, .long p7] (.long (0 : Int64)) ∧ Arv Z h r5 k_r5 .long (8 : Int32) [.long p8, .long p9, .long p10, .long p11, .long p12, .long p13, .long p14, .long p15] (.long (0 : Int64)))) ∨ (¬ ((o5 p1 p9 p0 p8) = (0 : Int32)) ∧ (v = some (.int (0 : Int32)) ∧ Fr n0 L ∧ Keep h0 h [r0, r1, r4, r5] ∧ Exa Z h r0 cN0 ∧ Fld Z h r0 cN0 "elements" "[Ljava/lang/Object;" (.ref r1) ∧ Fld Z h r0 cN0 "ends" "[J" (.ref r4) ∧ Fld Z h r0 cN0 "orders" "[J" (.ref r5) ∧ Fld Z h r0 cN0 "placed" "Ljava/util/function/ObjIntConsumer;" (.null) ∧ Fld Z h r0 cN0 "size" "I" (.int (2 : Int32)) ∧ Arv Z h r1 k_r1 (.object "java/lang/Object") (8 : Int32) [.ref r3, .ref r2, .null, .null, .null, .null, .null, .null] (.null) ∧ Arv Z h r4 k_r4 .long (8 : Int32) [.long p1, .long p0, .long p2, .long p3, .long p4, .long p5, .long p6, .long p7] (.long (0 : Int64)) ∧ Arv Z h r5 k_r5 .long (8 : Int32) [.long p9, .long p8, .long p10, .long p11, .long p12, .long p13, .long p14, .long p15] (.long (0 : Int64)))))
set_option maxRecDepth 65536 in
set_option maxHeartbeats 40000000 in
theorem rm6s10 (l : Launch) (Z : State) (a0 : Array Value) (hw : ∀ d ∈ tables_1, d.before a0 Z = true) (ws : List Jvm.Cond) (r0 : Addr) (r1 : Addr) (r2 : Addr) (r3 : Addr) (r4 : Addr) (r5 : Addr) (p0 : Int64) (p1 : Int64) (p2 : Int64) (p3 : Int64) (p4 : Int64) (p5 : Int64) (p6 : Int64) (p7 : Int64) (p8 : Int64) (p9 : Int64) (p10 : Int64) (p11 : Int64) (p12 : Int64) (p13 : Int64) (p14 : Int64) (p15 : Int64) (k_r1 : ClassId) (k_r4 : ClassId) (k_r5 : ClassId) (h0 : Heap) (n0 : Nat) (Z0 : n0 ≤ h0.size) (E_r0 : Exa Z h0 r0 cN0) (F_elements_r0 : Fld Z h0 r0 cN0 "elements" "[Ljava/lang/Object;" (.ref r1)) (F_ends_r0 : Fld Z h0 r0 cN0 "ends" "[J" (.ref r4)) (F_orders_r0 : Fld Z h0 r0 cN0 "orders" "[J" (.ref r5)) (F_placed_r0 : Fld Z h0 r0 cN0 "placed" "Ljava/util/function/ObjIntConsumer;" (.null)) (F_size_r0 : Fld Z h0 r0 cN0 "size" "I" (.int (2 : Int32))) (g_r0 : n0 ≤ r0) (E_r2 : Exa Z h0 r2 "[I") (E_r3 : Exa Z h0 r3 "[I") (V_r1 : Arv Z h0 r1 k_r1 (.object "java/lang/Object") (8 : Int32) [.ref r2, .ref r3, .null, .null, .null, .null, .null, .null] (.null)) (O_r1 : Ovr Z k_r1 "java/lang/Object") (g_r1 : n0 ≤ r1) (V_r4 : Arv Z h0 r4 k_r4 .long (8 : Int32) [.long p0, .long p1, .long p2, .long p3, .long p4, .long p5, .long p6, .long p7] (.long (0 : Int64))) (g_r4 : n0 ≤ r4) (V_r5 : Arv Z h0 r5 k_r5 .long (8 : Int32) [.long p8, .long p9, .long p10, .long p11, .long p12, .long p13, .long p14, .long p15] (.long (0 : Int64))) (g_r5 : n0 ≤ r5) (ne_r0_r1 : r0 ≠ r1) (ne_r0_r2 : r0 ≠ r2) (ne_r1_r2 : r1 ≠ r2) (ne_r0_r3 : r0 ≠ r3) (ne_r1_r3 : r1 ≠ r3) (ne_r2_r3 : r2 ≠ r3) (ne_r0_r4 : r0 ≠ r4) (ne_r1_r4 : r1 ≠ r4) (ne_r2_r4 : r2 ≠ r4) (ne_r3_r4 : r3 ≠ r4) (ne_r0_r5 : r0 ≠ r5) (ne_r1_r5 : r1 ≠ r5) (ne_r2_r5 : r2 ≠ r5) (ne_r3_r5 : r3 ≠ r5) (ne_r4_r5 : r4 ≠ r5) :
    Con l (⟨cN0, "siftUp", "(I)I"⟩ : MethodName) prog_31_method_11_code 8 (some .int) ws ({ frames := 1, cells := 0, slots := 0, locals := 19 } : Room) #[(.ref r0), (.int (1 : Int32))] Z h0 (Q6s10 Z r0 r1 r2 r3 r4 r5 p0 p1 p2 p3 p4 p5 p6 p7 p8 p9 p10 p11 p12 p13 p14 p15 k_r1 k_r4 k_r5 h0 n0) ({ frames := 1, cells := 0, slots := 0, locals := 19 } : Room).cells ({ frames := 1, cells := 0, slots := 0, locals := 19 } : Room).slots := by
  refine own_body (plainFor_of_name pn_2) ?_
  intro p e s m below meth c s₁ hx hby hlk hml hown hnm hrt hZ X0 e0
  have w : ∀ (k : Nat) (d : Jvm.Cond), tables_1[k]? = some d → d.before a0 Z = true := fun k d h => hw d (List.mem_of_getElem? h)
  have N0 := Fr.nil n0
  have K0 := Keep.refl h0 [r0, r1, r4, r5]
  rw [ef_6s10]
  generalize hOWE : Owe s _ _ _ = OWE
  refine o_aloadN X0 hx (hb hby d6_0) (pc' := 1) rfl rfl rfl ?_
  refine o_iloadN X0 hx (hb hby d6_1) (pc' := 2) rfl rfl ?_
  refine o_callP X0 hx hZ 0 (argsL := [.int (1 : Int32)]) (rest := []) (a := r0) hown (w 41 _ rfl) (w 3 _ rfl) (w 43 _ rfl) (w 42 _ rfl) (w 4 _ rfl) (w 44 _ rfl) (by decide) (rm7s11 l Z a0 hw [] _ _ _ _ _ _ _ _ _ _ _ h0 n0 Z0 E_r0 F_elements_r0 E_r3 V_r1 O_r1 ne_r0_r1 ne_r0_r3 ne_r1_r3) E_r0 (by decide) (by decide) (cells' := 0) rfl (slots' := 0) rfl (by decide) (by decide) e0 (by rw [hml]; rfl) (lenOf pd_7 rfl) rfl rfl (hb hby d6_2) (pc' := 5) rfl ?_
  intro T1 v1 L1 X1 hQ1
  obtain ⟨rfl, Nq1, e1⟩ := hQ1
  have N1 := Fr.app N0 Nq1
  show Go p e below _ (T1.setTop (mkF m 5 _ [.ref r3]))
  refine o_astoreN X1 hx (hb hby d6_5) (pc' := 6) rfl (L' := #[.val (.ref r0), .val (.int (1 : Int32)), .val (.ref r3), .unset, .unset, .unset, .unset, .unset]) rfl rfl ?_
  refine o_aloadN X1 hx (hb hby d6_6) (pc' := 7) rfl rfl rfl ?_
  refine o_getF X1 hx hZ hown (w 19 _ rfl) e1 F_ends_r0 (hb hby d6_7) (pc' := 10) rfl ?_
  intro T2 X2 e2
  refine o_iloadN X2 hx (hb hby d6_10) (pc' := 11) rfl rfl ?_
  refine o_laload X2 hx hZ (.long p1) e2 V_r4 (by decide) (by rfl) (hb hby d6_11) (pc' := 12) rfl ?_
  refine o_lstoreN X2 hx (hb hby d6_12) (pc' := 13) rfl (L' := #[.val (.ref r0), .val (.int (1 : Int32)), .val (.ref r3), .val (.long p1), .second, .unset, .unset, .unset]) rfl ?_
  refine o_aloadN X2 hx (hb hby d6_13) (pc' := 14) rfl rfl rfl ?_
  refine o_getF X2 hx hZ hown (w 21 _ rfl) e2 F_orders_r0 (hb hby d6_14) (pc' := 17) rfl ?_
  intro T3 X3 e3
  refine o_iloadN X3 hx (hb hby d6_17) (pc' := 18) rfl rfl ?_
  refine o_laload X3 hx hZ (.long p9) e3 V_r5 (by decide) (by rfl) (hb hby d6_18) (pc' := 19) rfl ?_
  refine o_lstore X3 hx (hb hby d6_19) (pc' := 21) rfl (L' := #[.val (.ref r0), .val (.int (1 : Int32)), .val (.ref r3), .val (.long p1), .second, .val (.long p9), .second, .unset]) rfl ?_
  refine o_iloadN X3 hx (hb hby d6_21) (pc' := 22) rfl rfl ?_
  refine o_ifN X3 hx (hb hby d6_22) (tlt (by decide : (0 : Int32) < (1 : Int32))).2.2.2 (pc' := 25) rfl ?_
  refine o_iloadN X3 hx (hb hby d6_25) (pc' := 26) rfl rfl ?_
  refine o_iconst X3 hx (1 : Int32) (hb hby d6_26) (pc' := 27) rfl (by decide) ?_
  refine o_isub X3 hx (hb hby d6_27) (pc' := 28) rfl ?_
  rw [show ((1 : Int32) - (1 : Int32)) = (0 : Int32) from by decide]
  refine o_iconst X3 hx (2 : Int32) (hb hby d6_28) (pc' := 29) rfl (by decide) ?_
  refine o_idiv X3 hx (hb hby d6_29) (pc' := 30) rfl (by decide) ?_
  rw [show ((0 : Int32) / (2 : Int32)) = (0 : Int32) from by decide]
  refine o_istore X3 hx (hb hby d6_30) (pc' := 32) rfl (L' := #[.val (.ref r0), .val (.int (1 : Int32)), .val (.ref r3), .val (.long p1), .second, .val (.long p9), .second, .val (.int (0 : Int32))]) rfl ?_
  refine o_lloadN X3 hx (hb hby d6_32) (pc' := 33) rfl rfl ?_
  refine o_lload X3 hx (hb hby d6_33) (pc' := 35) rfl rfl ?_
  refine o_aloadN X3 hx (hb hby d6_35) (pc' := 36) rfl rfl rfl ?_
  refine o_getF X3 hx hZ hown (w 19 _ rfl) e3 F_ends_r0 (hb hby d6_36) (pc' := 39) rfl ?_
  intro T4 X4 e4
  refine o_iload X4 hx (hb hby d6_39) (pc' := 41) rfl rfl ?_
  refine o_laload X4 hx hZ (.long p0) e4 V_r4 (by decide) (by rfl) (hb hby d6_41) (pc' := 42) rfl ?_
  refine o_aloadN X4 hx (hb hby d6_42) (pc' := 43) rfl rfl rfl ?_
  refine o_getF X4 hx hZ hown (w 21 _ rfl) e4 F_orders_r0 (hb hby d6_43) (pc' := 46) rfl ?_
  intro T5 X5 e5
  refine o_iload X5 hx (hb hby d6_46) (pc' := 48) rfl rfl ?_
  refine o_laload X5 hx hZ (.long p8) e5 V_r5 (by decide) (by rfl) (hb hby d6_48) (pc' := 49) rfl ?_
  refine o_callS X5 hx hZ 0 (argsL := [.long p1, .long p9, .long p0, .long p8]) (rest := []) hown (w 45 _ rfl) (w 46 _ rfl) (w 4 _ rfl) (w 47 _ rfl) (by decide) (rm8 l Z a0 hw [] p1 p9 p0 p8 h0 n0 Z0 ) (by decide) (by decide) (cells' := 0) rfl (slots' := 0) rfl (by decide) (by decide) e5 (by rw [hml]; rfl) (lenOf pd_2 rfl) rfl rfl (hb hby d6_49) (pc' := 52) rfl ?_
  intro T6 v6 L6 X6 hQ6
  obtain ⟨rfl, Nq6, e6⟩ := hQ6
  have N6 := Fr.app N1 Nq6
  show Go p e below _ (T6.setTop (mkF m 52 _ [.int (o5 p1 p9 p0 p8)]))
  by_cases hc52_7 : (o5 p1 p9 p0 p8) = (0 : Int32)
  · refine o_ifN X6 hx (hb hby d6_52) (teq hc52_7).2 (pc' := 55) rfl ?_
    refine o_goto X6 hx (hb hby d6_55) (by decide) (pc' := 89) (by decide) ?_
    refine o_aloadN X6 hx (hb hby d6_89) (pc' := 90) rfl rfl rfl ?_
    refine o_iloadN X6 hx (hb hby d6_90) (pc' := 91) rfl rfl ?_
    refine o_aloadN X6 hx (hb hby d6_91) (pc' := 92) rfl rfl rfl ?_
    refine o_lloadN X6 hx (hb hby d6_92) (pc' := 93) rfl rfl ?_
    refine o_lload X6 hx (hb hby d6_93) (pc' := 95) rfl rfl ?_
    refine o_callP X6 hx hZ 0 (argsL := [.int (1 : Int32), .ref r3, .long p1, .long p9]) (rest := []) (a := r0) hown (w 32 _ rfl) (w 3 _ rfl) (w 34 _ rfl) (w 33 _ rfl) (w 4 _ rfl) (w 35 _ rfl) (by decide) (rm5s9 l Z a0 hw [] _ _ _ _ _ _ _ _ _ _ _ _ _ _ _ _ _ _ _ _ _ _ _ _ _ _ _ _ _ _ p1 p9 _ _ _ h0 n0 Z0 E_r0 F_elements_r0 F_ends_r0 F_orders_r0 F_placed_r0 F_size_r0 g_r0 E_r3 V_r1 O_r1 g_r1 V_r4 g_r4 V_r5 g_r5 ne_r0_r1 ne_r0_r4 ne_r1_r4 ne_r0_r5 ne_r1_r5 ne_r4_r5 ne_r0_r3 ne_r1_r3 (Ne.symm ne_r3_r4) (Ne.symm ne_r3_r5)) E_r0 (by decide) (by decide) (cells' := 0) rfl (slots' := 0) rfl (by decide) (by decide) e6 (by rw [hml]; rfl) (lenOf pd_6 rfl) rfl rfl (hb hby d6_95) (pc' := 98) rfl ?_
    intro T8 v8 L8 X8 hQ8
    obtain ⟨rfl, Nq8, Kq8, P8_0, P8_1, P8_2, P8_3, P8_4, P8_5, P8_6, P8_7, P8_8⟩ := hQ8
    have N8 := Fr.app N6 Nq8
    have E9_r2 := Exa.keep E_r2 Kq8
    have E9_r3 := Exa.keep E_r3 Kq8
    have Z8 : n0 ≤ T8.heap.size := Nat.le_trans Z0 Kq8.1
    have K8 := Keep.trans K0 Kq8 (allS (Or.inl (List.mem_of_getElem? (i := 0) rfl)) (allS (Or.inl (List.mem_of_getElem? (i := 1) rfl)) (allS (Or.inl (List.mem_of_getElem? (i := 2) rfl)) (allS (Or.inl (List.mem_of_getElem? (i := 3) rfl)) all0))))
    show Go p e below _ (T8.setTop (mkF m 98 _ []))
    refine o_iloadN X8 hx (hb hby d6_98) (pc' := 99) rfl rfl ?_
    rw [← hOWE]
    exact o_retI X8 hx hlk hrt (hb hby d6_99) (by decide) (by decide) (Or.inl ⟨hc52_7, ⟨rfl, N8, K8, P8_0, P8_1, P8_2, P8_3, P8_4, P8_5, P8_6, P8_7, P8_8⟩⟩)
  · refine o_ifY X6 hx (hb hby d6_52) (feq hc52_7).2 (by decide) (pc' := 58) (by decide) ?_
    refine o_aloadN X6 hx (hb hby d6_58) (pc' := 59) rfl rfl rfl ?_
    refine o_iloadN X6 hx (hb hby d6_59) (pc' := 60) rfl rfl ?_
    refine o_aloadN X6 hx (hb hby d6_60) (pc' := 61) rfl rfl rfl ?_
    refine o_iload X6 hx (hb hby d6_61) (pc' := 63) rfl rfl ?_
    refine o_callP X6 hx hZ 2 (argsL := [.int (0 : Int32)]) (rest := [.int (1 : Int32), .ref r0]) (a := r0) hown (w 41 _ rfl) (w 3 _ rfl) (w 43 _ rfl) (w 42 _ rfl) (w 4 _ rfl) (w 44 _ rfl) (by decide) (rm7s4 l Z a0 hw [] _ _ _ _ _ _ _ _ _ _ _ h0 n0 Z0 E_r0 F_elements_r0 E_r2 V_r1 O_r1 ne_r0_r1 ne_r0_r2 ne_r1_r2) E_r0 (by decide) (by decide) (cells' := 0) rfl (slots' := 0) rfl (by decide) (by decide) e6 (by rw [hml]; rfl) (lenOf pd_7 rfl) rfl rfl (hb hby d6_63) (pc' := 66) rfl ?_
    intro T10 v10 L10 X10 hQ10
    obtain ⟨rfl, Nq10, e10⟩ := hQ10
    have N10 := Fr.app N6 Nq10
    show Go p e below _ (T10.setTop (mkF m 66 _ [.ref r2, .int (1 : Int32), .ref r0]))
    refine o_aloadN X10 hx (hb hby d6_66) (pc' := 67) rfl rfl rfl ?_
    refine o_getF X10 hx hZ hown (w 19 _ rfl) e10 F_ends_r0 (hb hby d6_67) (pc' := 70) rfl ?_
    intro T11 X11 e11
    refine o_iload X11 hx (hb hby d6_70) (pc' := 72) rfl rfl ?_
    refine o_laload X11 hx hZ (.long p0) e11 V_r4 (by decide) (by rfl) (hb hby d6_72) (pc' := 73) rfl ?_
    refine o_aloadN X11 hx (hb hby d6_73) (pc' := 74) rfl rfl rfl ?_
    refine o_getF X11 hx hZ hown (w 21 _ rfl) e11 F_orders_r0 (hb hby d6_74) (pc' := 77) rfl ?_
    intro T12 X12 e12
    refine o_iload X12 hx (hb hby d6_77) (pc' := 79) rfl rfl ?_
    refine o_laload X12 hx hZ (.long p8) e12 V_r5 (by decide) (by rfl) (hb hby d6_79) (pc' := 80) rfl ?_
    refine o_callP X12 hx hZ 0 (argsL := [.int (1 : Int32), .ref r2, .long p0, .long p8]) (rest := []) (a := r0) hown (w 32 _ rfl) (w 3 _ rfl) (w 34 _ rfl) (w 33 _ rfl) (w 4 _ rfl) (w 35 _ rfl) (by decide) (rm5s9 l Z a0 hw [] _ _ _ _ _ _ _ _ _ _ _ _ _ _ _ _ _ _ _ _ _ _ _ _ _ _ _ _ _ _ p0 p8 _ _ _ h0 n0 Z0 E_r0 F_elements_r0 F_ends_r0 F_orders_r0 F_placed_r0 F_size_r0 g_r0 E_r2 V_r1 O_r1 g_r1 V_r4 g_r4 V_r5 g_r5 ne_r0_r1 ne_r0_r4 ne_r1_r4 ne_r0_r5 ne_r1_r5 ne_r4_r5 ne_r0_r2 ne_r1_r2 (Ne.symm ne_r2_r4) (Ne.symm ne_r2_r5)) E_r0 (by decide) (by decide) (cells' := 0) rfl (slots' := 0) rfl (by decide) (by decide) e12 (by rw [hml]; rfl) (lenOf pd_6 rfl) rfl rfl (hb hby d6_80) (pc' := 83) rfl ?_
    intro T13 v13 L13 X13 hQ13
    obtain ⟨rfl, Nq13, Kq13, P13_0, P13_1, P13_2, P13_3, P13_4, P13_5, P13_6, P13_7, P13_8⟩ := hQ13
    have N13 := Fr.app N10 Nq13
    have E14_r2 := Exa.keep E_r2 Kq13
    have E14_r3 := Exa.keep E_r3 Kq13
    have Z13 : n0 ≤ T13.heap.size := Nat.le_trans Z0 Kq13.1
    have K13 := Keep.trans K0 Kq13 (allS (Or.inl (List.mem_of_getElem? (i := 0) rfl)) (allS (Or.inl (List.mem_of_getElem? (i := 1) rfl)) (allS (Or.inl (List.mem_of_getElem? (i := 2) rfl)) (allS (Or.inl (List.mem_of_getElem? (i := 3) rfl)) all0))))
    show Go p e below _ (T13.setTop (mkF m 83 _ []))
    refine o_iload X13 hx (hb hby d6_83) (pc' := 85) rfl rfl ?_
    refine o_istoreN X13 hx (hb hby d6_85) (pc' := 86) rfl (L' := #[.val (.ref r0), .val (.int (0 : Int32)), .val (.ref r3), .val (.long p1), .second, .val (.long p9), .second, .val (.int (0 : Int32))]) rfl ?_
    refine o_goto X13 hx (hb hby d6_86) (by decide) (pc' := 21) (by decide) ?_
    refine o_iloadN X13 hx (hb hby d6_21) (pc' := 22) rfl rfl ?_
    refine o_ifY X13 hx (hb hby d6_22) (flt (by decide : ¬ ((0 : Int32) < (0 : Int32)))).2.2.2 (by decide) (pc' := 89) (by decide) ?_
    refine o_aloadN X13 hx (hb hby d6_89) (pc' := 90) rfl rfl rfl ?_
    refine o_iloadN X13 hx (hb hby d6_90) (pc' := 91) rfl rfl ?_
    refine o_aloadN X13 hx (hb hby d6_91) (pc' := 92) rfl rfl rfl ?_
    refine o_lloadN X13 hx (hb hby d6_92) (pc' := 93) rfl rfl ?_
    refine o_lload X13 hx (hb hby d6_93) (pc' := 95) rfl rfl ?_
    refine o_callP X13 hx hZ 0 (argsL := [.int (0 : Int32), .ref r3, .long p1, .long p9]) (rest := []) (a := r0) hown (w 32 _ rfl) (w 3 _ rfl) (w 34 _ rfl) (w 33 _ rfl) (w 4 _ rfl) (w 35 _ rfl) (by decide) (rm5s2 l Z a0 hw [] _ _ _ _ _ _ _ _ _ _ _ _ _ _ _ _ _ _ _ _ _ _ _ _ _ _ _ _ _ _ p1 p9 _ _ _ T13.heap n0 Z13 P13_0 P13_1 P13_2 P13_3 P13_4 P13_5 g_r0 E14_r3 P13_6 O_r1 g_r1 P13_7 g_r4 P13_8 g_r5 ne_r0_r1 ne_r0_r4 ne_r1_r4 ne_r0_r5 ne_r1_r5 ne_r4_r5 ne_r0_r3 ne_r1_r3 (Ne.symm ne_r3_r4) (Ne.symm ne_r3_r5)) P13_0 (by decide) (by decide) (cells' := 0) rfl (slots' := 0) rfl (by decide) (by decide) rfl (by rw [hml]; rfl) (lenOf pd_6 rfl) rfl rfl (hb hby d6_95) (pc' := 98) rfl ?_
    intro T15 v15 L15 X15 hQ15
    obtain ⟨rfl, Nq15, Kq15, P15_0, P15_1, P15_2, P15_3, P15_4, P15_5, P15_6, P15_7, P15_8⟩ := hQ15
    have N15 := Fr.app N13 Nq15
    have E16_r2 := Exa.keep E14_r2 Kq15
    have E16_r3 := Exa.keep E14_r3 Kq15
    have Z15 : n0 ≤ T15.heap.size := Nat.le_trans Z13 Kq15.1
    have K15 := Keep.trans K13 Kq15 (allS (Or.inl (List.mem_of_getElem? (i := 0) rfl)) (allS (Or.inl (List.mem_of_getElem? (i := 1) rfl)) (allS (Or.inl (List.mem_of_getElem? (i := 2) rfl)) (allS (Or.inl (List.mem_of_getElem? (i := 3) rfl)) all0))))
    show Go p e below _ (T15.setTop (mkF m 98 _ []))
    refine o_iloadN X15 hx (hb hby d6_98) (pc' := 99) rfl rfl ?_
    rw [← hOWE]
    exact o_retI X15 hx hlk hrt (hb hby d6_99) (by decide) (by decide) (Or.inr ⟨hc52_7, ⟨rfl, N15, K15, P15_0, P15_1, P15_2, P15_3, P15_4, P15_5, P15_6, P15_7, P15_8⟩⟩)
theorem ef_4s8 (m : MethodId) (x0 : Addr) (x1 : Addr) (x2 : Int64) (x3 : Int64) : entryFrame m #[(.ref x0), (.ref x1), (.long x2), (.long x3)] 6 = mkF m 0 #[.val (.ref x0), .val (.ref x1), .val (.long x2), .second, .val (.long x3), .second] [] := by first | (simp [entryFrame, mkF, argsToLocals, Value.category]; done) | rfl
def Q4s8 (Z : State) (r0 : Addr) (r1 : Addr) (r2 : Addr) (r3 : Addr) (r4 : Addr) (r5 : Addr) (p0 : Int64) (p1 : Int64) (p2 : Int64) (p3 : Int64) (p4 : Int64) (p5 : Int64) (p6 : Int64) (p7 : Int64) (p8 : Int64) (p9 : Int64) (p10 : Int64) (p11 : Int64) (p12 : Int64) (p13 : Int64) (p14 : Int64) (p15 : Int64) (p16 : Int64) (p17 : Int64) (k_r1 : ClassId) (k_r3 : ClassId) (k_r4 : ClassId) (h0 : Heap) (n0 : Nat) (v : Option Value) (h : Heap) (L : List Loc) : Prop := (((o5 p16 p17 p0 p8) = (0 : Int32) ∧ (v = none ∧ Fr n0 L ∧ Keep h0 h [r0, r1, r3, r4] ∧ Exa Z h r0 cN0 ∧ Fld Z h r0 cN0 "elements" "[Ljava/lang/Object;" (.ref r1) ∧ Fld Z h r0 cN0 "ends" "[J" (.ref r3) ∧ Fld Z h r0 cN0 "orders" "[J" (.ref r4) ∧ Fld Z h r0 cN0 "placed" "Ljava/util/function/ObjIntConsumer;" (.null) ∧ Fld Z h r0 cN0 "size" "I" (.int (2 : Int32)) ∧ Arv Z h r1 k_r1 (.object "java/lang/Object") (8 : Int32) [.ref r2, .ref r5, .null, .null, .null, .null, .null, .null] (.null) ∧ Arv Z h r3 k_r3 .long (8 : Int32) [.long p0, .long p16, .long p2, .long p3, .long p4, .long p5, .long p6, .long p7] (.long (0 : Int64)) ∧ Arv Z h r4 k_r4 .long (8 : Int32) [.long p8, .long p17, .long p10, .long p11, .long p12, .long p13, .long p14, .long p15] (.long (0 : Int64)))) ∨ (¬ ((o5 p16 p17 p0 p8) = (0 : Int32)) ∧ (v = none ∧ Fr n0 L ∧ Keep h0 h [r0, r1, r3, r4] ∧ Exa Z h r0 cN0 ∧ Fld Z h r0 cN0 "elements" "[Ljava/lang/Object;" (.ref r1) ∧ Fld Z h r0 cN0 "ends" "[J" (.ref r3) ∧ Fld Z h r0 cN0 "orders" "[J" (.ref r4) ∧ Fld Z h r0 cN0 "placed" "Ljava/util/function/ObjIntConsumer;" (.null) ∧ Fld Z h r0 cN0 "size" "I" (.int (2 : Int32)) ∧ Arv Z h r1 k_r1 (.object "java/lang/Object") (8 : Int32) [.ref r5, .ref r2, .null, .null, .null, .null, .null, .null] (.null) ∧ Arv Z h r3 k_r3 .long (8 : Int32) [.long p16, .long p0, .long p2, .long p3, .long p4, .long p5, .long p6, .long p7] (.long (0 : Int64)) ∧ Arv Z h r4 k_r4 .long (8 : Int32) [.long p17, .long p8, .long p10, .long p11, .long p12, .long p13, .long p14, .long p15] (.long (0 : Int64)))))
set_option maxRecDepth 65536 in
set_option maxHeartbeats 40000000 in
theorem rm4s8 (l : Launch) (Z : State) (a0 : Array Value) (hw : ∀ d ∈ tables_1, d.before a0 Z = true) (ws : List Jvm.Cond) (r0 : Addr) (r1 : Addr) (r2 : Addr) (r3 : Addr) (r4 : Addr) (r5 : Addr) (p0 : Int64) (p1 : Int64) (p2 : Int64) (p3 : Int64) (p4 : Int64) (p5 : Int64) (p6 : Int64) (p7 : Int64) (p8 : Int64) (p9 : Int64) (p10 : Int64) (p11 : Int64) (p12 : Int64) (p13 : Int64) (p14 : Int64) (p15 : Int64) (p16 : Int64) (p17 : Int64) (k_r1 : ClassId) (k_r3 : ClassId) (k_r4 : ClassId) (h0 : Heap) (n0 : Nat) (Z0 : n0 ≤ h0.size) (E_r0 : Exa Z h0 r0 cN0) (F_elements_r0 : Fld Z h0 r0 cN0 "elements" "[Ljava/lang/Object;" (.ref r1)) (F_ends_r0 : Fld Z h0 r0 cN0 "ends" "[J" (.ref r3)) (F_orders_r0 : Fld Z h0 r0 cN0 "orders" "[J" (.ref r4)) (F_placed_r0 : Fld Z h0 r0 cN0 "placed" "Ljava/util/function/ObjIntConsumer;" (.null)) (F_size_r0 : Fld Z h0 r0 cN0 "size" "I" (.int (1 : Int32))) (g_r0 : n0 ≤ r0) (E_r2 : Exa Z h0 r2 "[I") (E_r5 : Exa Z h0 r5 "[I") (V_r1 : Arv Z h0 r1 k_r1 (.object "java/lang/Object") (8 : Int32) [.ref r2, .null, .null, .null, .null, .null, .null, .null] (.null)) (O_r1 : Ovr Z k_r1 "java/lang/Object") (g_r1 : n0 ≤ r1) (V_r3 : Arv Z h0 r3 k_r3 .long (8 : Int32) [.long p0, .long p1, .long p2, .long p3, .long p4, .long p5, .long p6, .long p7] (.long (0 : Int64))) (g_r3 : n0 ≤ r3) (V_r4 : Arv Z h0 r4 k_r4 .long (8 : Int32) [.long p8, .long p9, .long p10, .long p11, .long p12, .long p13, .long p14, .long p15] (.long (0 : Int64))) (g_r4 : n0 ≤ r4) (ne_r0_r1 : r0 ≠ r1) (ne_r0_r2 : r0 ≠ r2) (ne_r1_r2 : r1 ≠ r2) (ne_r0_r3 : r0 ≠ r3) (ne_r1_r3 : r1 ≠ r3) (ne_r2_r3 : r2 ≠ r3) (ne_r0_r4 : r0 ≠ r4) (ne_r1_r4 : r1 ≠ r4) (ne_r2_r4 : r2 ≠ r4) (ne_r3_r4 : r3 ≠ r4) (ne_r0_r5 : r0 ≠ r5) (ne_r1_r5 : r1 ≠ r5) (ne_r2_r5 : r2 ≠ r5) (ne_r3_r5 : r3 ≠ r5) (ne_r4_r5 : r4 ≠ r5) :
    Con l (⟨cN0, "add", "(Ljava/lang/Object;JJ)V"⟩ : MethodName) prog_31_method_6_code 6 none ws ({ frames := 2, cells := 0, slots := 0, locals := 38 } : Room) #[(.ref r0), (.ref r5), (.long p16), (.long p17)] Z h0 (Q4s8 Z r0 r1 r2 r3 r4 r5 p0 p1 p2 p3 p4 p5 p6 p7 p8 p9 p10 p11 p12 p13 p14 p15 p16 p17 k_r1 k_r3 k_r4 h0 n0) ({ frames := 2, cells := 0, slots := 0, locals := 38 } : Room).cells ({ frames := 2, cells := 0, slots := 0, locals := 38 } : Room).slots := by
  refine own_body (plainFor_of_name pn_2) ?_
  intro p e s m below meth c s₁ hx hby hlk hml hown hnm hrt hZ X0 e0
  have w : ∀ (k : Nat) (d : Jvm.Cond), tables_1[k]? = some d → d.before a0 Z = true := fun k d h => hw d (List.mem_of_getElem? h)
  have N0 := Fr.nil n0
  have K0 := Keep.refl h0 [r0, r1, r3, r4]
  rw [ef_4s8]
  generalize hOWE : Owe s _ _ _ = OWE
  refine o_aloadN X0 hx (hb hby d4_0) (pc' := 1) rfl rfl rfl ?_
  refine o_getF X0 hx hZ hown (w 30 _ rfl) e0 F_size_r0 (hb hby d4_1) (pc' := 4) rfl ?_
  intro T1 X1 e1
  refine o_aloadN X1 hx (hb hby d4_4) (pc' := 5) rfl rfl rfl ?_
  refine o_getF X1 hx hZ hown (w 16 _ rfl) e1 F_elements_r0 (hb hby d4_5) (pc' := 8) rfl ?_
  intro T2 X2 e2
  refine o_arraylength X2 hx hZ e2 V_r1 (hb hby d4_8) (pc' := 9) rfl ?_
  refine o_cmpY X2 hx (hb hby d4_9) (feq (by decide : ¬ ((1 : Int32) = (8 : Int32)))).2 (by decide) (pc' := 63) (by decide) ?_
  refine o_aloadN X2 hx (hb hby d4_63) (pc' := 64) rfl rfl rfl ?_
  refine o_aloadN X2 hx (hb hby d4_64) (pc' := 65) rfl rfl rfl ?_
  refine o_getF X2 hx hZ hown (w 30 _ rfl) e2 F_size_r0 (hb hby d4_65) (pc' := 68) rfl ?_
  intro T3 X3 e3
  refine o_aloadN X3 hx (hb hby d4_68) (pc' := 69) rfl rfl rfl ?_
  refine o_lloadN X3 hx (hb hby d4_69) (pc' := 70) rfl rfl ?_
  refine o_lload X3 hx (hb hby d4_70) (pc' := 72) rfl rfl ?_
  refine o_callP X3 hx hZ 0 (argsL := [.int (1 : Int32), .ref r5, .long p16, .long p17]) (rest := []) (a := r0) hown (w 32 _ rfl) (w 3 _ rfl) (w 34 _ rfl) (w 33 _ rfl) (w 4 _ rfl) (w 35 _ rfl) (by decide) (rm5s9 l Z a0 hw [] _ _ _ _ _ _ _ _ _ _ _ _ _ _ _ _ _ _ _ _ _ _ _ _ _ _ _ _ _ _ p16 p17 _ _ _ h0 n0 Z0 E_r0 F_elements_r0 F_ends_r0 F_orders_r0 F_placed_r0 F_size_r0 g_r0 E_r5 V_r1 O_r1 g_r1 V_r3 g_r3 V_r4 g_r4 ne_r0_r1 ne_r0_r3 ne_r1_r3 ne_r0_r4 ne_r1_r4 ne_r3_r4 ne_r0_r5 ne_r1_r5 ne_r3_r5 ne_r4_r5) E_r0 (by decide) (by decide) (cells' := 0) rfl (slots' := 0) rfl (by decide) (by decide) e3 (by rw [hml]; rfl) (lenOf pd_6 rfl) rfl rfl (hb hby d4_72) (pc' := 75) rfl ?_
  intro T4 v4 L4 X4 hQ4
  obtain ⟨rfl, Nq4, Kq4, P4_0, P4_1, P4_2, P4_3, P4_4, P4_5, P4_6, P4_7, P4_8⟩ := hQ4
  have N4 := Fr.app N0 Nq4
  have E5_r2 := Exa.keep E_r2 Kq4
  have E5_r5 := Exa.keep E_r5 Kq4
  have Z4 : n0 ≤ T4.heap.size := Nat.le_trans Z0 Kq4.1
  have K4 := Keep.trans K0 Kq4 (allS (Or.inl (List.mem_of_getElem? (i := 0) rfl)) (allS (Or.inl (List.mem_of_getElem? (i := 1) rfl)) (allS (Or.inl (List.mem_of_getElem? (i := 2) rfl)) (allS (Or.inl (List.mem_of_getElem? (i := 3) rfl)) all0))))
  show Go p e below _ (T4.setTop (mkF m 75 _ []))
  refine o_aloadN X4 hx (hb hby d4_75) (pc' := 76) rfl rfl rfl ?_
  refine o_aloadN X4 hx (hb hby d4_76) (pc' := 77) rfl rfl rfl ?_
  refine o_dup X4 hx (hb hby d4_77) (pc' := 78) rfl rfl ?_
  refine o_getF X4 hx hZ hown (w 30 _ rfl) rfl P4_5 (hb hby d4_78) (pc' := 81) rfl ?_
  intro T6 X6 e6
  refine o_dup_x1 X6 hx (hb hby d4_81) (pc' := 82) rfl rfl rfl ?_
  refine o_iconst X6 hx (1 : Int32) (hb hby d4_82) (pc' := 83) rfl (by decide) ?_
  refine o_iadd X6 hx (hb hby d4_83) (pc' := 84) rfl ?_
  rw [show ((1 : Int32) + (1 : Int32)) = (2 : Int32) from by decide]
  refine o_putF X6 hx hZ hown (w 30 _ rfl) e6 P4_5 P4_0 (Or.inl (w 31 _ rfl)) (w 3 _ rfl) (ty := .int) (by decide) rfl rfl (hb hby d4_84) (pc' := 87) rfl ?_
  intro T7 h7 X7 e7 W7
  have Fw7 := Fld.same W7 P4_5
  have E8_r0 := Exa.wr W7 P4_0
  have F8_r0_elements := Fld.other W7 P4_1 (Or.inr (slot_ne (C := cN0) (a0 := a0) (Or.inl (w 17 _ rfl)) (Or.inl (w 31 _ rfl)) (by decide) (t := (.array (.object "java/lang/Object"))) (t' := .int) (by decide) (by decide)))
  have F8_r0_ends := Fld.other W7 P4_2 (Or.inr (slot_ne (C := cN0) (a0 := a0) (Or.inl (w 20 _ rfl)) (Or.inl (w 31 _ rfl)) (by decide) (t := (.array .long)) (t' := .int) (by decide) (by decide)))
  have F8_r0_orders := Fld.other W7 P4_3 (Or.inr (slot_ne (C := cN0) (a0 := a0) (Or.inl (w 22 _ rfl)) (Or.inl (w 31 _ rfl)) (by decide) (t := (.array .long)) (t' := .int) (by decide) (by decide)))
  have F8_r0_placed := Fld.other W7 P4_4 (Or.inr (slot_ne (C := cN0) (a0 := a0) (Or.inr (w 24 _ rfl)) (Or.inl (w 31 _ rfl)) (by decide) (t := (.object "java/util/function/ObjIntConsumer")) (t' := .int) (by decide) (by decide)))
  have E8_r2 := Exa.wr W7 E5_r2
  have E8_r5 := Exa.wr W7 E5_r5
  have V8_r1 := Arv.other P4_6 W7 (Ne.symm ne_r0_r1)
  have V8_r3 := Arv.other P4_7 W7 (Ne.symm ne_r0_r3)
  have V8_r4 := Arv.other P4_8 W7 (Ne.symm ne_r0_r4)
  have N7 := Fr.snoc X7 N4 g_r0
  have Z7 : n0 ≤ h7.size := by rw [W7.size]; exact Z4
  have K7 := Keep.wr K4 W7 (Or.inl (List.mem_of_getElem? (i := 0) rfl))
  refine o_callP X7 hx hZ 0 (argsL := [.int (1 : Int32)]) (rest := []) (a := r0) hown (w 37 _ rfl) (w 3 _ rfl) (w 39 _ rfl) (w 38 _ rfl) (w 4 _ rfl) (w 40 _ rfl) (by decide) (rm6s10 l Z a0 hw [] _ _ _ _ _ _ _ _ _ _ _ _ _ _ _ _ _ _ _ _ _ _ _ _ _ h7 n0 Z7 E8_r0 F8_r0_elements F8_r0_ends F8_r0_orders F8_r0_placed Fw7 g_r0 E8_r2 E8_r5 V8_r1 O_r1 g_r1 V8_r3 g_r3 V8_r4 g_r4 ne_r0_r1 ne_r0_r2 ne_r1_r2 ne_r0_r5 ne_r1_r5 ne_r2_r5 ne_r0_r3 ne_r1_r3 ne_r2_r3 (Ne.symm ne_r3_r5) ne_r0_r4 ne_r1_r4 ne_r2_r4 (Ne.symm ne_r4_r5) ne_r3_r4) E8_r0 (by decide) (by decide) (cells' := 0) rfl (slots' := 0) rfl (by decide) (by decide) e7 (by rw [hml]; rfl) (lenOf pd_8 rfl) rfl rfl (hb hby d4_87) (pc' := 90) rfl ?_
  intro T9 v9 L9 X9 hQ9
  rcases hQ9 with ⟨hm87_10, hQ9⟩ | ⟨hm87_10, hQ9⟩
  · obtain ⟨rfl, Nq9, Kq9, P9_0, P9_1, P9_2, P9_3, P9_4, P9_5, P9_6, P9_7, P9_8⟩ := hQ9
    have N9 := Fr.app N7 Nq9
    have E11_r2 := Exa.keep E8_r2 Kq9
    have E11_r5 := Exa.keep E8_r5 Kq9
    have Z9 : n0 ≤ T9.heap.size := Nat.le_trans Z7 Kq9.1
    have K9 := Keep.trans K7 Kq9 (allS (Or.inl (List.mem_of_getElem? (i := 0) rfl)) (allS (Or.inl (List.mem_of_getElem? (i := 1) rfl)) (allS (Or.inl (List.mem_of_getElem? (i := 2) rfl)) (allS (Or.inl (List.mem_of_getElem? (i := 3) rfl)) all0))))
    show Go p e below _ (T9.setTop (mkF m 90 _ [.int (1 : Int32)]))
    refine o_pop X9 hx (hb hby d4_90) (pc' := 91) rfl rfl ?_
    rw [← hOWE]
    exact o_retV X9 hx hlk hrt (hb hby d4_91) (by decide) (by decide) (Or.inl ⟨hm87_10, ⟨rfl, N9, K9, P9_0, P9_1, P9_2, P9_3, P9_4, P9_5, P9_6, P9_7, P9_8⟩⟩)
  · obtain ⟨rfl, Nq9, Kq9, P9_0, P9_1, P9_2, P9_3, P9_4, P9_5, P9_6, P9_7, P9_8⟩ := hQ9
    have N9 := Fr.app N7 Nq9
    have E12_r2 := Exa.keep E8_r2 Kq9
    have E12_r5 := Exa.keep E8_r5 Kq9
    have Z9 : n0 ≤ T9.heap.size := Nat.le_trans Z7 Kq9.1
    have K9 := Keep.trans K7 Kq9 (allS (Or.inl (List.mem_of_getElem? (i := 0) rfl)) (allS (Or.inl (List.mem_of_getElem? (i := 1) rfl)) (allS (Or.inl (List.mem_of_getElem? (i := 2) rfl)) (allS (Or.inl (List.mem_of_getElem? (i := 3) rfl)) all0))))
    show Go p e below _ (T9.setTop (mkF m 90 _ [.int (0 : Int32)]))
    refine o_pop X9 hx (hb hby d4_90) (pc' := 91) rfl rfl ?_
    rw [← hOWE]
    exact o_retV X9 hx hlk hrt (hb hby d4_91) (by decide) (by decide) (Or.inr ⟨hm87_10, ⟨rfl, N9, K9, P9_0, P9_1, P9_2, P9_3, P9_4, P9_5, P9_6, P9_7, P9_8⟩⟩)
theorem ef_9s12 (m : MethodId) (x0 : Addr) (x1 : Addr) : entryFrame m #[(.ref x0), (.ref x1)] 3 = mkF m 0 #[.val (.ref x0), .val (.ref x1), .unset] [] := by first | (simp [entryFrame, mkF, argsToLocals, Value.category]; done) | rfl
def Q9s12 (Z : State) (r0 : Addr) (r1 : Addr) (r2 : Addr) (r3 : Addr) (k_r1 : ClassId) (h0 : Heap) (n0 : Nat) (v : Option Value) (h : Heap) (L : List Loc) : Prop := (v = some (.int (0 : Int32)) ∧ Fr n0 L ∧ h = h0)
set_option maxRecDepth 65536 in
set_option maxHeartbeats 40000000 in
theorem rm9s12 (l : Launch) (Z : State) (a0 : Array Value) (hw : ∀ d ∈ tables_1, d.before a0 Z = true) (ws : List Jvm.Cond) (r0 : Addr) (r1 : Addr) (r2 : Addr) (r3 : Addr) (k_r1 : ClassId) (h0 : Heap) (n0 : Nat) (Z0 : n0 ≤ h0.size) (E_r0 : Exa Z h0 r0 cN0) (F_elements_r0 : Fld Z h0 r0 cN0 "elements" "[Ljava/lang/Object;" (.ref r1)) (F_size_r0 : Fld Z h0 r0 cN0 "size" "I" (.int (2 : Int32))) (E_r2 : Exa Z h0 r2 "[I") (E_r3 : Exa Z h0 r3 "[I") (V_r1 : Arv Z h0 r1 k_r1 (.object "java/lang/Object") (8 : Int32) [.ref r2, .ref r3, .null, .null, .null, .null, .null, .null] (.null)) (O_r1 : Ovr Z k_r1 "java/lang/Object") (ne_r0_r1 : r0 ≠ r1) (ne_r0_r2 : r0 ≠ r2) (ne_r1_r2 : r1 ≠ r2) (ne_r0_r3 : r0 ≠ r3) (ne_r1_r3 : r1 ≠ r3) (ne_r2_r3 : r2 ≠ r3) :
    Con l (⟨cN0, "placeOf", "(Ljava/lang/Object;)I"⟩ : MethodName) prog_31_method_10_code 3 (some .int) ws ({ frames := 0, cells := 0, slots := 0, locals := 0 } : Room) #[(.ref r0), (.ref r2)] Z h0 (Q9s12 Z r0 r1 r2 r3 k_r1 h0 n0) ({ frames := 0, cells := 0, slots := 0, locals := 0 } : Room).cells ({ frames := 0, cells := 0, slots := 0, locals := 0 } : Room).slots := by
  refine own_body (plainFor_of_name pn_2) ?_
  intro p e s m below meth c s₁ hx hby hlk hml hown hnm hrt hZ X0 e0
  have w : ∀ (k : Nat) (d : Jvm.Cond), tables_1[k]? = some d → d.before a0 Z = true := fun k d h => hw d (List.mem_of_getElem? h)
  have N0 := Fr.nil n0
  rw [ef_9s12]
  generalize hOWE : Owe s _ _ _ = OWE
  refine o_iconst X0 hx (0 : Int32) (hb hby d9_0) (pc' := 1) rfl (by decide) ?_
  refine o_istoreN X0 hx (hb hby d9_1) (pc' := 2) rfl (L' := #[.val (.ref r0), .val (.ref r2), .val (.int (0 : Int32))]) rfl ?_
  refine o_iloadN X0 hx (hb hby d9_2) (pc' := 3) rfl rfl ?_
  refine o_aloadN X0 hx (hb hby d9_3) (pc' := 4) rfl rfl rfl ?_
  refine o_getF X0 hx hZ hown (w 30 _ rfl) e0 F_size_r0 (hb hby d9_4) (pc' := 7) rfl ?_
  intro T1 X1 e1
  refine o_cmpN X1 hx (hb hby d9_7) (tlt (by decide : (0 : Int32) < (2 : Int32))).2.1 (pc' := 10) rfl ?_
  refine o_aloadN X1 hx (hb hby d9_10) (pc' := 11) rfl rfl rfl ?_
  refine o_getF X1 hx hZ hown (w 16 _ rfl) e1 F_elements_r0 (hb hby d9_11) (pc' := 14) rfl ?_
  intro T2 X2 e2
  refine o_iloadN X2 hx (hb hby d9_14) (pc' := 15) rfl rfl ?_
  refine o_aaload X2 hx hZ (.ref r2) e2 V_r1 rfl (by decide) (by rfl) (hb hby d9_15) (pc' := 16) rfl ?_
  refine o_aloadN X2 hx (hb hby d9_16) (pc' := 17) rfl rfl rfl ?_
  refine Go.via (fun t k => Jvm.RoadKit.acmp (g := mkF m 17 #[.val (.ref r0), .val (.ref r2), .val (.int (0 : Int32))] [.ref r2, .ref r2]) X2 hx rfl (x := .ref r2) (y := .ref r2) rfl rfl (pc0 := 17) (pc' := 20) (same := true) rfl (hb hby d9_17) rfl (decide_eq_true rfl) (by decide) (by decide) k) ?_
  show Go p e below _ (T2.setTop (mkF m 20 _ []))
  refine o_iloadN X2 hx (hb hby d9_20) (pc' := 21) rfl rfl ?_
  rw [← hOWE]
  exact o_retI X2 hx hlk hrt (hb hby d9_21) (by decide) (by decide) (by rw [e2]; exact ⟨rfl, N0, rfl⟩)
theorem ef_9s13 (m : MethodId) (x0 : Addr) (x1 : Addr) : entryFrame m #[(.ref x0), (.ref x1)] 3 = mkF m 0 #[.val (.ref x0), .val (.ref x1), .unset] [] := by first | (simp [entryFrame, mkF, argsToLocals, Value.category]; done) | rfl
def Q9s13 (Z : State) (r0 : Addr) (r1 : Addr) (r2 : Addr) (r3 : Addr) (k_r1 : ClassId) (h0 : Heap) (n0 : Nat) (v : Option Value) (h : Heap) (L : List Loc) : Prop := (v = some (.int (1 : Int32)) ∧ Fr n0 L ∧ h = h0)
set_option maxRecDepth 65536 in
set_option maxHeartbeats 40000000 in
theorem rm9s13 (l : Launch) (Z : State) (a0 : Array Value) (hw : ∀ d ∈ tables_1, d.before a0 Z = true) (ws : List Jvm.Cond) (r0 : Addr) (r1 : Addr) (r2 : Addr) (r3 : Addr) (k_r1 : ClassId) (h0 : Heap) (n0 : Nat) (Z0 : n0 ≤ h0.size) (E_r0 : Exa Z h0 r0 cN0) (F_elements_r0 : Fld Z h0 r0 cN0 "elements" "[Ljava/lang/Object;" (.ref r1)) (F_size_r0 : Fld Z h0 r0 cN0 "size" "I" (.int (2 : Int32))) (E_r2 : Exa Z h0 r2 "[I") (E_r3 : Exa Z h0 r3 "[I") (V_r1 : Arv Z h0 r1 k_r1 (.object "java/lang/Object") (8 : Int32) [.ref r2, .ref r3, .null, .null, .null, .null, .null, .null] (.null)) (O_r1 : Ovr Z k_r1 "java/lang/Object") (ne_r0_r1 : r0 ≠ r1) (ne_r0_r2 : r0 ≠ r2) (ne_r1_r2 : r1 ≠ r2) (ne_r0_r3 : r0 ≠ r3) (ne_r1_r3 : r1 ≠ r3) (ne_r2_r3 : r2 ≠ r3) :
    Con l (⟨cN0, "placeOf", "(Ljava/lang/Object;)I"⟩ : MethodName) prog_31_method_10_code 3 (some .int) ws ({ frames := 0, cells := 0, slots := 0, locals := 0 } : Room) #[(.ref r0), (.ref r3)] Z h0 (Q9s13 Z r0 r1 r2 r3 k_r1 h0 n0) ({ frames := 0, cells := 0, slots := 0, locals := 0 } : Room).cells ({ frames := 0, cells := 0, slots := 0, locals := 0 } : Room).slots := by
  refine own_body (plainFor_of_name pn_2) ?_
  intro p e s m below meth c s₁ hx hby hlk hml hown hnm hrt hZ X0 e0
  have w : ∀ (k : Nat) (d : Jvm.Cond), tables_1[k]? = some d → d.before a0 Z = true := fun k d h => hw d (List.mem_of_getElem? h)
  have N0 := Fr.nil n0
  rw [ef_9s13]
  generalize hOWE : Owe s _ _ _ = OWE
  refine o_iconst X0 hx (0 : Int32) (hb hby d9_0) (pc' := 1) rfl (by decide) ?_
  refine o_istoreN X0 hx (hb hby d9_1) (pc' := 2) rfl (L' := #[.val (.ref r0), .val (.ref r3), .val (.int (0 : Int32))]) rfl ?_
  refine o_iloadN X0 hx (hb hby d9_2) (pc' := 3) rfl rfl ?_
  refine o_aloadN X0 hx (hb hby d9_3) (pc' := 4) rfl rfl rfl ?_
  refine o_getF X0 hx hZ hown (w 30 _ rfl) e0 F_size_r0 (hb hby d9_4) (pc' := 7) rfl ?_
  intro T1 X1 e1
  refine o_cmpN X1 hx (hb hby d9_7) (tlt (by decide : (0 : Int32) < (2 : Int32))).2.1 (pc' := 10) rfl ?_
  refine o_aloadN X1 hx (hb hby d9_10) (pc' := 11) rfl rfl rfl ?_
  refine o_getF X1 hx hZ hown (w 16 _ rfl) e1 F_elements_r0 (hb hby d9_11) (pc' := 14) rfl ?_
  intro T2 X2 e2
  refine o_iloadN X2 hx (hb hby d9_14) (pc' := 15) rfl rfl ?_
  refine o_aaload X2 hx hZ (.ref r2) e2 V_r1 rfl (by decide) (by rfl) (hb hby d9_15) (pc' := 16) rfl ?_
  refine o_aloadN X2 hx (hb hby d9_16) (pc' := 17) rfl rfl rfl ?_
  refine Go.via (fun t k => Jvm.RoadKit.acmp (g := mkF m 17 #[.val (.ref r0), .val (.ref r3), .val (.int (0 : Int32))] [.ref r3, .ref r2]) X2 hx rfl (x := .ref r2) (y := .ref r3) rfl rfl (pc0 := 17) (pc' := 22) (same := false) rfl (hb hby d9_17) rfl (decide_eq_false (fun q => ne_r2_r3 (Value.ref.inj q))) (by decide) (by decide) k) ?_
  show Go p e below _ (T2.setTop (mkF m 22 _ []))
  refine o_iinc X2 hx (hb hby d9_22) (pc' := 25) rfl rfl (v' := (1 : Int32)) (by first | rfl | decide) (L' := #[.val (.ref r0), .val (.ref r3), .val (.int (1 : Int32))]) rfl ?_
  refine o_goto X2 hx (hb hby d9_25) (by decide) (pc' := 2) (by decide) ?_
  refine o_iloadN X2 hx (hb hby d9_2) (pc' := 3) rfl rfl ?_
  refine o_aloadN X2 hx (hb hby d9_3) (pc' := 4) rfl rfl rfl ?_
  refine o_getF X2 hx hZ hown (w 30 _ rfl) e2 F_size_r0 (hb hby d9_4) (pc' := 7) rfl ?_
  intro T3 X3 e3
  refine o_cmpN X3 hx (hb hby d9_7) (tlt (by decide : (1 : Int32) < (2 : Int32))).2.1 (pc' := 10) rfl ?_
  refine o_aloadN X3 hx (hb hby d9_10) (pc' := 11) rfl rfl rfl ?_
  refine o_getF X3 hx hZ hown (w 16 _ rfl) e3 F_elements_r0 (hb hby d9_11) (pc' := 14) rfl ?_
  intro T4 X4 e4
  refine o_iloadN X4 hx (hb hby d9_14) (pc' := 15) rfl rfl ?_
  refine o_aaload X4 hx hZ (.ref r3) e4 V_r1 rfl (by decide) (by rfl) (hb hby d9_15) (pc' := 16) rfl ?_
  refine o_aloadN X4 hx (hb hby d9_16) (pc' := 17) rfl rfl rfl ?_
  refine Go.via (fun t k => Jvm.RoadKit.acmp (g := mkF m 17 #[.val (.ref r0), .val (.ref r3), .val (.int (1 : Int32))] [.ref r3, .ref r3]) X4 hx rfl (x := .ref r3) (y := .ref r3) rfl rfl (pc0 := 17) (pc' := 20) (same := true) rfl (hb hby d9_17) rfl (decide_eq_true rfl) (by decide) (by decide) k) ?_
  show Go p e below _ (T4.setTop (mkF m 20 _ []))
  refine o_iloadN X4 hx (hb hby d9_20) (pc' := 21) rfl rfl ?_
  rw [← hOWE]
  exact o_retI X4 hx hlk hrt (hb hby d9_21) (by decide) (by decide) (by rw [e4]; exact ⟨rfl, N0, rfl⟩)
theorem ef_9s14 (m : MethodId) (x0 : Addr) (x1 : Addr) : entryFrame m #[(.ref x0), (.ref x1)] 3 = mkF m 0 #[.val (.ref x0), .val (.ref x1), .unset] [] := by first | (simp [entryFrame, mkF, argsToLocals, Value.category]; done) | rfl
def Q9s14 (Z : State) (r0 : Addr) (r1 : Addr) (r2 : Addr) (r3 : Addr) (r4 : Addr) (k_r1 : ClassId) (h0 : Heap) (n0 : Nat) (v : Option Value) (h : Heap) (L : List Loc) : Prop := (v = some (.int (-1 : Int32)) ∧ Fr n0 L ∧ h = h0)
set_option maxRecDepth 65536 in
set_option maxHeartbeats 40000000 in
theorem rm9s14 (l : Launch) (Z : State) (a0 : Array Value) (hw : ∀ d ∈ tables_1, d.before a0 Z = true) (ws : List Jvm.Cond) (r0 : Addr) (r1 : Addr) (r2 : Addr) (r3 : Addr) (r4 : Addr) (k_r1 : ClassId) (h0 : Heap) (n0 : Nat) (Z0 : n0 ≤ h0.size) (E_r0 : Exa Z h0 r0 cN0) (F_elements_r0 : Fld Z h0 r0 cN0 "elements" "[Ljava/lang/Object;" (.ref r1)) (F_size_r0 : Fld Z h0 r0 cN0 "size" "I" (.int (2 : Int32))) (E_r2 : Exa Z h0 r2 "[I") (E_r3 : Exa Z h0 r3 "[I") (E_r4 : Exa Z h0 r4 "[I") (V_r1 : Arv Z h0 r1 k_r1 (.object "java/lang/Object") (8 : Int32) [.ref r2, .ref r3, .null, .null, .null, .null, .null, .null] (.null)) (O_r1 : Ovr Z k_r1 "java/lang/Object") (ne_r0_r1 : r0 ≠ r1) (ne_r0_r2 : r0 ≠ r2) (ne_r1_r2 : r1 ≠ r2) (ne_r0_r3 : r0 ≠ r3) (ne_r1_r3 : r1 ≠ r3) (ne_r2_r3 : r2 ≠ r3) (ne_r0_r4 : r0 ≠ r4) (ne_r1_r4 : r1 ≠ r4) (ne_r2_r4 : r2 ≠ r4) (ne_r3_r4 : r3 ≠ r4) :
    Con l (⟨cN0, "placeOf", "(Ljava/lang/Object;)I"⟩ : MethodName) prog_31_method_10_code 3 (some .int) ws ({ frames := 0, cells := 0, slots := 0, locals := 0 } : Room) #[(.ref r0), (.ref r4)] Z h0 (Q9s14 Z r0 r1 r2 r3 r4 k_r1 h0 n0) ({ frames := 0, cells := 0, slots := 0, locals := 0 } : Room).cells ({ frames := 0, cells := 0, slots := 0, locals := 0 } : Room).slots := by
  refine own_body (plainFor_of_name pn_2) ?_
  intro p e s m below meth c s₁ hx hby hlk hml hown hnm hrt hZ X0 e0
  have w : ∀ (k : Nat) (d : Jvm.Cond), tables_1[k]? = some d → d.before a0 Z = true := fun k d h => hw d (List.mem_of_getElem? h)
  have N0 := Fr.nil n0
  rw [ef_9s14]
  generalize hOWE : Owe s _ _ _ = OWE
  refine o_iconst X0 hx (0 : Int32) (hb hby d9_0) (pc' := 1) rfl (by decide) ?_
  refine o_istoreN X0 hx (hb hby d9_1) (pc' := 2) rfl (L' := #[.val (.ref r0), .val (.ref r4), .val (.int (0 : Int32))]) rfl ?_
  refine o_iloadN X0 hx (hb hby d9_2) (pc' := 3) rfl rfl ?_
  refine o_aloadN X0 hx (hb hby d9_3) (pc' := 4) rfl rfl rfl ?_
  refine o_getF X0 hx hZ hown (w 30 _ rfl) e0 F_size_r0 (hb hby d9_4) (pc' := 7) rfl ?_
  intro T1 X1 e1
  refine o_cmpN X1 hx (hb hby d9_7) (tlt (by decide : (0 : Int32) < (2 : Int32))).2.1 (pc' := 10) rfl ?_
  refine o_aloadN X1 hx (hb hby d9_10) (pc' := 11) rfl rfl rfl ?_
  refine o_getF X1 hx hZ hown (w 16 _ rfl) e1 F_elements_r0 (hb hby d9_11) (pc' := 14) rfl ?_
  intro T2 X2 e2
  refine o_iloadN X2 hx (hb hby d9_14) (pc' := 15) rfl rfl ?_
  refine o_aaload X2 hx hZ (.ref r2) e2 V_r1 rfl (by decide) (by rfl) (hb hby d9_15) (pc' := 16) rfl ?_
  refine o_aloadN X2 hx (hb hby d9_16) (pc' := 17) rfl rfl rfl ?_
  refine Go.via (fun t k => Jvm.RoadKit.acmp (g := mkF m 17 #[.val (.ref r0), .val (.ref r4), .val (.int (0 : Int32))] [.ref r4, .ref r2]) X2 hx rfl (x := .ref r2) (y := .ref r4) rfl rfl (pc0 := 17) (pc' := 22) (same := false) rfl (hb hby d9_17) rfl (decide_eq_false (fun q => ne_r2_r4 (Value.ref.inj q))) (by decide) (by decide) k) ?_
  show Go p e below _ (T2.setTop (mkF m 22 _ []))
  refine o_iinc X2 hx (hb hby d9_22) (pc' := 25) rfl rfl (v' := (1 : Int32)) (by first | rfl | decide) (L' := #[.val (.ref r0), .val (.ref r4), .val (.int (1 : Int32))]) rfl ?_
  refine o_goto X2 hx (hb hby d9_25) (by decide) (pc' := 2) (by decide) ?_
  refine o_iloadN X2 hx (hb hby d9_2) (pc' := 3) rfl rfl ?_
  refine o_aloadN X2 hx (hb hby d9_3) (pc' := 4) rfl rfl rfl ?_
  refine o_getF X2 hx hZ hown (w 30 _ rfl) e2 F_size_r0 (hb hby d9_4) (pc' := 7) rfl ?_
  intro T3 X3 e3
  refine o_cmpN X3 hx (hb hby d9_7) (tlt (by decide : (1 : Int32) < (2 : Int32))).2.1 (pc' := 10) rfl ?_
  refine o_aloadN X3 hx (hb hby d9_10) (pc' := 11) rfl rfl rfl ?_
  refine o_getF X3 hx hZ hown (w 16 _ rfl) e3 F_elements_r0 (hb hby d9_11) (pc' := 14) rfl ?_
  intro T4 X4 e4
  refine o_iloadN X4 hx (hb hby d9_14) (pc' := 15) rfl rfl ?_
  refine o_aaload X4 hx hZ (.ref r3) e4 V_r1 rfl (by decide) (by rfl) (hb hby d9_15) (pc' := 16) rfl ?_
  refine o_aloadN X4 hx (hb hby d9_16) (pc' := 17) rfl rfl rfl ?_
  refine Go.via (fun t k => Jvm.RoadKit.acmp (g := mkF m 17 #[.val (.ref r0), .val (.ref r4), .val (.int (1 : Int32))] [.ref r4, .ref r3]) X4 hx rfl (x := .ref r3) (y := .ref r4) rfl rfl (pc0 := 17) (pc' := 22) (same := false) rfl (hb hby d9_17) rfl (decide_eq_false (fun q => ne_r3_r4 (Value.ref.inj q))) (by decide) (by decide) k) ?_
  show Go p e below _ (T4.setTop (mkF m 22 _ []))
  refine o_iinc X4 hx (hb hby d9_22) (pc' := 25) rfl rfl (v' := (2 : Int32)) (by first | rfl | decide) (L' := #[.val (.ref r0), .val (.ref r4), .val (.int (2 : Int32))]) rfl ?_
  refine o_goto X4 hx (hb hby d9_25) (by decide) (pc' := 2) (by decide) ?_
  refine o_iloadN X4 hx (hb hby d9_2) (pc' := 3) rfl rfl ?_
  refine o_aloadN X4 hx (hb hby d9_3) (pc' := 4) rfl rfl rfl ?_
  refine o_getF X4 hx hZ hown (w 30 _ rfl) e4 F_size_r0 (hb hby d9_4) (pc' := 7) rfl ?_
  intro T5 X5 e5
  refine o_cmpY X5 hx (hb hby d9_7) (flt (by decide : ¬ ((2 : Int32) < (2 : Int32)))).2.1 (by decide) (pc' := 28) (by decide) ?_
  refine o_iconst X5 hx (-1 : Int32) (hb hby d9_28) (pc' := 29) rfl (by decide) ?_
  rw [← hOWE]
  exact o_retI X5 hx hlk hrt (hb hby d9_29) (by decide) (by decide) (by rw [e5]; exact ⟨rfl, N0, rfl⟩)
theorem ef_6s16 (m : MethodId) (x0 : Addr) (x1 : Int32) : entryFrame m #[(.ref x0), (.int x1)] 8 = mkF m 0 #[.val (.ref x0), .val (.int x1), .unset, .unset, .unset, .unset, .unset, .unset] [] := by first | (simp [entryFrame, mkF, argsToLocals, Value.category]; done) | rfl
def Q6s16 (Z : State) (r0 : Addr) (r1 : Addr) (r2 : Addr) (r3 : Addr) (r4 : Addr) (p0 : Int64) (p1 : Int64) (p2 : Int64) (p3 : Int64) (p4 : Int64) (p5 : Int64) (p6 : Int64) (p7 : Int64) (p8 : Int64) (p9 : Int64) (p10 : Int64) (p11 : Int64) (p12 : Int64) (p13 : Int64) (p14 : Int64) (p15 : Int64) (k_r1 : ClassId) (k_r3 : ClassId) (k_r4 : ClassId) (h0 : Heap) (n0 : Nat) (v : Option Value) (h : Heap) (L : List Loc) : Prop := (v = some (.int (0 : Int32)) ∧ Fr n0 L ∧ Keep h0 h [r0, r1, r3, r4] ∧ Exa Z h r0 cN0 ∧ Fld Z h r0 cN0 "elements" "[Ljava/lang/Object;" (.ref r1) ∧ Fld Z h r0 cN0 "ends" "[J" (.ref r3) ∧ Fld Z h r0 cN0 "orders" "[J" (.ref r4) ∧ Fld Z h r0 cN0 "placed" "Ljava/util/function/ObjIntConsumer;" (.null) ∧ Fld Z h r0 cN0 "size" "I" (.int (1 : Int32)) ∧ Arv Z h r1 k_r1 (.object "java/lang/Object") (8 : Int32) [.ref r2, .ref r2, .null, .null, .null, .null, .null, .null] (.null) ∧ Arv Z h r3 k_r3 .long (8 : Int32) [.long p0, .long p1, .long p2, .long p3, .long p4, .long p5, .long p6, .long p7] (.long (0 : Int64)) ∧ Arv Z h r4 k_r4 .long (8 : Int32) [.long p8, .long p9, .long p10, .long p11, .long p12, .long p13, .long p14, .long p15] (.long (0 : Int64)))
set_option maxRecDepth 65536 in
set_option maxHeartbeats 40000000 in
theorem rm6s16 (l : Launch) (Z : State) (a0 : Array Value) (hw : ∀ d ∈ tables_1, d.before a0 Z = true) (ws : List Jvm.Cond) (r0 : Addr) (r1 : Addr) (r2 : Addr) (r3 : Addr) (r4 : Addr) (p0 : Int64) (p1 : Int64) (p2 : Int64) (p3 : Int64) (p4 : Int64) (p5 : Int64) (p6 : Int64) (p7 : Int64) (p8 : Int64) (p9 : Int64) (p10 : Int64) (p11 : Int64) (p12 : Int64) (p13 : Int64) (p14 : Int64) (p15 : Int64) (k_r1 : ClassId) (k_r3 : ClassId) (k_r4 : ClassId) (h0 : Heap) (n0 : Nat) (Z0 : n0 ≤ h0.size) (E_r0 : Exa Z h0 r0 cN0) (F_elements_r0 : Fld Z h0 r0 cN0 "elements" "[Ljava/lang/Object;" (.ref r1)) (F_ends_r0 : Fld Z h0 r0 cN0 "ends" "[J" (.ref r3)) (F_orders_r0 : Fld Z h0 r0 cN0 "orders" "[J" (.ref r4)) (F_placed_r0 : Fld Z h0 r0 cN0 "placed" "Ljava/util/function/ObjIntConsumer;" (.null)) (F_size_r0 : Fld Z h0 r0 cN0 "size" "I" (.int (1 : Int32))) (g_r0 : n0 ≤ r0) (E_r2 : Exa Z h0 r2 "[I") (V_r1 : Arv Z h0 r1 k_r1 (.object "java/lang/Object") (8 : Int32) [.ref r2, .ref r2, .null, .null, .null, .null, .null, .null] (.null)) (O_r1 : Ovr Z k_r1 "java/lang/Object") (g_r1 : n0 ≤ r1) (V_r3 : Arv Z h0 r3 k_r3 .long (8 : Int32) [.long p0, .long p1, .long p2, .long p3, .long p4, .long p5, .long p6, .long p7] (.long (0 : Int64))) (g_r3 : n0 ≤ r3) (V_r4 : Arv Z h0 r4 k_r4 .long (8 : Int32) [.long p8, .long p9, .long p10, .long p11, .long p12, .long p13, .long p14, .long p15] (.long (0 : Int64))) (g_r4 : n0 ≤ r4) (ne_r0_r1 : r0 ≠ r1) (ne_r0_r2 : r0 ≠ r2) (ne_r1_r2 : r1 ≠ r2) (ne_r0_r3 : r0 ≠ r3) (ne_r1_r3 : r1 ≠ r3) (ne_r2_r3 : r2 ≠ r3) (ne_r0_r4 : r0 ≠ r4) (ne_r1_r4 : r1 ≠ r4) (ne_r2_r4 : r2 ≠ r4) (ne_r3_r4 : r3 ≠ r4) :
    Con l (⟨cN0, "siftUp", "(I)I"⟩ : MethodName) prog_31_method_11_code 8 (some .int) ws ({ frames := 1, cells := 0, slots := 0, locals := 18 } : Room) #[(.ref r0), (.int (0 : Int32))] Z h0 (Q6s16 Z r0 r1 r2 r3 r4 p0 p1 p2 p3 p4 p5 p6 p7 p8 p9 p10 p11 p12 p13 p14 p15 k_r1 k_r3 k_r4 h0 n0) ({ frames := 1, cells := 0, slots := 0, locals := 18 } : Room).cells ({ frames := 1, cells := 0, slots := 0, locals := 18 } : Room).slots := by
  refine own_body (plainFor_of_name pn_2) ?_
  intro p e s m below meth c s₁ hx hby hlk hml hown hnm hrt hZ X0 e0
  have w : ∀ (k : Nat) (d : Jvm.Cond), tables_1[k]? = some d → d.before a0 Z = true := fun k d h => hw d (List.mem_of_getElem? h)
  have N0 := Fr.nil n0
  have K0 := Keep.refl h0 [r0, r1, r3, r4]
  rw [ef_6s16]
  generalize hOWE : Owe s _ _ _ = OWE
  refine o_aloadN X0 hx (hb hby d6_0) (pc' := 1) rfl rfl rfl ?_
  refine o_iloadN X0 hx (hb hby d6_1) (pc' := 2) rfl rfl ?_
  refine o_callP X0 hx hZ 0 (argsL := [.int (0 : Int32)]) (rest := []) (a := r0) hown (w 41 _ rfl) (w 3 _ rfl) (w 43 _ rfl) (w 42 _ rfl) (w 4 _ rfl) (w 44 _ rfl) (by decide) (rm7s4 l Z a0 hw [] _ _ _ _ _ _ _ _ _ _ _ h0 n0 Z0 E_r0 F_elements_r0 E_r2 V_r1 O_r1 ne_r0_r1 ne_r0_r2 ne_r1_r2) E_r0 (by decide) (by decide) (cells' := 0) rfl (slots' := 0) rfl (by decide) (by decide) e0 (by rw [hml]; rfl) (lenOf pd_7 rfl) rfl rfl (hb hby d6_2) (pc' := 5) rfl ?_
  intro T1 v1 L1 X1 hQ1
  obtain ⟨rfl, Nq1, e1⟩ := hQ1
  have N1 := Fr.app N0 Nq1
  show Go p e below _ (T1.setTop (mkF m 5 _ [.ref r2]))
  refine o_astoreN X1 hx (hb hby d6_5) (pc' := 6) rfl (L' := #[.val (.ref r0), .val (.int (0 : Int32)), .val (.ref r2), .unset, .unset, .unset, .unset, .unset]) rfl rfl ?_
  refine o_aloadN X1 hx (hb hby d6_6) (pc' := 7) rfl rfl rfl ?_
  refine o_getF X1 hx hZ hown (w 19 _ rfl) e1 F_ends_r0 (hb hby d6_7) (pc' := 10) rfl ?_
  intro T2 X2 e2
  refine o_iloadN X2 hx (hb hby d6_10) (pc' := 11) rfl rfl ?_
  refine o_laload X2 hx hZ (.long p0) e2 V_r3 (by decide) (by rfl) (hb hby d6_11) (pc' := 12) rfl ?_
  refine o_lstoreN X2 hx (hb hby d6_12) (pc' := 13) rfl (L' := #[.val (.ref r0), .val (.int (0 : Int32)), .val (.ref r2), .val (.long p0), .second, .unset, .unset, .unset]) rfl ?_
  refine o_aloadN X2 hx (hb hby d6_13) (pc' := 14) rfl rfl rfl ?_
  refine o_getF X2 hx hZ hown (w 21 _ rfl) e2 F_orders_r0 (hb hby d6_14) (pc' := 17) rfl ?_
  intro T3 X3 e3
  refine o_iloadN X3 hx (hb hby d6_17) (pc' := 18) rfl rfl ?_
  refine o_laload X3 hx hZ (.long p8) e3 V_r4 (by decide) (by rfl) (hb hby d6_18) (pc' := 19) rfl ?_
  refine o_lstore X3 hx (hb hby d6_19) (pc' := 21) rfl (L' := #[.val (.ref r0), .val (.int (0 : Int32)), .val (.ref r2), .val (.long p0), .second, .val (.long p8), .second, .unset]) rfl ?_
  refine o_iloadN X3 hx (hb hby d6_21) (pc' := 22) rfl rfl ?_
  refine o_ifY X3 hx (hb hby d6_22) (flt (by decide : ¬ ((0 : Int32) < (0 : Int32)))).2.2.2 (by decide) (pc' := 89) (by decide) ?_
  refine o_aloadN X3 hx (hb hby d6_89) (pc' := 90) rfl rfl rfl ?_
  refine o_iloadN X3 hx (hb hby d6_90) (pc' := 91) rfl rfl ?_
  refine o_aloadN X3 hx (hb hby d6_91) (pc' := 92) rfl rfl rfl ?_
  refine o_lloadN X3 hx (hb hby d6_92) (pc' := 93) rfl rfl ?_
  refine o_lload X3 hx (hb hby d6_93) (pc' := 95) rfl rfl ?_
  refine o_callP X3 hx hZ 0 (argsL := [.int (0 : Int32), .ref r2, .long p0, .long p8]) (rest := []) (a := r0) hown (w 32 _ rfl) (w 3 _ rfl) (w 34 _ rfl) (w 33 _ rfl) (w 4 _ rfl) (w 35 _ rfl) (by decide) (rm5s2 l Z a0 hw [] _ _ _ _ _ _ _ _ _ _ _ _ _ _ _ _ _ _ _ _ _ _ _ _ _ _ _ _ _ _ p0 p8 _ _ _ h0 n0 Z0 E_r0 F_elements_r0 F_ends_r0 F_orders_r0 F_placed_r0 F_size_r0 g_r0 E_r2 V_r1 O_r1 g_r1 V_r3 g_r3 V_r4 g_r4 ne_r0_r1 ne_r0_r3 ne_r1_r3 ne_r0_r4 ne_r1_r4 ne_r3_r4 ne_r0_r2 ne_r1_r2 (Ne.symm ne_r2_r3) (Ne.symm ne_r2_r4)) E_r0 (by decide) (by decide) (cells' := 0) rfl (slots' := 0) rfl (by decide) (by decide) e3 (by rw [hml]; rfl) (lenOf pd_6 rfl) rfl rfl (hb hby d6_95) (pc' := 98) rfl ?_
  intro T4 v4 L4 X4 hQ4
  obtain ⟨rfl, Nq4, Kq4, P4_0, P4_1, P4_2, P4_3, P4_4, P4_5, P4_6, P4_7, P4_8⟩ := hQ4
  have N4 := Fr.app N1 Nq4
  have E5_r2 := Exa.keep E_r2 Kq4
  have Z4 : n0 ≤ T4.heap.size := Nat.le_trans Z0 Kq4.1
  have K4 := Keep.trans K0 Kq4 (allS (Or.inl (List.mem_of_getElem? (i := 0) rfl)) (allS (Or.inl (List.mem_of_getElem? (i := 1) rfl)) (allS (Or.inl (List.mem_of_getElem? (i := 2) rfl)) (allS (Or.inl (List.mem_of_getElem? (i := 3) rfl)) all0))))
  show Go p e below _ (T4.setTop (mkF m 98 _ []))
  refine o_iloadN X4 hx (hb hby d6_98) (pc' := 99) rfl rfl ?_
  rw [← hOWE]
  exact o_retI X4 hx hlk hrt (hb hby d6_99) (by decide) (by decide) ⟨rfl, N4, K4, P4_0, P4_1, P4_2, P4_3, P4_4, P4_5, P4_6, P4_7, P4_8⟩
theorem d14_0 : decode prog_31_method_12_code 0 = .ok (.aload_n 0, 1) := by decide +kernel
theorem d14_1 : decode prog_31_method_12_code 1 = .ok (.iload_n 1, 1) := by decide +kernel
theorem d14_2 : decode prog_31_method_12_code 2 = .ok (.invokevirtual 31, 3) := by decide +kernel
theorem d14_5 : decode prog_31_method_12_code 5 = .ok (.astore_n 2, 1) := by decide +kernel
theorem d14_6 : decode prog_31_method_12_code 6 = .ok (.aload_n 0, 1) := by decide +kernel
theorem d14_7 : decode prog_31_method_12_code 7 = .ok (.getfield 13, 3) := by decide +kernel
theorem d14_10 : decode prog_31_method_12_code 10 = .ok (.iload_n 1, 1) := by decide +kernel
theorem d14_11 : decode prog_31_method_12_code 11 = .ok (.laload, 1) := by decide +kernel
theorem d14_12 : decode prog_31_method_12_code 12 = .ok (.lstore_n 3, 1) := by decide +kernel
theorem d14_13 : decode prog_31_method_12_code 13 = .ok (.aload_n 0, 1) := by decide +kernel
theorem d14_14 : decode prog_31_method_12_code 14 = .ok (.getfield 17, 3) := by decide +kernel
theorem d14_17 : decode prog_31_method_12_code 17 = .ok (.iload_n 1, 1) := by decide +kernel
theorem d14_18 : decode prog_31_method_12_code 18 = .ok (.laload, 1) := by decide +kernel
theorem d14_19 : decode prog_31_method_12_code 19 = .ok (.lstore 5, 2) := by decide +kernel
theorem d14_21 : decode prog_31_method_12_code 21 = .ok (.iconst 2, 1) := by decide +kernel
theorem d14_22 : decode prog_31_method_12_code 22 = .ok (.iload_n 1, 1) := by decide +kernel
theorem d14_23 : decode prog_31_method_12_code 23 = .ok (.imul, 1) := by decide +kernel
theorem d14_24 : decode prog_31_method_12_code 24 = .ok (.iconst 1, 1) := by decide +kernel
theorem d14_25 : decode prog_31_method_12_code 25 = .ok (.iadd, 1) := by decide +kernel
theorem d14_26 : decode prog_31_method_12_code 26 = .ok (.istore 7, 2) := by decide +kernel
theorem d14_28 : decode prog_31_method_12_code 28 = .ok (.iload 7, 2) := by decide +kernel
theorem d14_30 : decode prog_31_method_12_code 30 = .ok (.aload_n 0, 1) := by decide +kernel
theorem d14_31 : decode prog_31_method_12_code 31 = .ok (.getfield 27, 3) := by decide +kernel
theorem d14_34 : decode prog_31_method_12_code 34 = .ok (.if_icmp .lt 6, 3) := by decide +kernel
theorem d14_37 : decode prog_31_method_12_code 37 = .ok (.goto 112, 3) := by decide +kernel
theorem d14_40 : decode prog_31_method_12_code 40 = .ok (.iload 7, 2) := by decide +kernel
theorem d14_42 : decode prog_31_method_12_code 42 = .ok (.iconst 1, 1) := by decide +kernel
theorem d14_43 : decode prog_31_method_12_code 43 = .ok (.iadd, 1) := by decide +kernel
theorem d14_44 : decode prog_31_method_12_code 44 = .ok (.aload_n 0, 1) := by decide +kernel
theorem d14_45 : decode prog_31_method_12_code 45 = .ok (.getfield 27, 3) := by decide +kernel
theorem d14_48 : decode prog_31_method_12_code 48 = .ok (.if_icmp .ge 44, 3) := by decide +kernel
theorem d14_51 : decode prog_31_method_12_code 51 = .ok (.aload_n 0, 1) := by decide +kernel
theorem d14_52 : decode prog_31_method_12_code 52 = .ok (.getfield 13, 3) := by decide +kernel
theorem d14_55 : decode prog_31_method_12_code 55 = .ok (.iload 7, 2) := by decide +kernel
theorem d14_57 : decode prog_31_method_12_code 57 = .ok (.iconst 1, 1) := by decide +kernel
theorem d14_58 : decode prog_31_method_12_code 58 = .ok (.iadd, 1) := by decide +kernel
theorem d14_59 : decode prog_31_method_12_code 59 = .ok (.laload, 1) := by decide +kernel
theorem d14_60 : decode prog_31_method_12_code 60 = .ok (.aload_n 0, 1) := by decide +kernel
theorem d14_61 : decode prog_31_method_12_code 61 = .ok (.getfield 17, 3) := by decide +kernel
theorem d14_64 : decode prog_31_method_12_code 64 = .ok (.iload 7, 2) := by decide +kernel
theorem d14_66 : decode prog_31_method_12_code 66 = .ok (.iconst 1, 1) := by decide +kernel
theorem d14_67 : decode prog_31_method_12_code 67 = .ok (.iadd, 1) := by decide +kernel
theorem d14_68 : decode prog_31_method_12_code 68 = .ok (.laload, 1) := by decide +kernel
theorem d14_69 : decode prog_31_method_12_code 69 = .ok (.aload_n 0, 1) := by decide +kernel
theorem d14_70 : decode prog_31_method_12_code 70 = .ok (.getfield 13, 3) := by decide +kernel
theorem d14_73 : decode prog_31_method_12_code 73 = .ok (.iload 7, 2) := by decide +kernel
theorem d14_75 : decode prog_31_method_12_code 75 = .ok (.laload, 1) := by decide +kernel
theorem d14_76 : decode prog_31_method_12_code 76 = .ok (.aload_n 0, 1) := by decide +kernel
theorem d14_77 : decode prog_31_method_12_code 77 = .ok (.getfield 17, 3) := by decide +kernel
theorem d14_80 : decode prog_31_method_12_code 80 = .ok (.iload 7, 2) := by decide +kernel
theorem d14_82 : decode prog_31_method_12_code 82 = .ok (.laload, 1) := by decide +kernel
theorem d14_83 : decode prog_31_method_12_code 83 = .ok (.invokestatic 69, 3) := by decide +kernel
theorem d14_86 : decode prog_31_method_12_code 86 = .ok (.ifCond .eq 6, 3) := by decide +kernel
theorem d14_89 : decode prog_31_method_12_code 89 = .ok (.iinc 7 1, 3) := by decide +kernel
theorem d14_92 : decode prog_31_method_12_code 92 = .ok (.aload_n 0, 1) := by decide +kernel
theorem d14_93 : decode prog_31_method_12_code 93 = .ok (.getfield 13, 3) := by decide +kernel
theorem d14_96 : decode prog_31_method_12_code 96 = .ok (.iload 7, 2) := by decide +kernel
theorem d14_98 : decode prog_31_method_12_code 98 = .ok (.laload, 1) := by decide +kernel
theorem d14_99 : decode prog_31_method_12_code 99 = .ok (.aload_n 0, 1) := by decide +kernel
theorem d14_100 : decode prog_31_method_12_code 100 = .ok (.getfield 17, 3) := by decide +kernel
theorem d14_103 : decode prog_31_method_12_code 103 = .ok (.iload 7, 2) := by decide +kernel
theorem d14_105 : decode prog_31_method_12_code 105 = .ok (.laload, 1) := by decide +kernel
theorem d14_106 : decode prog_31_method_12_code 106 = .ok (.lload_n 3, 1) := by decide +kernel
theorem d14_107 : decode prog_31_method_12_code 107 = .ok (.lload 5, 2) := by decide +kernel
theorem d14_109 : decode prog_31_method_12_code 109 = .ok (.invokestatic 69, 3) := by decide +kernel
theorem d14_112 : decode prog_31_method_12_code 112 = .ok (.ifCond .ne 6, 3) := by decide +kernel
theorem d14_115 : decode prog_31_method_12_code 115 = .ok (.goto 34, 3) := by decide +kernel
theorem d14_118 : decode prog_31_method_12_code 118 = .ok (.aload_n 0, 1) := by decide +kernel
theorem d14_119 : decode prog_31_method_12_code 119 = .ok (.iload_n 1, 1) := by decide +kernel
theorem d14_120 : decode prog_31_method_12_code 120 = .ok (.aload_n 0, 1) := by decide +kernel
theorem d14_121 : decode prog_31_method_12_code 121 = .ok (.iload 7, 2) := by decide +kernel
theorem d14_123 : decode prog_31_method_12_code 123 = .ok (.invokevirtual 31, 3) := by decide +kernel
theorem d14_126 : decode prog_31_method_12_code 126 = .ok (.aload_n 0, 1) := by decide +kernel
theorem d14_127 : decode prog_31_method_12_code 127 = .ok (.getfield 13, 3) := by decide +kernel
theorem d14_130 : decode prog_31_method_12_code 130 = .ok (.iload 7, 2) := by decide +kernel
theorem d14_132 : decode prog_31_method_12_code 132 = .ok (.laload, 1) := by decide +kernel
theorem d14_133 : decode prog_31_method_12_code 133 = .ok (.aload_n 0, 1) := by decide +kernel
theorem d14_134 : decode prog_31_method_12_code 134 = .ok (.getfield 17, 3) := by decide +kernel
theorem d14_137 : decode prog_31_method_12_code 137 = .ok (.iload 7, 2) := by decide +kernel
theorem d14_139 : decode prog_31_method_12_code 139 = .ok (.laload, 1) := by decide +kernel
theorem d14_140 : decode prog_31_method_12_code 140 = .ok (.invokevirtual 44, 3) := by decide +kernel
theorem d14_143 : decode prog_31_method_12_code 143 = .ok (.iload 7, 2) := by decide +kernel
theorem d14_145 : decode prog_31_method_12_code 145 = .ok (.istore_n 1, 1) := by decide +kernel
theorem d14_146 : decode prog_31_method_12_code 146 = .ok (.goto (-125), 3) := by decide +kernel
theorem d14_149 : decode prog_31_method_12_code 149 = .ok (.aload_n 0, 1) := by decide +kernel
theorem d14_150 : decode prog_31_method_12_code 150 = .ok (.iload_n 1, 1) := by decide +kernel
theorem d14_151 : decode prog_31_method_12_code 151 = .ok (.aload_n 2, 1) := by decide +kernel
theorem d14_152 : decode prog_31_method_12_code 152 = .ok (.lload_n 3, 1) := by decide +kernel
theorem d14_153 : decode prog_31_method_12_code 153 = .ok (.lload 5, 2) := by decide +kernel
theorem d14_155 : decode prog_31_method_12_code 155 = .ok (.invokevirtual 44, 3) := by decide +kernel
theorem d14_158 : decode prog_31_method_12_code 158 = .ok (.return_, 1) := by decide +kernel
theorem ef_14s17 (m : MethodId) (x0 : Addr) (x1 : Int32) : entryFrame m #[(.ref x0), (.int x1)] 8 = mkF m 0 #[.val (.ref x0), .val (.int x1), .unset, .unset, .unset, .unset, .unset, .unset] [] := by first | (simp [entryFrame, mkF, argsToLocals, Value.category]; done) | rfl
def Q14s17 (Z : State) (r0 : Addr) (r1 : Addr) (r2 : Addr) (r3 : Addr) (r4 : Addr) (p0 : Int64) (p1 : Int64) (p2 : Int64) (p3 : Int64) (p4 : Int64) (p5 : Int64) (p6 : Int64) (p7 : Int64) (p8 : Int64) (p9 : Int64) (p10 : Int64) (p11 : Int64) (p12 : Int64) (p13 : Int64) (p14 : Int64) (p15 : Int64) (k_r1 : ClassId) (k_r3 : ClassId) (k_r4 : ClassId) (h0 : Heap) (n0 : Nat) (v : Option Value) (h : Heap) (L : List Loc) : Prop := (v = none ∧ Fr n0 L ∧ Keep h0 h [r0, r1, r3, r4] ∧ Exa Z h r0 cN0 ∧ Fld Z h r0 cN0 "elements" "[Ljava/lang/Object;" (.ref r1) ∧ Fld Z h r0 cN0 "ends" "[J" (.ref r3) ∧ Fld Z h r0 cN0 "orders" "[J" (.ref r4) ∧ Fld Z h r0 cN0 "placed" "Ljava/util/function/ObjIntConsumer;" (.null) ∧ Fld Z h r0 cN0 "size" "I" (.int (1 : Int32)) ∧ Arv Z h r1 k_r1 (.object "java/lang/Object") (8 : Int32) [.ref r2, .ref r2, .null, .null, .null, .null, .null, .null] (.null) ∧ Arv Z h r3 k_r3 .long (8 : Int32) [.long p0, .long p1, .long p2, .long p3, .long p4, .long p5, .long p6, .long p7] (.long (0 : Int64)) ∧ Arv Z h r4 k_r4 .long (8 : Int32) [.long p8, .long p9, .long p10, .long p11, .long p12, .long p13, .long p14, .long p15] (.long (0 : Int64)))
set_option maxRecDepth 65536 in
set_option maxHeartbeats 40000000 in
theorem rm14s17 (l : Launch) (Z : State) (a0 : Array Value) (hw : ∀ d ∈ tables_1, d.before a0 Z = true) (ws : List Jvm.Cond) (r0 : Addr) (r1 : Addr) (r2 : Addr) (r3 : Addr) (r4 : Addr) (p0 : Int64) (p1 : Int64) (p2 : Int64) (p3 : Int64) (p4 : Int64) (p5 : Int64) (p6 : Int64) (p7 : Int64) (p8 : Int64) (p9 : Int64) (p10 : Int64) (p11 : Int64) (p12 : Int64) (p13 : Int64) (p14 : Int64) (p15 : Int64) (k_r1 : ClassId) (k_r3 : ClassId) (k_r4 : ClassId) (h0 : Heap) (n0 : Nat) (Z0 : n0 ≤ h0.size) (E_r0 : Exa Z h0 r0 cN0) (F_elements_r0 : Fld Z h0 r0 cN0 "elements" "[Ljava/lang/Object;" (.ref r1)) (F_ends_r0 : Fld Z h0 r0 cN0 "ends" "[J" (.ref r3)) (F_orders_r0 : Fld Z h0 r0 cN0 "orders" "[J" (.ref r4)) (F_placed_r0 : Fld Z h0 r0 cN0 "placed" "Ljava/util/function/ObjIntConsumer;" (.null)) (F_size_r0 : Fld Z h0 r0 cN0 "size" "I" (.int (1 : Int32))) (g_r0 : n0 ≤ r0) (E_r2 : Exa Z h0 r2 "[I") (V_r1 : Arv Z h0 r1 k_r1 (.object "java/lang/Object") (8 : Int32) [.ref r2, .ref r2, .null, .null, .null, .null, .null, .null] (.null)) (O_r1 : Ovr Z k_r1 "java/lang/Object") (g_r1 : n0 ≤ r1) (V_r3 : Arv Z h0 r3 k_r3 .long (8 : Int32) [.long p0, .long p1, .long p2, .long p3, .long p4, .long p5, .long p6, .long p7] (.long (0 : Int64))) (g_r3 : n0 ≤ r3) (V_r4 : Arv Z h0 r4 k_r4 .long (8 : Int32) [.long p8, .long p9, .long p10, .long p11, .long p12, .long p13, .long p14, .long p15] (.long (0 : Int64))) (g_r4 : n0 ≤ r4) (ne_r0_r1 : r0 ≠ r1) (ne_r0_r2 : r0 ≠ r2) (ne_r1_r2 : r1 ≠ r2) (ne_r0_r3 : r0 ≠ r3) (ne_r1_r3 : r1 ≠ r3) (ne_r2_r3 : r2 ≠ r3) (ne_r0_r4 : r0 ≠ r4) (ne_r1_r4 : r1 ≠ r4) (ne_r2_r4 : r2 ≠ r4) (ne_r3_r4 : r3 ≠ r4) :
    Con l (⟨cN0, "siftDown", "(I)V"⟩ : MethodName) prog_31_method_12_code 8 none ws ({ frames := 1, cells := 0, slots := 0, locals := 18 } : Room) #[(.ref r0), (.int (0 : Int32))] Z h0 (Q14s17 Z r0 r1 r2 r3 r4 p0 p1 p2 p3 p4 p5 p6 p7 p8 p9 p10 p11 p12 p13 p14 p15 k_r1 k_r3 k_r4 h0 n0) ({ frames := 1, cells := 0, slots := 0, locals := 18 } : Room).cells ({ frames := 1, cells := 0, slots := 0, locals := 18 } : Room).slots := by
  refine own_body (plainFor_of_name pn_2) ?_
  intro p e s m below meth c s₁ hx hby hlk hml hown hnm hrt hZ X0 e0
  have w : ∀ (k : Nat) (d : Jvm.Cond), tables_1[k]? = some d → d.before a0 Z = true := fun k d h => hw d (List.mem_of_getElem? h)
  have N0 := Fr.nil n0
  have K0 := Keep.refl h0 [r0, r1, r3, r4]
  rw [ef_14s17]
  generalize hOWE : Owe s _ _ _ = OWE
  refine o_aloadN X0 hx (hb hby d14_0) (pc' := 1) rfl rfl rfl ?_
  refine o_iloadN X0 hx (hb hby d14_1) (pc' := 2) rfl rfl ?_
  refine o_callP X0 hx hZ 0 (argsL := [.int (0 : Int32)]) (rest := []) (a := r0) hown (w 41 _ rfl) (w 3 _ rfl) (w 43 _ rfl) (w 42 _ rfl) (w 4 _ rfl) (w 44 _ rfl) (by decide) (rm7s4 l Z a0 hw [] _ _ _ _ _ _ _ _ _ _ _ h0 n0 Z0 E_r0 F_elements_r0 E_r2 V_r1 O_r1 ne_r0_r1 ne_r0_r2 ne_r1_r2) E_r0 (by decide) (by decide) (cells' := 0) rfl (slots' := 0) rfl (by decide) (by decide) e0 (by rw [hml]; rfl) (lenOf pd_7 rfl) rfl rfl (hb hby d14_2) (pc' := 5) rfl ?_
  intro T1 v1 L1 X1 hQ1
  obtain ⟨rfl, Nq1, e1⟩ := hQ1
  have N1 := Fr.app N0 Nq1
  show Go p e below _ (T1.setTop (mkF m 5 _ [.ref r2]))
  refine o_astoreN X1 hx (hb hby d14_5) (pc' := 6) rfl (L' := #[.val (.ref r0), .val (.int (0 : Int32)), .val (.ref r2), .unset, .unset, .unset, .unset, .unset]) rfl rfl ?_
  refine o_aloadN X1 hx (hb hby d14_6) (pc' := 7) rfl rfl rfl ?_
  refine o_getF X1 hx hZ hown (w 19 _ rfl) e1 F_ends_r0 (hb hby d14_7) (pc' := 10) rfl ?_
  intro T2 X2 e2
  refine o_iloadN X2 hx (hb hby d14_10) (pc' := 11) rfl rfl ?_
  refine o_laload X2 hx hZ (.long p0) e2 V_r3 (by decide) (by rfl) (hb hby d14_11) (pc' := 12) rfl ?_
  refine o_lstoreN X2 hx (hb hby d14_12) (pc' := 13) rfl (L' := #[.val (.ref r0), .val (.int (0 : Int32)), .val (.ref r2), .val (.long p0), .second, .unset, .unset, .unset]) rfl ?_
  refine o_aloadN X2 hx (hb hby d14_13) (pc' := 14) rfl rfl rfl ?_
  refine o_getF X2 hx hZ hown (w 21 _ rfl) e2 F_orders_r0 (hb hby d14_14) (pc' := 17) rfl ?_
  intro T3 X3 e3
  refine o_iloadN X3 hx (hb hby d14_17) (pc' := 18) rfl rfl ?_
  refine o_laload X3 hx hZ (.long p8) e3 V_r4 (by decide) (by rfl) (hb hby d14_18) (pc' := 19) rfl ?_
  refine o_lstore X3 hx (hb hby d14_19) (pc' := 21) rfl (L' := #[.val (.ref r0), .val (.int (0 : Int32)), .val (.ref r2), .val (.long p0), .second, .val (.long p8), .second, .unset]) rfl ?_
  refine o_iconst X3 hx (2 : Int32) (hb hby d14_21) (pc' := 22) rfl (by decide) ?_
  refine o_iloadN X3 hx (hb hby d14_22) (pc' := 23) rfl rfl ?_
  refine o_imul X3 hx (hb hby d14_23) (pc' := 24) rfl ?_
  rw [show ((2 : Int32) * (0 : Int32)) = (0 : Int32) from by decide]
  refine o_iconst X3 hx (1 : Int32) (hb hby d14_24) (pc' := 25) rfl (by decide) ?_
  refine o_iadd X3 hx (hb hby d14_25) (pc' := 26) rfl ?_
  rw [show ((0 : Int32) + (1 : Int32)) = (1 : Int32) from by decide]
  refine o_istore X3 hx (hb hby d14_26) (pc' := 28) rfl (L' := #[.val (.ref r0), .val (.int (0 : Int32)), .val (.ref r2), .val (.long p0), .second, .val (.long p8), .second, .val (.int (1 : Int32))]) rfl ?_
  refine o_iload X3 hx (hb hby d14_28) (pc' := 30) rfl rfl ?_
  refine o_aloadN X3 hx (hb hby d14_30) (pc' := 31) rfl rfl rfl ?_
  refine o_getF X3 hx hZ hown (w 30 _ rfl) e3 F_size_r0 (hb hby d14_31) (pc' := 34) rfl ?_
  intro T4 X4 e4
  refine o_cmpN X4 hx (hb hby d14_34) (flt (by decide : ¬ ((1 : Int32) < (1 : Int32)))).1 (pc' := 37) rfl ?_
  refine o_goto X4 hx (hb hby d14_37) (by decide) (pc' := 149) (by decide) ?_
  refine o_aloadN X4 hx (hb hby d14_149) (pc' := 150) rfl rfl rfl ?_
  refine o_iloadN X4 hx (hb hby d14_150) (pc' := 151) rfl rfl ?_
  refine o_aloadN X4 hx (hb hby d14_151) (pc' := 152) rfl rfl rfl ?_
  refine o_lloadN X4 hx (hb hby d14_152) (pc' := 153) rfl rfl ?_
  refine o_lload X4 hx (hb hby d14_153) (pc' := 155) rfl rfl ?_
  refine o_callP X4 hx hZ 0 (argsL := [.int (0 : Int32), .ref r2, .long p0, .long p8]) (rest := []) (a := r0) hown (w 32 _ rfl) (w 3 _ rfl) (w 34 _ rfl) (w 33 _ rfl) (w 4 _ rfl) (w 35 _ rfl) (by decide) (rm5s2 l Z a0 hw [] _ _ _ _ _ _ _ _ _ _ _ _ _ _ _ _ _ _ _ _ _ _ _ _ _ _ _ _ _ _ p0 p8 _ _ _ h0 n0 Z0 E_r0 F_elements_r0 F_ends_r0 F_orders_r0 F_placed_r0 F_size_r0 g_r0 E_r2 V_r1 O_r1 g_r1 V_r3 g_r3 V_r4 g_r4 ne_r0_r1 ne_r0_r3 ne_r1_r3 ne_r0_r4 ne_r1_r4 ne_r3_r4 ne_r0_r2 ne_r1_r2 (Ne.symm ne_r2_r3) (Ne.symm ne_r2_r4)) E_r0 (by decide) (by decide) (cells' := 0) rfl (slots' := 0) rfl (by decide) (by decide) e4 (by rw [hml]; rfl) (lenOf pd_6 rfl) rfl rfl (hb hby d14_155) (pc' := 158) rfl ?_
  intro T5 v5 L5 X5 hQ5
  obtain ⟨rfl, Nq5, Kq5, P5_0, P5_1, P5_2, P5_3, P5_4, P5_5, P5_6, P5_7, P5_8⟩ := hQ5
  have N5 := Fr.app N1 Nq5
  have E6_r2 := Exa.keep E_r2 Kq5
  have Z5 : n0 ≤ T5.heap.size := Nat.le_trans Z0 Kq5.1
  have K5 := Keep.trans K0 Kq5 (allS (Or.inl (List.mem_of_getElem? (i := 0) rfl)) (allS (Or.inl (List.mem_of_getElem? (i := 1) rfl)) (allS (Or.inl (List.mem_of_getElem? (i := 2) rfl)) (allS (Or.inl (List.mem_of_getElem? (i := 3) rfl)) all0))))
  show Go p e below _ (T5.setTop (mkF m 158 _ []))
  rw [← hOWE]
  exact o_retV X5 hx hlk hrt (hb hby d14_158) (by decide) (by decide) ⟨rfl, N5, K5, P5_0, P5_1, P5_2, P5_3, P5_4, P5_5, P5_6, P5_7, P5_8⟩
theorem ef_13s15 (m : MethodId) (x0 : Addr) (x1 : Int32) : entryFrame m #[(.ref x0), (.int x1)] 3 = mkF m 0 #[.val (.ref x0), .val (.int x1), .unset] [] := by first | (simp [entryFrame, mkF, argsToLocals, Value.category]; done) | rfl
def Q13s15 (Z : State) (r0 : Addr) (r1 : Addr) (r2 : Addr) (r3 : Addr) (r4 : Addr) (r5 : Addr) (p0 : Int64) (p1 : Int64) (p2 : Int64) (p3 : Int64) (p4 : Int64) (p5 : Int64) (p6 : Int64) (p7 : Int64) (p8 : Int64) (p9 : Int64) (p10 : Int64) (p11 : Int64) (p12 : Int64) (p13 : Int64) (p14 : Int64) (p15 : Int64) (k_r1 : ClassId) (k_r4 : ClassId) (k_r5 : ClassId) (h0 : Heap) (n0 : Nat) (v : Option Value) (h : Heap) (L : List Loc) : Prop := (v = none ∧ Fr n0 L ∧ Keep h0 h [r0, r1, r4, r5] ∧ Exa Z h r0 cN0 ∧ Fld Z h r0 cN0 "elements" "[Ljava/lang/Object;" (.ref r1) ∧ Fld Z h r0 cN0 "ends" "[J" (.ref r4) ∧ Fld Z h r0 cN0 "orders" "[J" (.ref r5) ∧ Fld Z h r0 cN0 "placed" "Ljava/util/function/ObjIntConsumer;" (.null) ∧ Fld Z h r0 cN0 "size" "I" (.int (1 : Int32)) ∧ Arv Z h r1 k_r1 (.object "java/lang/Object") (8 : Int32) [.ref r3, .null, .null, .null, .null, .null, .null, .null] (.null) ∧ Arv Z h r4 k_r4 .long (8 : Int32) [.long p1, .long p1, .long p2, .long p3, .long p4, .long p5, .long p6, .long p7] (.long (0 : Int64)) ∧ Arv Z h r5 k_r5 .long (8 : Int32) [.long p9, .long p9, .long p10, .long p11, .long p12, .long p13, .long p14, .long p15] (.long (0 : Int64)))
set_option maxRecDepth 65536 in
set_option maxHeartbeats 40000000 in
theorem rm13s15 (l : Launch) (Z : State) (a0 : Array Value) (hw : ∀ d ∈ tables_1, d.before a0 Z = true) (ws : List Jvm.Cond) (r0 : Addr) (r1 : Addr) (r2 : Addr) (r3 : Addr) (r4 : Addr) (r5 : Addr) (p0 : Int64) (p1 : Int64) (p2 : Int64) (p3 : Int64) (p4 : Int64) (p5 : Int64) (p6 : Int64) (p7 : Int64) (p8 : Int64) (p9 : Int64) (p10 : Int64) (p11 : Int64) (p12 : Int64) (p13 : Int64) (p14 : Int64) (p15 : Int64) (k_r1 : ClassId) (k_r4 : ClassId) (k_r5 : ClassId) (h0 : Heap) (n0 : Nat) (Z0 : n0 ≤ h0.size) (E_r0 : Exa Z h0 r0 cN0) (F_elements_r0 : Fld Z h0 r0 cN0 "elements" "[Ljava/lang/Object;" (.ref r1)) (F_ends_r0 : Fld Z h0 r0 cN0 "ends" "[J" (.ref r4)) (F_orders_r0 : Fld Z h0 r0 cN0 "orders" "[J" (.ref r5)) (F_placed_r0 : Fld Z h0 r0 cN0 "placed" "Ljava/util/function/ObjIntConsumer;" (.null)) (F_size_r0 : Fld Z h0 r0 cN0 "size" "I" (.int (2 : Int32))) (g_r0 : n0 ≤ r0) (E_r2 : Exa Z h0 r2 "[I") (E_r3 : Exa Z h0 r3 "[I") (V_r1 : Arv Z h0 r1 k_r1 (.object "java/lang/Object") (8 : Int32) [.ref r2, .ref r3, .null, .null, .null, .null, .null, .null] (.null)) (O_r1 : Ovr Z k_r1 "java/lang/Object") (g_r1 : n0 ≤ r1) (V_r4 : Arv Z h0 r4 k_r4 .long (8 : Int32) [.long p0, .long p1, .long p2, .long p3, .long p4, .long p5, .long p6, .long p7] (.long (0 : Int64))) (g_r4 : n0 ≤ r4) (V_r5 : Arv Z h0 r5 k_r5 .long (8 : Int32) [.long p8, .long p9, .long p10, .long p11, .long p12, .long p13, .long p14, .long p15] (.long (0 : Int64))) (g_r5 : n0 ≤ r5) (ne_r0_r1 : r0 ≠ r1) (ne_r0_r2 : r0 ≠ r2) (ne_r1_r2 : r1 ≠ r2) (ne_r0_r3 : r0 ≠ r3) (ne_r1_r3 : r1 ≠ r3) (ne_r2_r3 : r2 ≠ r3) (ne_r0_r4 : r0 ≠ r4) (ne_r1_r4 : r1 ≠ r4) (ne_r2_r4 : r2 ≠ r4) (ne_r3_r4 : r3 ≠ r4) (ne_r0_r5 : r0 ≠ r5) (ne_r1_r5 : r1 ≠ r5) (ne_r2_r5 : r2 ≠ r5) (ne_r3_r5 : r3 ≠ r5) (ne_r4_r5 : r4 ≠ r5) :
    Con l (⟨cN0, "removeAt", "(I)V"⟩ : MethodName) prog_31_method_9_code 3 none ws ({ frames := 2, cells := 0, slots := 0, locals := 38 } : Room) #[(.ref r0), (.int (0 : Int32))] Z h0 (Q13s15 Z r0 r1 r2 r3 r4 r5 p0 p1 p2 p3 p4 p5 p6 p7 p8 p9 p10 p11 p12 p13 p14 p15 k_r1 k_r4 k_r5 h0 n0) ({ frames := 2, cells := 0, slots := 0, locals := 38 } : Room).cells ({ frames := 2, cells := 0, slots := 0, locals := 38 } : Room).slots := by
  refine own_body (plainFor_of_name pn_2) ?_
  intro p e s m below meth c s₁ hx hby hlk hml hown hnm hrt hZ X0 e0
  have w : ∀ (k : Nat) (d : Jvm.Cond), tables_1[k]? = some d → d.before a0 Z = true := fun k d h => hw d (List.mem_of_getElem? h)
  have N0 := Fr.nil n0
  have K0 := Keep.refl h0 [r0, r1, r4, r5]
  rw [ef_13s15]
  generalize hOWE : Owe s _ _ _ = OWE
  refine o_aloadN X0 hx (hb hby d13_0) (pc' := 1) rfl rfl rfl ?_
  refine o_iloadN X0 hx (hb hby d13_1) (pc' := 2) rfl rfl ?_
  refine o_callP X0 hx hZ 0 (argsL := [.int (0 : Int32)]) (rest := []) (a := r0) hown (w 41 _ rfl) (w 3 _ rfl) (w 43 _ rfl) (w 42 _ rfl) (w 4 _ rfl) (w 44 _ rfl) (by decide) (rm7s4 l Z a0 hw [] _ _ _ _ _ _ _ _ _ _ _ h0 n0 Z0 E_r0 F_elements_r0 E_r2 V_r1 O_r1 ne_r0_r1 ne_r0_r2 ne_r1_r2) E_r0 (by decide) (by decide) (cells' := 0) rfl (slots' := 0) rfl (by decide) (by decide) e0 (by rw [hml]; rfl) (lenOf pd_7 rfl) rfl rfl (hb hby d13_2) (pc' := 5) rfl ?_
  intro T1 v1 L1 X1 hQ1
  obtain ⟨rfl, Nq1, e1⟩ := hQ1
  have N1 := Fr.app N0 Nq1
  show Go p e below _ (T1.setTop (mkF m 5 _ [.ref r2]))
  refine o_astoreN X1 hx (hb hby d13_5) (pc' := 6) rfl (L' := #[.val (.ref r0), .val (.int (0 : Int32)), .val (.ref r2)]) rfl rfl ?_
  refine o_aloadN X1 hx (hb hby d13_6) (pc' := 7) rfl rfl rfl ?_
  refine o_dup X1 hx (hb hby d13_7) (pc' := 8) rfl rfl ?_
  refine o_getF X1 hx hZ hown (w 30 _ rfl) e1 F_size_r0 (hb hby d13_8) (pc' := 11) rfl ?_
  intro T2 X2 e2
  refine o_iconst X2 hx (1 : Int32) (hb hby d13_11) (pc' := 12) rfl (by decide) ?_
  refine o_isub X2 hx (hb hby d13_12) (pc' := 13) rfl ?_
  rw [show ((2 : Int32) - (1 : Int32)) = (1 : Int32) from by decide]
  refine o_putF X2 hx hZ hown (w 30 _ rfl) e2 F_size_r0 E_r0 (Or.inl (w 31 _ rfl)) (w 3 _ rfl) (ty := .int) (by decide) rfl rfl (hb hby d13_13) (pc' := 16) rfl ?_
  intro T3 h3 X3 e3 W3
  have Fw3 := Fld.same W3 F_size_r0
  have E4_r0 := Exa.wr W3 E_r0
  have F4_r0_elements := Fld.other W3 F_elements_r0 (Or.inr (slot_ne (C := cN0) (a0 := a0) (Or.inl (w 17 _ rfl)) (Or.inl (w 31 _ rfl)) (by decide) (t := (.array (.object "java/lang/Object"))) (t' := .int) (by decide) (by decide)))
  have F4_r0_ends := Fld.other W3 F_ends_r0 (Or.inr (slot_ne (C := cN0) (a0 := a0) (Or.inl (w 20 _ rfl)) (Or.inl (w 31 _ rfl)) (by decide) (t := (.array .long)) (t' := .int) (by decide) (by decide)))
  have F4_r0_orders := Fld.other W3 F_orders_r0 (Or.inr (slot_ne (C := cN0) (a0 := a0) (Or.inl (w 22 _ rfl)) (Or.inl (w 31 _ rfl)) (by decide) (t := (.array .long)) (t' := .int) (by decide) (by decide)))
  have F4_r0_placed := Fld.other W3 F_placed_r0 (Or.inr (slot_ne (C := cN0) (a0 := a0) (Or.inr (w 24 _ rfl)) (Or.inl (w 31 _ rfl)) (by decide) (t := (.object "java/util/function/ObjIntConsumer")) (t' := .int) (by decide) (by decide)))
  have E4_r2 := Exa.wr W3 E_r2
  have E4_r3 := Exa.wr W3 E_r3
  have V4_r1 := Arv.other V_r1 W3 (Ne.symm ne_r0_r1)
  have V4_r4 := Arv.other V_r4 W3 (Ne.symm ne_r0_r4)
  have V4_r5 := Arv.other V_r5 W3 (Ne.symm ne_r0_r5)
  have N3 := Fr.snoc X3 N1 g_r0
  have Z3 : n0 ≤ h3.size := by rw [W3.size]; exact Z0
  have K3 := Keep.wr K0 W3 (Or.inl (List.mem_of_getElem? (i := 0) rfl))
  refine o_iloadN X3 hx (hb hby d13_16) (pc' := 17) rfl rfl ?_
  refine o_aloadN X3 hx (hb hby d13_17) (pc' := 18) rfl rfl rfl ?_
  refine o_getF X3 hx hZ hown (w 30 _ rfl) e3 Fw3 (hb hby d13_18) (pc' := 21) rfl ?_
  intro T5 X5 e5
  refine o_cmpN X5 hx (hb hby d13_21) (tlt (by decide : (0 : Int32) < (1 : Int32))).2.1 (pc' := 24) rfl ?_
  refine o_aloadN X5 hx (hb hby d13_24) (pc' := 25) rfl rfl rfl ?_
  refine o_iloadN X5 hx (hb hby d13_25) (pc' := 26) rfl rfl ?_
  refine o_aloadN X5 hx (hb hby d13_26) (pc' := 27) rfl rfl rfl ?_
  refine o_aloadN X5 hx (hb hby d13_27) (pc' := 28) rfl rfl rfl ?_
  refine o_getF X5 hx hZ hown (w 30 _ rfl) e5 Fw3 (hb hby d13_28) (pc' := 31) rfl ?_
  intro T6 X6 e6
  refine o_callP X6 hx hZ 2 (argsL := [.int (1 : Int32)]) (rest := [.int (0 : Int32), .ref r0]) (a := r0) hown (w 41 _ rfl) (w 3 _ rfl) (w 43 _ rfl) (w 42 _ rfl) (w 4 _ rfl) (w 44 _ rfl) (by decide) (rm7s11 l Z a0 hw [] _ _ _ _ _ _ _ _ _ _ _ h3 n0 Z3 E4_r0 F4_r0_elements E4_r3 V4_r1 O_r1 ne_r0_r1 ne_r0_r3 ne_r1_r3) E4_r0 (by decide) (by decide) (cells' := 0) rfl (slots' := 0) rfl (by decide) (by decide) e6 (by rw [hml]; rfl) (lenOf pd_7 rfl) rfl rfl (hb hby d13_31) (pc' := 34) rfl ?_
  intro T7 v7 L7 X7 hQ7
  obtain ⟨rfl, Nq7, e7⟩ := hQ7
  have N7 := Fr.app N3 Nq7
  show Go p e below _ (T7.setTop (mkF m 34 _ [.ref r3, .int (0 : Int32), .ref r0]))
  refine o_aloadN X7 hx (hb hby d13_34) (pc' := 35) rfl rfl rfl ?_
  refine o_getF X7 hx hZ hown (w 19 _ rfl) e7 F4_r0_ends (hb hby d13_35) (pc' := 38) rfl ?_
  intro T8 X8 e8
  refine o_aloadN X8 hx (hb hby d13_38) (pc' := 39) rfl rfl rfl ?_
  refine o_getF X8 hx hZ hown (w 30 _ rfl) e8 Fw3 (hb hby d13_39) (pc' := 42) rfl ?_
  intro T9 X9 e9
  refine o_laload X9 hx hZ (.long p1) e9 V4_r4 (by decide) (by rfl) (hb hby d13_42) (pc' := 43) rfl ?_
  refine o_aloadN X9 hx (hb hby d13_43) (pc' := 44) rfl rfl rfl ?_
  refine o_getF X9 hx hZ hown (w 21 _ rfl) e9 F4_r0_orders (hb hby d13_44) (pc' := 47) rfl ?_
  intro T10 X10 e10
  refine o_aloadN X10 hx (hb hby d13_47) (pc' := 48) rfl rfl rfl ?_
  refine o_getF X10 hx hZ hown (w 30 _ rfl) e10 Fw3 (hb hby d13_48) (pc' := 51) rfl ?_
  intro T11 X11 e11
  refine o_laload X11 hx hZ (.long p9) e11 V4_r5 (by decide) (by rfl) (hb hby d13_51) (pc' := 52) rfl ?_
  refine o_callP X11 hx hZ 0 (argsL := [.int (0 : Int32), .ref r3, .long p1, .long p9]) (rest := []) (a := r0) hown (w 32 _ rfl) (w 3 _ rfl) (w 34 _ rfl) (w 33 _ rfl) (w 4 _ rfl) (w 35 _ rfl) (by decide) (rm5s2 l Z a0 hw [] _ _ _ _ _ _ _ _ _ _ _ _ _ _ _ _ _ _ _ _ _ _ _ _ _ _ _ _ _ _ p1 p9 _ _ _ h3 n0 Z3 E4_r0 F4_r0_elements F4_r0_ends F4_r0_orders F4_r0_placed Fw3 g_r0 E4_r3 V4_r1 O_r1 g_r1 V4_r4 g_r4 V4_r5 g_r5 ne_r0_r1 ne_r0_r4 ne_r1_r4 ne_r0_r5 ne_r1_r5 ne_r4_r5 ne_r0_r3 ne_r1_r3 (Ne.symm ne_r3_r4) (Ne.symm ne_r3_r5)) E4_r0 (by decide) (by decide) (cells' := 0) rfl (slots' := 0) rfl (by decide) (by decide) e11 (by rw [hml]; rfl) (lenOf pd_6 rfl) rfl rfl (hb hby d13_52) (pc' := 55) rfl ?_
  intro T12 v12 L12 X12 hQ12
  obtain ⟨rfl, Nq12, Kq12, P12_0, P12_1, P12_2, P12_3, P12_4, P12_5, P12_6, P12_7, P12_8⟩ := hQ12
  have N12 := Fr.app N7 Nq12
  have E13_r2 := Exa.keep E4_r2 Kq12
  have E13_r3 := Exa.keep E4_r3 Kq12
  have Z12 : n0 ≤ T12.heap.size := Nat.le_trans Z3 Kq12.1
  have K12 := Keep.trans K3 Kq12 (allS (Or.inl (List.mem_of_getElem? (i := 0) rfl)) (allS (Or.inl (List.mem_of_getElem? (i := 1) rfl)) (allS (Or.inl (List.mem_of_getElem? (i := 2) rfl)) (allS (Or.inl (List.mem_of_getElem? (i := 3) rfl)) all0))))
  show Go p e below _ (T12.setTop (mkF m 55 _ []))
  refine o_aloadN X12 hx (hb hby d13_55) (pc' := 56) rfl rfl rfl ?_
  refine o_aloadN X12 hx (hb hby d13_56) (pc' := 57) rfl rfl rfl ?_
  refine o_iloadN X12 hx (hb hby d13_57) (pc' := 58) rfl rfl ?_
  refine o_callP X12 hx hZ 1 (argsL := [.int (0 : Int32)]) (rest := [.ref r0]) (a := r0) hown (w 37 _ rfl) (w 3 _ rfl) (w 39 _ rfl) (w 38 _ rfl) (w 4 _ rfl) (w 40 _ rfl) (by decide) (rm6s16 l Z a0 hw [] _ _ _ _ _ _ _ _ _ _ _ _ _ _ _ _ _ _ _ _ _ _ _ _ T12.heap n0 Z12 P12_0 P12_1 P12_2 P12_3 P12_4 P12_5 g_r0 E13_r3 P12_6 O_r1 g_r1 P12_7 g_r4 P12_8 g_r5 ne_r0_r1 ne_r0_r3 ne_r1_r3 ne_r0_r4 ne_r1_r4 ne_r3_r4 ne_r0_r5 ne_r1_r5 ne_r3_r5 ne_r4_r5) P12_0 (by decide) (by decide) (cells' := 0) rfl (slots' := 0) rfl (by decide) (by decide) rfl (by rw [hml]; rfl) (lenOf pd_8 rfl) rfl rfl (hb hby d13_58) (pc' := 61) rfl ?_
  intro T14 v14 L14 X14 hQ14
  obtain ⟨rfl, Nq14, Kq14, P14_0, P14_1, P14_2, P14_3, P14_4, P14_5, P14_6, P14_7, P14_8⟩ := hQ14
  have N14 := Fr.app N12 Nq14
  have E15_r2 := Exa.keep E13_r2 Kq14
  have E15_r3 := Exa.keep E13_r3 Kq14
  have Z14 : n0 ≤ T14.heap.size := Nat.le_trans Z12 Kq14.1
  have K14 := Keep.trans K12 Kq14 (allS (Or.inl (List.mem_of_getElem? (i := 0) rfl)) (allS (Or.inl (List.mem_of_getElem? (i := 1) rfl)) (allS (Or.inl (List.mem_of_getElem? (i := 2) rfl)) (allS (Or.inl (List.mem_of_getElem? (i := 3) rfl)) all0))))
  show Go p e below _ (T14.setTop (mkF m 61 _ [.int (0 : Int32), .ref r0]))
  refine o_callP X14 hx hZ 0 (argsL := [.int (0 : Int32)]) (rest := []) (a := r0) hown (w 68 _ rfl) (w 3 _ rfl) (w 70 _ rfl) (w 69 _ rfl) (w 4 _ rfl) (w 71 _ rfl) (by decide) (rm14s17 l Z a0 hw [] _ _ _ _ _ _ _ _ _ _ _ _ _ _ _ _ _ _ _ _ _ _ _ _ T14.heap n0 Z14 P14_0 P14_1 P14_2 P14_3 P14_4 P14_5 g_r0 E15_r3 P14_6 O_r1 g_r1 P14_7 g_r4 P14_8 g_r5 ne_r0_r1 ne_r0_r3 ne_r1_r3 ne_r0_r4 ne_r1_r4 ne_r3_r4 ne_r0_r5 ne_r1_r5 ne_r3_r5 ne_r4_r5) P14_0 (by decide) (by decide) (cells' := 0) rfl (slots' := 0) rfl (by decide) (by decide) rfl (by rw [hml]; rfl) (lenOf pd_10 rfl) rfl rfl (hb hby d13_61) (pc' := 64) rfl ?_
  intro T16 v16 L16 X16 hQ16
  obtain ⟨rfl, Nq16, Kq16, P16_0, P16_1, P16_2, P16_3, P16_4, P16_5, P16_6, P16_7, P16_8⟩ := hQ16
  have N16 := Fr.app N14 Nq16
  have E17_r2 := Exa.keep E15_r2 Kq16
  have E17_r3 := Exa.keep E15_r3 Kq16
  have Z16 : n0 ≤ T16.heap.size := Nat.le_trans Z14 Kq16.1
  have K16 := Keep.trans K14 Kq16 (allS (Or.inl (List.mem_of_getElem? (i := 0) rfl)) (allS (Or.inl (List.mem_of_getElem? (i := 1) rfl)) (allS (Or.inl (List.mem_of_getElem? (i := 2) rfl)) (allS (Or.inl (List.mem_of_getElem? (i := 3) rfl)) all0))))
  show Go p e below _ (T16.setTop (mkF m 64 _ []))
  refine o_aloadN X16 hx (hb hby d13_64) (pc' := 65) rfl rfl rfl ?_
  refine o_getF X16 hx hZ hown (w 16 _ rfl) rfl P16_1 (hb hby d13_65) (pc' := 68) rfl ?_
  intro T18 X18 e18
  refine o_aloadN X18 hx (hb hby d13_68) (pc' := 69) rfl rfl rfl ?_
  refine o_getF X18 hx hZ hown (w 30 _ rfl) e18 P16_5 (hb hby d13_69) (pc' := 72) rfl ?_
  intro T19 X19 e19
  refine o_aconst_null X19 hx (hb hby d13_72) (pc' := 73) rfl ?_
  refine o_aastore X19 hx hZ 1 e19 P16_6 rfl (fun cl A q => Or.inl rfl) (by decide) (by decide) (by exact (by decide : 1 < 8)) rfl (vs' := [.ref r3, .null, .null, .null, .null, .null, .null, .null]) rfl (hb hby d13_73) (pc' := 74) rfl ?_
  intro T20 h20 X20 e20 W20 V20_
  have E21_r0 := Exa.wr W20 P16_0
  have F21_r0_elements := Fld.other W20 P16_1 (Or.inl ne_r0_r1)
  have F21_r0_ends := Fld.other W20 P16_2 (Or.inl ne_r0_r1)
  have F21_r0_orders := Fld.other W20 P16_3 (Or.inl ne_r0_r1)
  have F21_r0_placed := Fld.other W20 P16_4 (Or.inl ne_r0_r1)
  have F21_r0_size := Fld.other W20 P16_5 (Or.inl ne_r0_r1)
  have E21_r2 := Exa.wr W20 E17_r2
  have E21_r3 := Exa.wr W20 E17_r3
  have V21_r4 := Arv.other P16_7 W20 (Ne.symm ne_r1_r4)
  have V21_r5 := Arv.other P16_8 W20 (Ne.symm ne_r1_r5)
  have N20 := Fr.snoc X20 N16 g_r1
  have Z20 : n0 ≤ h20.size := by rw [W20.size]; exact Z16
  have K20 := Keep.wr K16 W20 (Or.inl (List.mem_of_getElem? (i := 1) rfl))
  refine o_aloadN X20 hx (hb hby d13_74) (pc' := 75) rfl rfl rfl ?_
  refine o_getF X20 hx hZ hown (w 23 _ rfl) e20 F21_r0_placed (hb hby d13_75) (pc' := 78) rfl ?_
  intro T22 X22 e22
  refine Go.via (fun t k => XS.ifnullYes X22.here hx rfl (pc0 := 78) (pc' := 92) rfl (hb hby d13_78) rfl (by decide) (by decide) k) ?_
  show Go p e below _ (T22.setTop (mkF m 92 _ []))
  rw [← hOWE]
  exact o_retV X22 hx hlk hrt (hb hby d13_92) (by decide) (by decide) (by rw [e22]; exact ⟨rfl, N20, K20, E21_r0, F21_r0_elements, F21_r0_ends, F21_r0_orders, F21_r0_placed, F21_r0_size, V20_, V21_r4, V21_r5⟩)
theorem ef_13s18 (m : MethodId) (x0 : Addr) (x1 : Int32) : entryFrame m #[(.ref x0), (.int x1)] 3 = mkF m 0 #[.val (.ref x0), .val (.int x1), .unset] [] := by first | (simp [entryFrame, mkF, argsToLocals, Value.category]; done) | rfl
def Q13s18 (Z : State) (r0 : Addr) (r1 : Addr) (r2 : Addr) (r3 : Addr) (r4 : Addr) (r5 : Addr) (p0 : Int64) (p1 : Int64) (p2 : Int64) (p3 : Int64) (p4 : Int64) (p5 : Int64) (p6 : Int64) (p7 : Int64) (p8 : Int64) (p9 : Int64) (p10 : Int64) (p11 : Int64) (p12 : Int64) (p13 : Int64) (p14 : Int64) (p15 : Int64) (k_r1 : ClassId) (k_r4 : ClassId) (k_r5 : ClassId) (h0 : Heap) (n0 : Nat) (v : Option Value) (h : Heap) (L : List Loc) : Prop := (v = none ∧ Fr n0 L ∧ Keep h0 h [r0, r1, r4, r5] ∧ Exa Z h r0 cN0 ∧ Fld Z h r0 cN0 "elements" "[Ljava/lang/Object;" (.ref r1) ∧ Fld Z h r0 cN0 "ends" "[J" (.ref r4) ∧ Fld Z h r0 cN0 "orders" "[J" (.ref r5) ∧ Fld Z h r0 cN0 "placed" "Ljava/util/function/ObjIntConsumer;" (.null) ∧ Fld Z h r0 cN0 "size" "I" (.int (1 : Int32)) ∧ Arv Z h r1 k_r1 (.object "java/lang/Object") (8 : Int32) [.ref r2, .null, .null, .null, .null, .null, .null, .null] (.null) ∧ Arv Z h r4 k_r4 .long (8 : Int32) [.long p0, .long p1, .long p2, .long p3, .long p4, .long p5, .long p6, .long p7] (.long (0 : Int64)) ∧ Arv Z h r5 k_r5 .long (8 : Int32) [.long p8, .long p9, .long p10, .long p11, .long p12, .long p13, .long p14, .long p15] (.long (0 : Int64)))
set_option maxRecDepth 65536 in
set_option maxHeartbeats 40000000 in
theorem rm13s18 (l : Launch) (Z : State) (a0 : Array Value) (hw : ∀ d ∈ tables_1, d.before a0 Z = true) (ws : List Jvm.Cond) (r0 : Addr) (r1 : Addr) (r2 : Addr) (r3 : Addr) (r4 : Addr) (r5 : Addr) (p0 : Int64) (p1 : Int64) (p2 : Int64) (p3 : Int64) (p4 : Int64) (p5 : Int64) (p6 : Int64) (p7 : Int64) (p8 : Int64) (p9 : Int64) (p10 : Int64) (p11 : Int64) (p12 : Int64) (p13 : Int64) (p14 : Int64) (p15 : Int64) (k_r1 : ClassId) (k_r4 : ClassId) (k_r5 : ClassId) (h0 : Heap) (n0 : Nat) (Z0 : n0 ≤ h0.size) (E_r0 : Exa Z h0 r0 cN0) (F_elements_r0 : Fld Z h0 r0 cN0 "elements" "[Ljava/lang/Object;" (.ref r1)) (F_ends_r0 : Fld Z h0 r0 cN0 "ends" "[J" (.ref r4)) (F_orders_r0 : Fld Z h0 r0 cN0 "orders" "[J" (.ref r5)) (F_placed_r0 : Fld Z h0 r0 cN0 "placed" "Ljava/util/function/ObjIntConsumer;" (.null)) (F_size_r0 : Fld Z h0 r0 cN0 "size" "I" (.int (2 : Int32))) (g_r0 : n0 ≤ r0) (E_r2 : Exa Z h0 r2 "[I") (E_r3 : Exa Z h0 r3 "[I") (V_r1 : Arv Z h0 r1 k_r1 (.object "java/lang/Object") (8 : Int32) [.ref r2, .ref r3, .null, .null, .null, .null, .null, .null] (.null)) (O_r1 : Ovr Z k_r1 "java/lang/Object") (g_r1 : n0 ≤ r1) (V_r4 : Arv Z h0 r4 k_r4 .long (8 : Int32) [.long p0, .long p1, .long p2, .long p3, .long p4, .long p5, .long p6, .long p7] (.long (0 : Int64))) (g_r4 : n0 ≤ r4) (V_r5 : Arv Z h0 r5 k_r5 .long (8 : Int32) [.long p8, .long p9, .long p10, .long p11, .long p12, .long p13, .long p14, .long p15] (.long (0 : Int64))) (g_r5 : n0 ≤ r5) (ne_r0_r1 : r0 ≠ r1) (ne_r0_r2 : r0 ≠ r2) (ne_r1_r2 : r1 ≠ r2) (ne_r0_r3 : r0 ≠ r3) (ne_r1_r3 : r1 ≠ r3) (ne_r2_r3 : r2 ≠ r3) (ne_r0_r4 : r0 ≠ r4) (ne_r1_r4 : r1 ≠ r4) (ne_r2_r4 : r2 ≠ r4) (ne_r3_r4 : r3 ≠ r4) (ne_r0_r5 : r0 ≠ r5) (ne_r1_r5 : r1 ≠ r5) (ne_r2_r5 : r2 ≠ r5) (ne_r3_r5 : r3 ≠ r5) (ne_r4_r5 : r4 ≠ r5) :
    Con l (⟨cN0, "removeAt", "(I)V"⟩ : MethodName) prog_31_method_9_code 3 none ws ({ frames := 1, cells := 0, slots := 0, locals := 13 } : Room) #[(.ref r0), (.int (1 : Int32))] Z h0 (Q13s18 Z r0 r1 r2 r3 r4 r5 p0 p1 p2 p3 p4 p5 p6 p7 p8 p9 p10 p11 p12 p13 p14 p15 k_r1 k_r4 k_r5 h0 n0) ({ frames := 1, cells := 0, slots := 0, locals := 13 } : Room).cells ({ frames := 1, cells := 0, slots := 0, locals := 13 } : Room).slots := by
  refine own_body (plainFor_of_name pn_2) ?_
  intro p e s m below meth c s₁ hx hby hlk hml hown hnm hrt hZ X0 e0
  have w : ∀ (k : Nat) (d : Jvm.Cond), tables_1[k]? = some d → d.before a0 Z = true := fun k d h => hw d (List.mem_of_getElem? h)
  have N0 := Fr.nil n0
  have K0 := Keep.refl h0 [r0, r1, r4, r5]
  rw [ef_13s18]
  generalize hOWE : Owe s _ _ _ = OWE
  refine o_aloadN X0 hx (hb hby d13_0) (pc' := 1) rfl rfl rfl ?_
  refine o_iloadN X0 hx (hb hby d13_1) (pc' := 2) rfl rfl ?_
  refine o_callP X0 hx hZ 0 (argsL := [.int (1 : Int32)]) (rest := []) (a := r0) hown (w 41 _ rfl) (w 3 _ rfl) (w 43 _ rfl) (w 42 _ rfl) (w 4 _ rfl) (w 44 _ rfl) (by decide) (rm7s11 l Z a0 hw [] _ _ _ _ _ _ _ _ _ _ _ h0 n0 Z0 E_r0 F_elements_r0 E_r3 V_r1 O_r1 ne_r0_r1 ne_r0_r3 ne_r1_r3) E_r0 (by decide) (by decide) (cells' := 0) rfl (slots' := 0) rfl (by decide) (by decide) e0 (by rw [hml]; rfl) (lenOf pd_7 rfl) rfl rfl (hb hby d13_2) (pc' := 5) rfl ?_
  intro T1 v1 L1 X1 hQ1
  obtain ⟨rfl, Nq1, e1⟩ := hQ1
  have N1 := Fr.app N0 Nq1
  show Go p e below _ (T1.setTop (mkF m 5 _ [.ref r3]))
  refine o_astoreN X1 hx (hb hby d13_5) (pc' := 6) rfl (L' := #[.val (.ref r0), .val (.int (1 : Int32)), .val (.ref r3)]) rfl rfl ?_
  refine o_aloadN X1 hx (hb hby d13_6) (pc' := 7) rfl rfl rfl ?_
  refine o_dup X1 hx (hb hby d13_7) (pc' := 8) rfl rfl ?_
  refine o_getF X1 hx hZ hown (w 30 _ rfl) e1 F_size_r0 (hb hby d13_8) (pc' := 11) rfl ?_
  intro T2 X2 e2
  refine o_iconst X2 hx (1 : Int32) (hb hby d13_11) (pc' := 12) rfl (by decide) ?_
  refine o_isub X2 hx (hb hby d13_12) (pc' := 13) rfl ?_
  rw [show ((2 : Int32) - (1 : Int32)) = (1 : Int32) from by decide]
  refine o_putF X2 hx hZ hown (w 30 _ rfl) e2 F_size_r0 E_r0 (Or.inl (w 31 _ rfl)) (w 3 _ rfl) (ty := .int) (by decide) rfl rfl (hb hby d13_13) (pc' := 16) rfl ?_
  intro T3 h3 X3 e3 W3
  have Fw3 := Fld.same W3 F_size_r0
  have E4_r0 := Exa.wr W3 E_r0
  have F4_r0_elements := Fld.other W3 F_elements_r0 (Or.inr (slot_ne (C := cN0) (a0 := a0) (Or.inl (w 17 _ rfl)) (Or.inl (w 31 _ rfl)) (by decide) (t := (.array (.object "java/lang/Object"))) (t' := .int) (by decide) (by decide)))
  have F4_r0_ends := Fld.other W3 F_ends_r0 (Or.inr (slot_ne (C := cN0) (a0 := a0) (Or.inl (w 20 _ rfl)) (Or.inl (w 31 _ rfl)) (by decide) (t := (.array .long)) (t' := .int) (by decide) (by decide)))
  have F4_r0_orders := Fld.other W3 F_orders_r0 (Or.inr (slot_ne (C := cN0) (a0 := a0) (Or.inl (w 22 _ rfl)) (Or.inl (w 31 _ rfl)) (by decide) (t := (.array .long)) (t' := .int) (by decide) (by decide)))
  have F4_r0_placed := Fld.other W3 F_placed_r0 (Or.inr (slot_ne (C := cN0) (a0 := a0) (Or.inr (w 24 _ rfl)) (Or.inl (w 31 _ rfl)) (by decide) (t := (.object "java/util/function/ObjIntConsumer")) (t' := .int) (by decide) (by decide)))
  have E4_r2 := Exa.wr W3 E_r2
  have E4_r3 := Exa.wr W3 E_r3
  have V4_r1 := Arv.other V_r1 W3 (Ne.symm ne_r0_r1)
  have V4_r4 := Arv.other V_r4 W3 (Ne.symm ne_r0_r4)
  have V4_r5 := Arv.other V_r5 W3 (Ne.symm ne_r0_r5)
  have N3 := Fr.snoc X3 N1 g_r0
  have Z3 : n0 ≤ h3.size := by rw [W3.size]; exact Z0
  have K3 := Keep.wr K0 W3 (Or.inl (List.mem_of_getElem? (i := 0) rfl))
  refine o_iloadN X3 hx (hb hby d13_16) (pc' := 17) rfl rfl ?_
  refine o_aloadN X3 hx (hb hby d13_17) (pc' := 18) rfl rfl rfl ?_
  refine o_getF X3 hx hZ hown (w 30 _ rfl) e3 Fw3 (hb hby d13_18) (pc' := 21) rfl ?_
  intro T5 X5 e5
  refine o_cmpY X5 hx (hb hby d13_21) (flt (by decide : ¬ ((1 : Int32) < (1 : Int32)))).2.1 (by decide) (pc' := 64) (by decide) ?_
  refine o_aloadN X5 hx (hb hby d13_64) (pc' := 65) rfl rfl rfl ?_
  refine o_getF X5 hx hZ hown (w 16 _ rfl) e5 F4_r0_elements (hb hby d13_65) (pc' := 68) rfl ?_
  intro T6 X6 e6
  refine o_aloadN X6 hx (hb hby d13_68) (pc' := 69) rfl rfl rfl ?_
  refine o_getF X6 hx hZ hown (w 30 _ rfl) e6 Fw3 (hb hby d13_69) (pc' := 72) rfl ?_
  intro T7 X7 e7
  refine o_aconst_null X7 hx (hb hby d13_72) (pc' := 73) rfl ?_
  refine o_aastore X7 hx hZ 1 e7 V4_r1 rfl (fun cl A q => Or.inl rfl) (by decide) (by decide) (by exact (by decide : 1 < 8)) rfl (vs' := [.ref r2, .null, .null, .null, .null, .null, .null, .null]) rfl (hb hby d13_73) (pc' := 74) rfl ?_
  intro T8 h8 X8 e8 W8 V8_
  have E9_r0 := Exa.wr W8 E4_r0
  have F9_r0_elements := Fld.other W8 F4_r0_elements (Or.inl ne_r0_r1)
  have F9_r0_ends := Fld.other W8 F4_r0_ends (Or.inl ne_r0_r1)
  have F9_r0_orders := Fld.other W8 F4_r0_orders (Or.inl ne_r0_r1)
  have F9_r0_placed := Fld.other W8 F4_r0_placed (Or.inl ne_r0_r1)
  have F9_r0_size := Fld.other W8 Fw3 (Or.inl ne_r0_r1)
  have E9_r2 := Exa.wr W8 E4_r2
  have E9_r3 := Exa.wr W8 E4_r3
  have V9_r4 := Arv.other V4_r4 W8 (Ne.symm ne_r1_r4)
  have V9_r5 := Arv.other V4_r5 W8 (Ne.symm ne_r1_r5)
  have N8 := Fr.snoc X8 N3 g_r1
  have Z8 : n0 ≤ h8.size := by rw [W8.size]; exact Z3
  have K8 := Keep.wr K3 W8 (Or.inl (List.mem_of_getElem? (i := 1) rfl))
  refine o_aloadN X8 hx (hb hby d13_74) (pc' := 75) rfl rfl rfl ?_
  refine o_getF X8 hx hZ hown (w 23 _ rfl) e8 F9_r0_placed (hb hby d13_75) (pc' := 78) rfl ?_
  intro T10 X10 e10
  refine Go.via (fun t k => XS.ifnullYes X10.here hx rfl (pc0 := 78) (pc' := 92) rfl (hb hby d13_78) rfl (by decide) (by decide) k) ?_
  show Go p e below _ (T10.setTop (mkF m 92 _ []))
  rw [← hOWE]
  exact o_retV X10 hx hlk hrt (hb hby d13_92) (by decide) (by decide) (by rw [e10]; exact ⟨rfl, N8, K8, E9_r0, F9_r0_elements, F9_r0_ends, F9_r0_orders, F9_r0_placed, F9_r0_size, V8_, V9_r4, V9_r5⟩)
theorem ef_5s20 (m : MethodId) (x0 : Addr) (x1 : Int32) (x2 : Addr) (x3 : Int64) (x4 : Int64) : entryFrame m #[(.ref x0), (.int x1), (.ref x2), (.long x3), (.long x4)] 7 = mkF m 0 #[.val (.ref x0), .val (.int x1), .val (.ref x2), .val (.long x3), .second, .val (.long x4), .second] [] := by first | (simp [entryFrame, mkF, argsToLocals, Value.category]; done) | rfl
def Q5s20 (Z : State) (r0 : Addr) (r1 : Addr) (r2 : Addr) (r3 : Addr) (r4 : Addr) (p0 : Value) (p1 : Value) (p2 : Value) (p3 : Value) (p4 : Value) (p5 : Value) (p6 : Value) (p7 : Value) (p8 : Int64) (p9 : Int64) (p10 : Int64) (p11 : Int64) (p12 : Int64) (p13 : Int64) (p14 : Int64) (p15 : Int64) (p16 : Int64) (p17 : Int64) (p18 : Int64) (p19 : Int64) (p20 : Int64) (p21 : Int64) (p22 : Int64) (p23 : Int64) (p24 : Int32) (p25 : Int64) (p26 : Int64) (k_r1 : ClassId) (k_r2 : ClassId) (k_r3 : ClassId) (h0 : Heap) (n0 : Nat) (v : Option Value) (h : Heap) (L : List Loc) : Prop := (v = none ∧ Fr n0 L ∧ Keep h0 h [r0, r1, r2, r3] ∧ Exa Z h r0 cN0 ∧ Fld Z h r0 cN0 "elements" "[Ljava/lang/Object;" (.ref r1) ∧ Fld Z h r0 cN0 "ends" "[J" (.ref r2) ∧ Fld Z h r0 cN0 "orders" "[J" (.ref r3) ∧ Fld Z h r0 cN0 "placed" "Ljava/util/function/ObjIntConsumer;" (.null) ∧ Fld Z h r0 cN0 "size" "I" (.int p24) ∧ Arv Z h r1 k_r1 (.object "java/lang/Object") (8 : Int32) [p0, p1, .ref r4, p3, p4, p5, p6, p7] (.null) ∧ Arv Z h r2 k_r2 .long (8 : Int32) [.long p8, .long p9, .long p25, .long p11, .long p12, .long p13, .long p14, .long p15] (.long (0 : Int64)) ∧ Arv Z h r3 k_r3 .long (8 : Int32) [.long p16, .long p17, .long p26, .long p19, .long p20, .long p21, .long p22, .long p23] (.long (0 : Int64)))
set_option maxRecDepth 65536 in
set_option maxHeartbeats 40000000 in
theorem rm5s20 (l : Launch) (Z : State) (a0 : Array Value) (hw : ∀ d ∈ tables_1, d.before a0 Z = true) (ws : List Jvm.Cond) (r0 : Addr) (r1 : Addr) (r2 : Addr) (r3 : Addr) (r4 : Addr) (p0 : Value) (p1 : Value) (p2 : Value) (p3 : Value) (p4 : Value) (p5 : Value) (p6 : Value) (p7 : Value) (p8 : Int64) (p9 : Int64) (p10 : Int64) (p11 : Int64) (p12 : Int64) (p13 : Int64) (p14 : Int64) (p15 : Int64) (p16 : Int64) (p17 : Int64) (p18 : Int64) (p19 : Int64) (p20 : Int64) (p21 : Int64) (p22 : Int64) (p23 : Int64) (p24 : Int32) (p25 : Int64) (p26 : Int64) (k_r1 : ClassId) (k_r2 : ClassId) (k_r3 : ClassId) (h0 : Heap) (n0 : Nat) (Z0 : n0 ≤ h0.size) (E_r0 : Exa Z h0 r0 cN0) (F_elements_r0 : Fld Z h0 r0 cN0 "elements" "[Ljava/lang/Object;" (.ref r1)) (F_ends_r0 : Fld Z h0 r0 cN0 "ends" "[J" (.ref r2)) (F_orders_r0 : Fld Z h0 r0 cN0 "orders" "[J" (.ref r3)) (F_placed_r0 : Fld Z h0 r0 cN0 "placed" "Ljava/util/function/ObjIntConsumer;" (.null)) (F_size_r0 : Fld Z h0 r0 cN0 "size" "I" (.int p24)) (g_r0 : n0 ≤ r0) (E_r4 : Exa Z h0 r4 "[I") (V_r1 : Arv Z h0 r1 k_r1 (.object "java/lang/Object") (8 : Int32) [p0, p1, p2, p3, p4, p5, p6, p7] (.null)) (O_r1 : Ovr Z k_r1 "java/lang/Object") (g_r1 : n0 ≤ r1) (V_r2 : Arv Z h0 r2 k_r2 .long (8 : Int32) [.long p8, .long p9, .long p10, .long p11, .long p12, .long p13, .long p14, .long p15] (.long (0 : Int64))) (g_r2 : n0 ≤ r2) (V_r3 : Arv Z h0 r3 k_r3 .long (8 : Int32) [.long p16, .long p17, .long p18, .long p19, .long p20, .long p21, .long p22, .long p23] (.long (0 : Int64))) (g_r3 : n0 ≤ r3) (ne_r0_r1 : r0 ≠ r1) (ne_r0_r2 : r0 ≠ r2) (ne_r1_r2 : r1 ≠ r2) (ne_r0_r3 : r0 ≠ r3) (ne_r1_r3 : r1 ≠ r3) (ne_r2_r3 : r2 ≠ r3) (ne_r0_r4 : r0 ≠ r4) (ne_r1_r4 : r1 ≠ r4) (ne_r2_r4 : r2 ≠ r4) (ne_r3_r4 : r3 ≠ r4) :
    Con l (⟨cN0, "put", "(ILjava/lang/Object;JJ)V"⟩ : MethodName) prog_31_method_13_code 7 none ws ({ frames := 0, cells := 0, slots := 0, locals := 0 } : Room) #[(.ref r0), (.int (2 : Int32)), (.ref r4), (.long p25), (.long p26)] Z h0 (Q5s20 Z r0 r1 r2 r3 r4 p0 p1 p2 p3 p4 p5 p6 p7 p8 p9 p10 p11 p12 p13 p14 p15 p16 p17 p18 p19 p20 p21 p22 p23 p24 p25 p26 k_r1 k_r2 k_r3 h0 n0) ({ frames := 0, cells := 0, slots := 0, locals := 0 } : Room).cells ({ frames := 0, cells := 0, slots := 0, locals := 0 } : Room).slots := by
  refine own_body (plainFor_of_name pn_2) ?_
  intro p e s m below meth c s₁ hx hby hlk hml hown hnm hrt hZ X0 e0
  have w : ∀ (k : Nat) (d : Jvm.Cond), tables_1[k]? = some d → d.before a0 Z = true := fun k d h => hw d (List.mem_of_getElem? h)
  have N0 := Fr.nil n0
  have K0 := Keep.refl h0 [r0, r1, r2, r3]
  rw [ef_5s20]
  generalize hOWE : Owe s _ _ _ = OWE
  refine o_aloadN X0 hx (hb hby d5_0) (pc' := 1) rfl rfl rfl ?_
  refine o_getF X0 hx hZ hown (w 16 _ rfl) e0 F_elements_r0 (hb hby d5_1) (pc' := 4) rfl ?_
  intro T1 X1 e1
  refine o_iloadN X1 hx (hb hby d5_4) (pc' := 5) rfl rfl ?_
  refine o_aloadN X1 hx (hb hby d5_5) (pc' := 6) rfl rfl rfl ?_
  refine o_aastore X1 hx hZ 2 e1 V_r1 rfl (fun cl A q => Sto.ofV A q O_r1 (Ins.of_exa E_r4 (w 36 _ rfl))) (by decide) (by decide) (by exact (by decide : 2 < 8)) rfl (vs' := [p0, p1, .ref r4, p3, p4, p5, p6, p7]) rfl (hb hby d5_6) (pc' := 7) rfl ?_
  intro T2 h2 X2 e2 W2 V2_
  have E3_r0 := Exa.wr W2 E_r0
  have F3_r0_elements := Fld.other W2 F_elements_r0 (Or.inl ne_r0_r1)
  have F3_r0_ends := Fld.other W2 F_ends_r0 (Or.inl ne_r0_r1)
  have F3_r0_orders := Fld.other W2 F_orders_r0 (Or.inl ne_r0_r1)
  have F3_r0_placed := Fld.other W2 F_placed_r0 (Or.inl ne_r0_r1)
  have F3_r0_size := Fld.other W2 F_size_r0 (Or.inl ne_r0_r1)
  have E3_r4 := Exa.wr W2 E_r4
  have V3_r2 := Arv.other V_r2 W2 (Ne.symm ne_r1_r2)
  have V3_r3 := Arv.other V_r3 W2 (Ne.symm ne_r1_r3)
  have N2 := Fr.snoc X2 N0 g_r1
  have Z2 : n0 ≤ h2.size := by rw [W2.size]; exact Z0
  have K2 := Keep.wr K0 W2 (Or.inl (List.mem_of_getElem? (i := 1) rfl))
  refine o_aloadN X2 hx (hb hby d5_7) (pc' := 8) rfl rfl rfl ?_
  refine o_getF X2 hx hZ hown (w 19 _ rfl) e2 F3_r0_ends (hb hby d5_8) (pc' := 11) rfl ?_
  intro T4 X4 e4
  refine o_iloadN X4 hx (hb hby d5_11) (pc' := 12) rfl rfl ?_
  refine o_lloadN X4 hx (hb hby d5_12) (pc' := 13) rfl rfl ?_
  refine o_lastore X4 hx hZ 2 e4 V3_r2 (by decide) (by decide) (by exact (by decide : 2 < 8)) (vs' := [.long p8, .long p9, .long p25, .long p11, .long p12, .long p13, .long p14, .long p15]) rfl (hb hby d5_13) (pc' := 14) rfl ?_
  intro T5 h5 X5 e5 W5 V5_
  have E6_r0 := Exa.wr W5 E3_r0
  have F6_r0_elements := Fld.other W5 F3_r0_elements (Or.inl ne_r0_r2)
  have F6_r0_ends := Fld.other W5 F3_r0_ends (Or.inl ne_r0_r2)
  have F6_r0_orders := Fld.other W5 F3_r0_orders (Or.inl ne_r0_r2)
  have F6_r0_placed := Fld.other W5 F3_r0_placed (Or.inl ne_r0_r2)
  have F6_r0_size := Fld.other W5 F3_r0_size (Or.inl ne_r0_r2)
  have E6_r4 := Exa.wr W5 E3_r4
  have V6_r1 := Arv.other V2_ W5 ne_r1_r2
  have V6_r3 := Arv.other V3_r3 W5 (Ne.symm ne_r2_r3)
  have N5 := Fr.snoc X5 N2 g_r2
  have Z5 : n0 ≤ h5.size := by rw [W5.size]; exact Z2
  have K5 := Keep.wr K2 W5 (Or.inl (List.mem_of_getElem? (i := 2) rfl))
  refine o_aloadN X5 hx (hb hby d5_14) (pc' := 15) rfl rfl rfl ?_
  refine o_getF X5 hx hZ hown (w 21 _ rfl) e5 F6_r0_orders (hb hby d5_15) (pc' := 18) rfl ?_
  intro T7 X7 e7
  refine o_iloadN X7 hx (hb hby d5_18) (pc' := 19) rfl rfl ?_
  refine o_lload X7 hx (hb hby d5_19) (pc' := 21) rfl rfl ?_
  refine o_lastore X7 hx hZ 2 e7 V6_r3 (by decide) (by decide) (by exact (by decide : 2 < 8)) (vs' := [.long p16, .long p17, .long p26, .long p19, .long p20, .long p21, .long p22, .long p23]) rfl (hb hby d5_21) (pc' := 22) rfl ?_
  intro T8 h8 X8 e8 W8 V8_
  have E9_r0 := Exa.wr W8 E6_r0
  have F9_r0_elements := Fld.other W8 F6_r0_elements (Or.inl ne_r0_r3)
  have F9_r0_ends := Fld.other W8 F6_r0_ends (Or.inl ne_r0_r3)
  have F9_r0_orders := Fld.other W8 F6_r0_orders (Or.inl ne_r0_r3)
  have F9_r0_placed := Fld.other W8 F6_r0_placed (Or.inl ne_r0_r3)
  have F9_r0_size := Fld.other W8 F6_r0_size (Or.inl ne_r0_r3)
  have E9_r4 := Exa.wr W8 E6_r4
  have V9_r1 := Arv.other V6_r1 W8 ne_r1_r3
  have V9_r2 := Arv.other V5_ W8 ne_r2_r3
  have N8 := Fr.snoc X8 N5 g_r3
  have Z8 : n0 ≤ h8.size := by rw [W8.size]; exact Z5
  have K8 := Keep.wr K5 W8 (Or.inl (List.mem_of_getElem? (i := 3) rfl))
  refine o_aloadN X8 hx (hb hby d5_22) (pc' := 23) rfl rfl rfl ?_
  refine o_getF X8 hx hZ hown (w 23 _ rfl) e8 F9_r0_placed (hb hby d5_23) (pc' := 26) rfl ?_
  intro T10 X10 e10
  refine Go.via (fun t k => XS.ifnullYes X10.here hx rfl (pc0 := 26) (pc' := 40) rfl (hb hby d5_26) rfl (by decide) (by decide) k) ?_
  show Go p e below _ (T10.setTop (mkF m 40 _ []))
  rw [← hOWE]
  exact o_retV X10 hx hlk hrt (hb hby d5_40) (by decide) (by decide) (by rw [e10]; exact ⟨rfl, N8, K8, E9_r0, F9_r0_elements, F9_r0_ends, F9_r0_orders, F9_r0_placed, F9_r0_size, V9_r1, V9_r2, V8_⟩)
theorem ef_7s22 (m : MethodId) (x0 : Addr) (x1 : Int32) : entryFrame m #[(.ref x0), (.int x1)] 2 = mkF m 0 #[.val (.ref x0), .val (.int x1)] [] := by first | (simp [entryFrame, mkF, argsToLocals, Value.category]; done) | rfl
def Q7s22 (Z : State) (r0 : Addr) (r1 : Addr) (r2 : Addr) (p0 : Value) (p1 : Value) (p2 : Value) (p3 : Value) (p4 : Value) (p5 : Value) (p6 : Value) (k_r1 : ClassId) (h0 : Heap) (n0 : Nat) (v : Option Value) (h : Heap) (L : List Loc) : Prop := (v = some (.ref r2) ∧ Fr n0 L ∧ h = h0)
set_option maxRecDepth 65536 in
set_option maxHeartbeats 40000000 in
theorem rm7s22 (l : Launch) (Z : State) (a0 : Array Value) (hw : ∀ d ∈ tables_1, d.before a0 Z = true) (ws : List Jvm.Cond) (r0 : Addr) (r1 : Addr) (r2 : Addr) (p0 : Value) (p1 : Value) (p2 : Value) (p3 : Value) (p4 : Value) (p5 : Value) (p6 : Value) (k_r1 : ClassId) (h0 : Heap) (n0 : Nat) (Z0 : n0 ≤ h0.size) (E_r0 : Exa Z h0 r0 cN0) (F_elements_r0 : Fld Z h0 r0 cN0 "elements" "[Ljava/lang/Object;" (.ref r1)) (E_r2 : Exa Z h0 r2 "[I") (V_r1 : Arv Z h0 r1 k_r1 (.object "java/lang/Object") (8 : Int32) [p0, p1, .ref r2, p2, p3, p4, p5, p6] (.null)) (O_r1 : Ovr Z k_r1 "java/lang/Object") (ne_r0_r1 : r0 ≠ r1) (ne_r0_r2 : r0 ≠ r2) (ne_r1_r2 : r1 ≠ r2) :
    Con l (⟨cN0, "at", "(I)Ljava/lang/Object;"⟩ : MethodName) prog_31_method_14_code 2 (some (.object "java/lang/Object")) ws ({ frames := 0, cells := 0, slots := 0, locals := 0 } : Room) #[(.ref r0), (.int (2 : Int32))] Z h0 (Q7s22 Z r0 r1 r2 p0 p1 p2 p3 p4 p5 p6 k_r1 h0 n0) ({ frames := 0, cells := 0, slots := 0, locals := 0 } : Room).cells ({ frames := 0, cells := 0, slots := 0, locals := 0 } : Room).slots := by
  refine own_body (plainFor_of_name pn_2) ?_
  intro p e s m below meth c s₁ hx hby hlk hml hown hnm hrt hZ X0 e0
  have w : ∀ (k : Nat) (d : Jvm.Cond), tables_1[k]? = some d → d.before a0 Z = true := fun k d h => hw d (List.mem_of_getElem? h)
  have N0 := Fr.nil n0
  rw [ef_7s22]
  generalize hOWE : Owe s _ _ _ = OWE
  refine o_aloadN X0 hx (hb hby d7_0) (pc' := 1) rfl rfl rfl ?_
  refine o_getF X0 hx hZ hown (w 16 _ rfl) e0 F_elements_r0 (hb hby d7_1) (pc' := 4) rfl ?_
  intro T1 X1 e1
  refine o_iloadN X1 hx (hb hby d7_4) (pc' := 5) rfl rfl ?_
  refine o_aaload X1 hx hZ (.ref r2) e1 V_r1 rfl (by decide) (by rfl) (hb hby d7_5) (pc' := 6) rfl ?_
  rw [← hOWE]
  exact o_ret X1 hx hlk hrt rfl (Or.inr (Or.inr (Or.inr (Or.inr ⟨rfl, rfl, rfl⟩)))) (hb hby d7_6) (by decide) (by decide) (by rw [e1]; exact ⟨rfl, N0, rfl⟩)
theorem ef_6s21 (m : MethodId) (x0 : Addr) (x1 : Int32) : entryFrame m #[(.ref x0), (.int x1)] 8 = mkF m 0 #[.val (.ref x0), .val (.int x1), .unset, .unset, .unset, .unset, .unset, .unset] [] := by first | (simp [entryFrame, mkF, argsToLocals, Value.category]; done) | rfl
def Q6s21 (Z : State) (r0 : Addr) (r1 : Addr) (r2 : Addr) (r3 : Addr) (r4 : Addr) (r5 : Addr) (r6 : Addr) (p0 : Int64) (p1 : Int64) (p2 : Int64) (p3 : Int64) (p4 : Int64) (p5 : Int64) (p6 : Int64) (p7 : Int64) (p8 : Int64) (p9 : Int64) (p10 : Int64) (p11 : Int64) (p12 : Int64) (p13 : Int64) (p14 : Int64) (p15 : Int64) (k_r1 : ClassId) (k_r5 : ClassId) (k_r6 : ClassId) (h0 : Heap) (n0 : Nat) (v : Option Value) (h : Heap) (L : List Loc) : Prop := (((o5 p2 p10 p0 p8) = (0 : Int32) ∧ (v = some (.int (2 : Int32)) ∧ Fr n0 L ∧ Keep h0 h [r0, r1, r5, r6] ∧ Exa Z h r0 cN0 ∧ Fld Z h r0 cN0 "elements" "[Ljava/lang/Object;" (.ref r1) ∧ Fld Z h r0 cN0 "ends" "[J" (.ref r5) ∧ Fld Z h r0 cN0 "orders" "[J" (.ref r6) ∧ Fld Z h r0 cN0 "placed" "Ljava/util/function/ObjIntConsumer;" (.null) ∧ Fld Z h r0 cN0 "size" "I" (.int (3 : Int32)) ∧ Arv Z h r1 k_r1 (.object "java/lang/Object") (8 : Int32) [.ref r2, .ref r3, .ref r4, .null, .null, .null, .null, .null] (.null) ∧ Arv Z h r5 k_r5 .long (8 : Int32) [.long p0, .long p1, .long p2, .long p3, .long p4, .long p5, .long p6, .long p7] (.long (0 : Int64)) ∧ Arv Z h r6 k_r6 .long (8 : Int32) [.long p8, .long p9, .long p10, .long p11, .long p12, .long p13, .long p14, .long p15] (.long (0 : Int64)))) ∨ (¬ ((o5 p2 p10 p0 p8) = (0 : Int32)) ∧ (v = some (.int (0 : Int32)) ∧ Fr n0 L ∧ Keep h0 h [r0, r1, r5, r6] ∧ Exa Z h r0 cN0 ∧ Fld Z h r0 cN0 "elements" "[Ljava/lang/Object;" (.ref r1) ∧ Fld Z h r0 cN0 "ends" "[J" (.ref r5) ∧ Fld Z h r0 cN0 "orders" "[J" (.ref r6) ∧ Fld Z h r0 cN0 "placed" "Ljava/util/function/ObjIntConsumer;" (.null) ∧ Fld Z h r0 cN0 "size" "I" (.int (3 : Int32)) ∧ Arv Z h r1 k_r1 (.object "java/lang/Object") (8 : Int32) [.ref r4, .ref r3, .ref r2, .null, .null, .null, .null, .null] (.null) ∧ Arv Z h r5 k_r5 .long (8 : Int32) [.long p2, .long p1, .long p0, .long p3, .long p4, .long p5, .long p6, .long p7] (.long (0 : Int64)) ∧ Arv Z h r6 k_r6 .long (8 : Int32) [.long p10, .long p9, .long p8, .long p11, .long p12, .long p13, .long p14, .long p15] (.long (0 : Int64)))))
set_option maxRecDepth 65536 in
set_option maxHeartbeats 40000000 in
theorem rm6s21 (l : Launch) (Z : State) (a0 : Array Value) (hw : ∀ d ∈ tables_1, d.before a0 Z = true) (ws : List Jvm.Cond) (r0 : Addr) (r1 : Addr) (r2 : Addr) (r3 : Addr) (r4 : Addr) (r5 : Addr) (r6 : Addr) (p0 : Int64) (p1 : Int64) (p2 : Int64) (p3 : Int64) (p4 : Int64) (p5 : Int64) (p6 : Int64) (p7 : Int64) (p8 : Int64) (p9 : Int64) (p10 : Int64) (p11 : Int64) (p12 : Int64) (p13 : Int64) (p14 : Int64) (p15 : Int64) (k_r1 : ClassId) (k_r5 : ClassId) (k_r6 : ClassId) (h0 : Heap) (n0 : Nat) (Z0 : n0 ≤ h0.size) (E_r0 : Exa Z h0 r0 cN0) (F_elements_r0 : Fld Z h0 r0 cN0 "elements" "[Ljava/lang/Object;" (.ref r1)) (F_ends_r0 : Fld Z h0 r0 cN0 "ends" "[J" (.ref r5)) (F_orders_r0 : Fld Z h0 r0 cN0 "orders" "[J" (.ref r6)) (F_placed_r0 : Fld Z h0 r0 cN0 "placed" "Ljava/util/function/ObjIntConsumer;" (.null)) (F_size_r0 : Fld Z h0 r0 cN0 "size" "I" (.int (3 : Int32))) (g_r0 : n0 ≤ r0) (E_r2 : Exa Z h0 r2 "[I") (E_r3 : Exa Z h0 r3 "[I") (E_r4 : Exa Z h0 r4 "[I") (V_r1 : Arv Z h0 r1 k_r1 (.object "java/lang/Object") (8 : Int32) [.ref r2, .ref r3, .ref r4, .null, .null, .null, .null, .null] (.null)) (O_r1 : Ovr Z k_r1 "java/lang/Object") (g_r1 : n0 ≤ r1) (V_r5 : Arv Z h0 r5 k_r5 .long (8 : Int32) [.long p0, .long p1, .long p2, .long p3, .long p4, .long p5, .long p6, .long p7] (.long (0 : Int64))) (g_r5 : n0 ≤ r5) (V_r6 : Arv Z h0 r6 k_r6 .long (8 : Int32) [.long p8, .long p9, .long p10, .long p11, .long p12, .long p13, .long p14, .long p15] (.long (0 : Int64))) (g_r6 : n0 ≤ r6) (ne_r0_r1 : r0 ≠ r1) (ne_r0_r2 : r0 ≠ r2) (ne_r1_r2 : r1 ≠ r2) (ne_r0_r3 : r0 ≠ r3) (ne_r1_r3 : r1 ≠ r3) (ne_r2_r3 : r2 ≠ r3) (ne_r0_r4 : r0 ≠ r4) (ne_r1_r4 : r1 ≠ r4) (ne_r2_r4 : r2 ≠ r4) (ne_r3_r4 : r3 ≠ r4) (ne_r0_r5 : r0 ≠ r5) (ne_r1_r5 : r1 ≠ r5) (ne_r2_r5 : r2 ≠ r5) (ne_r3_r5 : r3 ≠ r5) (ne_r4_r5 : r4 ≠ r5) (ne_r0_r6 : r0 ≠ r6) (ne_r1_r6 : r1 ≠ r6) (ne_r2_r6 : r2 ≠ r6) (ne_r3_r6 : r3 ≠ r6) (ne_r4_r6 : r4 ≠ r6) (ne_r5_r6 : r5 ≠ r6) :
    Con l (⟨cN0, "siftUp", "(I)I"⟩ : MethodName) prog_31_method_11_code 8 (some .int) ws ({ frames := 1, cells := 0, slots := 0, locals := 19 } : Room) #[(.ref r0), (.int (2 : Int32))] Z h0 (Q6s21 Z r0 r1 r2 r3 r4 r5 r6 p0 p1 p2 p3 p4 p5 p6 p7 p8 p9 p10 p11 p12 p13 p14 p15 k_r1 k_r5 k_r6 h0 n0) ({ frames := 1, cells := 0, slots := 0, locals := 19 } : Room).cells ({ frames := 1, cells := 0, slots := 0, locals := 19 } : Room).slots := by
  refine own_body (plainFor_of_name pn_2) ?_
  intro p e s m below meth c s₁ hx hby hlk hml hown hnm hrt hZ X0 e0
  have w : ∀ (k : Nat) (d : Jvm.Cond), tables_1[k]? = some d → d.before a0 Z = true := fun k d h => hw d (List.mem_of_getElem? h)
  have N0 := Fr.nil n0
  have K0 := Keep.refl h0 [r0, r1, r5, r6]
  rw [ef_6s21]
  generalize hOWE : Owe s _ _ _ = OWE
  refine o_aloadN X0 hx (hb hby d6_0) (pc' := 1) rfl rfl rfl ?_
  refine o_iloadN X0 hx (hb hby d6_1) (pc' := 2) rfl rfl ?_
  refine o_callP X0 hx hZ 0 (argsL := [.int (2 : Int32)]) (rest := []) (a := r0) hown (w 41 _ rfl) (w 3 _ rfl) (w 43 _ rfl) (w 42 _ rfl) (w 4 _ rfl) (w 44 _ rfl) (by decide) (rm7s22 l Z a0 hw [] _ _ _ _ _ _ _ _ _ _ _ h0 n0 Z0 E_r0 F_elements_r0 E_r4 V_r1 O_r1 ne_r0_r1 ne_r0_r4 ne_r1_r4) E_r0 (by decide) (by decide) (cells' := 0) rfl (slots' := 0) rfl (by decide) (by decide) e0 (by rw [hml]; rfl) (lenOf pd_7 rfl) rfl rfl (hb hby d6_2) (pc' := 5) rfl ?_
  intro T1 v1 L1 X1 hQ1
  obtain ⟨rfl, Nq1, e1⟩ := hQ1
  have N1 := Fr.app N0 Nq1
  show Go p e below _ (T1.setTop (mkF m 5 _ [.ref r4]))
  refine o_astoreN X1 hx (hb hby d6_5) (pc' := 6) rfl (L' := #[.val (.ref r0), .val (.int (2 : Int32)), .val (.ref r4), .unset, .unset, .unset, .unset, .unset]) rfl rfl ?_
  refine o_aloadN X1 hx (hb hby d6_6) (pc' := 7) rfl rfl rfl ?_
  refine o_getF X1 hx hZ hown (w 19 _ rfl) e1 F_ends_r0 (hb hby d6_7) (pc' := 10) rfl ?_
  intro T2 X2 e2
  refine o_iloadN X2 hx (hb hby d6_10) (pc' := 11) rfl rfl ?_
  refine o_laload X2 hx hZ (.long p2) e2 V_r5 (by decide) (by rfl) (hb hby d6_11) (pc' := 12) rfl ?_
  refine o_lstoreN X2 hx (hb hby d6_12) (pc' := 13) rfl (L' := #[.val (.ref r0), .val (.int (2 : Int32)), .val (.ref r4), .val (.long p2), .second, .unset, .unset, .unset]) rfl ?_
  refine o_aloadN X2 hx (hb hby d6_13) (pc' := 14) rfl rfl rfl ?_
  refine o_getF X2 hx hZ hown (w 21 _ rfl) e2 F_orders_r0 (hb hby d6_14) (pc' := 17) rfl ?_
  intro T3 X3 e3
  refine o_iloadN X3 hx (hb hby d6_17) (pc' := 18) rfl rfl ?_
  refine o_laload X3 hx hZ (.long p10) e3 V_r6 (by decide) (by rfl) (hb hby d6_18) (pc' := 19) rfl ?_
  refine o_lstore X3 hx (hb hby d6_19) (pc' := 21) rfl (L' := #[.val (.ref r0), .val (.int (2 : Int32)), .val (.ref r4), .val (.long p2), .second, .val (.long p10), .second, .unset]) rfl ?_
  refine o_iloadN X3 hx (hb hby d6_21) (pc' := 22) rfl rfl ?_
  refine o_ifN X3 hx (hb hby d6_22) (tlt (by decide : (0 : Int32) < (2 : Int32))).2.2.2 (pc' := 25) rfl ?_
  refine o_iloadN X3 hx (hb hby d6_25) (pc' := 26) rfl rfl ?_
  refine o_iconst X3 hx (1 : Int32) (hb hby d6_26) (pc' := 27) rfl (by decide) ?_
  refine o_isub X3 hx (hb hby d6_27) (pc' := 28) rfl ?_
  rw [show ((2 : Int32) - (1 : Int32)) = (1 : Int32) from by decide]
  refine o_iconst X3 hx (2 : Int32) (hb hby d6_28) (pc' := 29) rfl (by decide) ?_
  refine o_idiv X3 hx (hb hby d6_29) (pc' := 30) rfl (by decide) ?_
  rw [show ((1 : Int32) / (2 : Int32)) = (0 : Int32) from by decide]
  refine o_istore X3 hx (hb hby d6_30) (pc' := 32) rfl (L' := #[.val (.ref r0), .val (.int (2 : Int32)), .val (.ref r4), .val (.long p2), .second, .val (.long p10), .second, .val (.int (0 : Int32))]) rfl ?_
  refine o_lloadN X3 hx (hb hby d6_32) (pc' := 33) rfl rfl ?_
  refine o_lload X3 hx (hb hby d6_33) (pc' := 35) rfl rfl ?_
  refine o_aloadN X3 hx (hb hby d6_35) (pc' := 36) rfl rfl rfl ?_
  refine o_getF X3 hx hZ hown (w 19 _ rfl) e3 F_ends_r0 (hb hby d6_36) (pc' := 39) rfl ?_
  intro T4 X4 e4
  refine o_iload X4 hx (hb hby d6_39) (pc' := 41) rfl rfl ?_
  refine o_laload X4 hx hZ (.long p0) e4 V_r5 (by decide) (by rfl) (hb hby d6_41) (pc' := 42) rfl ?_
  refine o_aloadN X4 hx (hb hby d6_42) (pc' := 43) rfl rfl rfl ?_
  refine o_getF X4 hx hZ hown (w 21 _ rfl) e4 F_orders_r0 (hb hby d6_43) (pc' := 46) rfl ?_
  intro T5 X5 e5
  refine o_iload X5 hx (hb hby d6_46) (pc' := 48) rfl rfl ?_
  refine o_laload X5 hx hZ (.long p8) e5 V_r6 (by decide) (by rfl) (hb hby d6_48) (pc' := 49) rfl ?_
  refine o_callS X5 hx hZ 0 (argsL := [.long p2, .long p10, .long p0, .long p8]) (rest := []) hown (w 45 _ rfl) (w 46 _ rfl) (w 4 _ rfl) (w 47 _ rfl) (by decide) (rm8 l Z a0 hw [] p2 p10 p0 p8 h0 n0 Z0 ) (by decide) (by decide) (cells' := 0) rfl (slots' := 0) rfl (by decide) (by decide) e5 (by rw [hml]; rfl) (lenOf pd_2 rfl) rfl rfl (hb hby d6_49) (pc' := 52) rfl ?_
  intro T6 v6 L6 X6 hQ6
  obtain ⟨rfl, Nq6, e6⟩ := hQ6
  have N6 := Fr.app N1 Nq6
  show Go p e below _ (T6.setTop (mkF m 52 _ [.int (o5 p2 p10 p0 p8)]))
  by_cases hc52_7 : (o5 p2 p10 p0 p8) = (0 : Int32)
  · refine o_ifN X6 hx (hb hby d6_52) (teq hc52_7).2 (pc' := 55) rfl ?_
    refine o_goto X6 hx (hb hby d6_55) (by decide) (pc' := 89) (by decide) ?_
    refine o_aloadN X6 hx (hb hby d6_89) (pc' := 90) rfl rfl rfl ?_
    refine o_iloadN X6 hx (hb hby d6_90) (pc' := 91) rfl rfl ?_
    refine o_aloadN X6 hx (hb hby d6_91) (pc' := 92) rfl rfl rfl ?_
    refine o_lloadN X6 hx (hb hby d6_92) (pc' := 93) rfl rfl ?_
    refine o_lload X6 hx (hb hby d6_93) (pc' := 95) rfl rfl ?_
    refine o_callP X6 hx hZ 0 (argsL := [.int (2 : Int32), .ref r4, .long p2, .long p10]) (rest := []) (a := r0) hown (w 32 _ rfl) (w 3 _ rfl) (w 34 _ rfl) (w 33 _ rfl) (w 4 _ rfl) (w 35 _ rfl) (by decide) (rm5s20 l Z a0 hw [] _ _ _ _ _ _ _ _ _ _ _ _ _ _ _ _ _ _ _ _ _ _ _ _ _ _ _ _ _ _ p2 p10 _ _ _ h0 n0 Z0 E_r0 F_elements_r0 F_ends_r0 F_orders_r0 F_placed_r0 F_size_r0 g_r0 E_r4 V_r1 O_r1 g_r1 V_r5 g_r5 V_r6 g_r6 ne_r0_r1 ne_r0_r5 ne_r1_r5 ne_r0_r6 ne_r1_r6 ne_r5_r6 ne_r0_r4 ne_r1_r4 (Ne.symm ne_r4_r5) (Ne.symm ne_r4_r6)) E_r0 (by decide) (by decide) (cells' := 0) rfl (slots' := 0) rfl (by decide) (by decide) e6 (by rw [hml]; rfl) (lenOf pd_6 rfl) rfl rfl (hb hby d6_95) (pc' := 98) rfl ?_
    intro T8 v8 L8 X8 hQ8
    obtain ⟨rfl, Nq8, Kq8, P8_0, P8_1, P8_2, P8_3, P8_4, P8_5, P8_6, P8_7, P8_8⟩ := hQ8
    have N8 := Fr.app N6 Nq8
    have E9_r2 := Exa.keep E_r2 Kq8
    have E9_r3 := Exa.keep E_r3 Kq8
    have E9_r4 := Exa.keep E_r4 Kq8
    have Z8 : n0 ≤ T8.heap.size := Nat.le_trans Z0 Kq8.1
    have K8 := Keep.trans K0 Kq8 (allS (Or.inl (List.mem_of_getElem? (i := 0) rfl)) (allS (Or.inl (List.mem_of_getElem? (i := 1) rfl)) (allS (Or.inl (List.mem_of_getElem? (i := 2) rfl)) (allS (Or.inl (List.mem_of_getElem? (i := 3) rfl)) all0))))
    show Go p e below _ (T8.setTop (mkF m 98 _ []))
    refine o_iloadN X8 hx (hb hby d6_98) (pc' := 99) rfl rfl ?_
    rw [← hOWE]
    exact o_retI X8 hx hlk hrt (hb hby d6_99) (by decide) (by decide) (Or.inl ⟨hc52_7, ⟨rfl, N8, K8, P8_0, P8_1, P8_2, P8_3, P8_4, P8_5, P8_6, P8_7, P8_8⟩⟩)
  · refine o_ifY X6 hx (hb hby d6_52) (feq hc52_7).2 (by decide) (pc' := 58) (by decide) ?_
    refine o_aloadN X6 hx (hb hby d6_58) (pc' := 59) rfl rfl rfl ?_
    refine o_iloadN X6 hx (hb hby d6_59) (pc' := 60) rfl rfl ?_
    refine o_aloadN X6 hx (hb hby d6_60) (pc' := 61) rfl rfl rfl ?_
    refine o_iload X6 hx (hb hby d6_61) (pc' := 63) rfl rfl ?_
    refine o_callP X6 hx hZ 2 (argsL := [.int (0 : Int32)]) (rest := [.int (2 : Int32), .ref r0]) (a := r0) hown (w 41 _ rfl) (w 3 _ rfl) (w 43 _ rfl) (w 42 _ rfl) (w 4 _ rfl) (w 44 _ rfl) (by decide) (rm7s4 l Z a0 hw [] _ _ _ _ _ _ _ _ _ _ _ h0 n0 Z0 E_r0 F_elements_r0 E_r2 V_r1 O_r1 ne_r0_r1 ne_r0_r2 ne_r1_r2) E_r0 (by decide) (by decide) (cells' := 0) rfl (slots' := 0) rfl (by decide) (by decide) e6 (by rw [hml]; rfl) (lenOf pd_7 rfl) rfl rfl (hb hby d6_63) (pc' := 66) rfl ?_
    intro T10 v10 L10 X10 hQ10
    obtain ⟨rfl, Nq10, e10⟩ := hQ10
    have N10 := Fr.app N6 Nq10
    show Go p e below _ (T10.setTop (mkF m 66 _ [.ref r2, .int (2 : Int32), .ref r0]))
    refine o_aloadN X10 hx (hb hby d6_66) (pc' := 67) rfl rfl rfl ?_
    refine o_getF X10 hx hZ hown (w 19 _ rfl) e10 F_ends_r0 (hb hby d6_67) (pc' := 70) rfl ?_
    intro T11 X11 e11
    refine o_iload X11 hx (hb hby d6_70) (pc' := 72) rfl rfl ?_
    refine o_laload X11 hx hZ (.long p0) e11 V_r5 (by decide) (by rfl) (hb hby d6_72) (pc' := 73) rfl ?_
    refine o_aloadN X11 hx (hb hby d6_73) (pc' := 74) rfl rfl rfl ?_
    refine o_getF X11 hx hZ hown (w 21 _ rfl) e11 F_orders_r0 (hb hby d6_74) (pc' := 77) rfl ?_
    intro T12 X12 e12
    refine o_iload X12 hx (hb hby d6_77) (pc' := 79) rfl rfl ?_
    refine o_laload X12 hx hZ (.long p8) e12 V_r6 (by decide) (by rfl) (hb hby d6_79) (pc' := 80) rfl ?_
    refine o_callP X12 hx hZ 0 (argsL := [.int (2 : Int32), .ref r2, .long p0, .long p8]) (rest := []) (a := r0) hown (w 32 _ rfl) (w 3 _ rfl) (w 34 _ rfl) (w 33 _ rfl) (w 4 _ rfl) (w 35 _ rfl) (by decide) (rm5s20 l Z a0 hw [] _ _ _ _ _ _ _ _ _ _ _ _ _ _ _ _ _ _ _ _ _ _ _ _ _ _ _ _ _ _ p0 p8 _ _ _ h0 n0 Z0 E_r0 F_elements_r0 F_ends_r0 F_orders_r0 F_placed_r0 F_size_r0 g_r0 E_r2 V_r1 O_r1 g_r1 V_r5 g_r5 V_r6 g_r6 ne_r0_r1 ne_r0_r5 ne_r1_r5 ne_r0_r6 ne_r1_r6 ne_r5_r6 ne_r0_r2 ne_r1_r2 (Ne.symm ne_r2_r5) (Ne.symm ne_r2_r6)) E_r0 (by decide) (by decide) (cells' := 0) rfl (slots' := 0) rfl (by decide) (by decide) e12 (by rw [hml]; rfl) (lenOf pd_6 rfl) rfl rfl (hb hby d6_80) (pc' := 83) rfl ?_
    intro T13 v13 L13 X13 hQ13
    obtain ⟨rfl, Nq13, Kq13, P13_0, P13_1, P13_2, P13_3, P13_4, P13_5, P13_6, P13_7, P13_8⟩ := hQ13
    have N13 := Fr.app N10 Nq13
    have E14_r2 := Exa.keep E_r2 Kq13
    have E14_r3 := Exa.keep E_r3 Kq13
    have E14_r4 := Exa.keep E_r4 Kq13
    have Z13 : n0 ≤ T13.heap.size := Nat.le_trans Z0 Kq13.1
    have K13 := Keep.trans K0 Kq13 (allS (Or.inl (List.mem_of_getElem? (i := 0) rfl)) (allS (Or.inl (List.mem_of_getElem? (i := 1) rfl)) (allS (Or.inl (List.mem_of_getElem? (i := 2) rfl)) (allS (Or.inl (List.mem_of_getElem? (i := 3) rfl)) all0))))
    show Go p e below _ (T13.setTop (mkF m 83 _ []))
    refine o_iload X13 hx (hb hby d6_83) (pc' := 85) rfl rfl ?_
    refine o_istoreN X13 hx (hb hby d6_85) (pc' := 86) rfl (L' := #[.val (.ref r0), .val (.int (0 : Int32)), .val (.ref r4), .val (.long p2), .second, .val (.long p10), .second, .val (.int (0 : Int32))]) rfl ?_
    refine o_goto X13 hx (hb hby d6_86) (by decide) (pc' := 21) (by decide) ?_
    refine o_iloadN X13 hx (hb hby d6_21) (pc' := 22) rfl rfl ?_
    refine o_ifY X13 hx (hb hby d6_22) (flt (by decide : ¬ ((0 : Int32) < (0 : Int32)))).2.2.2 (by decide) (pc' := 89) (by decide) ?_
    refine o_aloadN X13 hx (hb hby d6_89) (pc' := 90) rfl rfl rfl ?_
    refine o_iloadN X13 hx (hb hby d6_90) (pc' := 91) rfl rfl ?_
    refine o_aloadN X13 hx (hb hby d6_91) (pc' := 92) rfl rfl rfl ?_
    refine o_lloadN X13 hx (hb hby d6_92) (pc' := 93) rfl rfl ?_
    refine o_lload X13 hx (hb hby d6_93) (pc' := 95) rfl rfl ?_
    refine o_callP X13 hx hZ 0 (argsL := [.int (0 : Int32), .ref r4, .long p2, .long p10]) (rest := []) (a := r0) hown (w 32 _ rfl) (w 3 _ rfl) (w 34 _ rfl) (w 33 _ rfl) (w 4 _ rfl) (w 35 _ rfl) (by decide) (rm5s2 l Z a0 hw [] _ _ _ _ _ _ _ _ _ _ _ _ _ _ _ _ _ _ _ _ _ _ _ _ _ _ _ _ _ _ p2 p10 _ _ _ T13.heap n0 Z13 P13_0 P13_1 P13_2 P13_3 P13_4 P13_5 g_r0 E14_r4 P13_6 O_r1 g_r1 P13_7 g_r5 P13_8 g_r6 ne_r0_r1 ne_r0_r5 ne_r1_r5 ne_r0_r6 ne_r1_r6 ne_r5_r6 ne_r0_r4 ne_r1_r4 (Ne.symm ne_r4_r5) (Ne.symm ne_r4_r6)) P13_0 (by decide) (by decide) (cells' := 0) rfl (slots' := 0) rfl (by decide) (by decide) rfl (by rw [hml]; rfl) (lenOf pd_6 rfl) rfl rfl (hb hby d6_95) (pc' := 98) rfl ?_
    intro T15 v15 L15 X15 hQ15
    obtain ⟨rfl, Nq15, Kq15, P15_0, P15_1, P15_2, P15_3, P15_4, P15_5, P15_6, P15_7, P15_8⟩ := hQ15
    have N15 := Fr.app N13 Nq15
    have E16_r2 := Exa.keep E14_r2 Kq15
    have E16_r3 := Exa.keep E14_r3 Kq15
    have E16_r4 := Exa.keep E14_r4 Kq15
    have Z15 : n0 ≤ T15.heap.size := Nat.le_trans Z13 Kq15.1
    have K15 := Keep.trans K13 Kq15 (allS (Or.inl (List.mem_of_getElem? (i := 0) rfl)) (allS (Or.inl (List.mem_of_getElem? (i := 1) rfl)) (allS (Or.inl (List.mem_of_getElem? (i := 2) rfl)) (allS (Or.inl (List.mem_of_getElem? (i := 3) rfl)) all0))))
    show Go p e below _ (T15.setTop (mkF m 98 _ []))
    refine o_iloadN X15 hx (hb hby d6_98) (pc' := 99) rfl rfl ?_
    rw [← hOWE]
    exact o_retI X15 hx hlk hrt (hb hby d6_99) (by decide) (by decide) (Or.inr ⟨hc52_7, ⟨rfl, N15, K15, P15_0, P15_1, P15_2, P15_3, P15_4, P15_5, P15_6, P15_7, P15_8⟩⟩)
theorem ef_4s19 (m : MethodId) (x0 : Addr) (x1 : Addr) (x2 : Int64) (x3 : Int64) : entryFrame m #[(.ref x0), (.ref x1), (.long x2), (.long x3)] 6 = mkF m 0 #[.val (.ref x0), .val (.ref x1), .val (.long x2), .second, .val (.long x3), .second] [] := by first | (simp [entryFrame, mkF, argsToLocals, Value.category]; done) | rfl
def Q4s19 (Z : State) (r0 : Addr) (r1 : Addr) (r2 : Addr) (r3 : Addr) (r4 : Addr) (r5 : Addr) (r6 : Addr) (p0 : Int64) (p1 : Int64) (p2 : Int64) (p3 : Int64) (p4 : Int64) (p5 : Int64) (p6 : Int64) (p7 : Int64) (p8 : Int64) (p9 : Int64) (p10 : Int64) (p11 : Int64) (p12 : Int64) (p13 : Int64) (p14 : Int64) (p15 : Int64) (p16 : Int64) (p17 : Int64) (k_r1 : ClassId) (k_r4 : ClassId) (k_r5 : ClassId) (h0 : Heap) (n0 : Nat) (v : Option Value) (h : Heap) (L : List Loc) : Prop := (((o5 p16 p17 p0 p8) = (0 : Int32) ∧ (v = none ∧ Fr n0 L ∧ Keep h0 h [r0, r1, r4, r5] ∧ Exa Z h r0 cN0 ∧ Fld Z h r0 cN0 "elements" "[Ljava/lang/Object;" (.ref r1) ∧ Fld Z h r0 cN0 "ends" "[J" (.ref r4) ∧ Fld Z h r0 cN0 "orders" "[J" (.ref r5) ∧ Fld Z h r0 cN0 "placed" "Ljava/util/function/ObjIntConsumer;" (.null) ∧ Fld Z h r0 cN0 "size" "I" (.int (3 : Int32)) ∧ Arv Z h r1 k_r1 (.object "java/lang/Object") (8 : Int32) [.ref r2, .ref r3, .ref r6, .null, .null, .null, .null, .null] (.null) ∧ Arv Z h r4 k_r4 .long (8 : Int32) [.long p0, .long p1, .long p16, .long p3, .long p4, .long p5, .long p6, .long p7] (.long (0 : Int64)) ∧ Arv Z h r5 k_r5 .long (8 : Int32) [.long p8, .long p9, .long p17, .long p11, .long p12, .long p13, .long p14, .long p15] (.long (0 : Int64)))) ∨ (¬ ((o5 p16 p17 p0 p8) = (0 : Int32)) ∧ (v = none ∧ Fr n0 L ∧ Keep h0 h [r0, r1, r4, r5] ∧ Exa Z h r0 cN0 ∧ Fld Z h r0 cN0 "elements" "[Ljava/lang/Object;" (.ref r1) ∧ Fld Z h r0 cN0 "ends" "[J" (.ref r4) ∧ Fld Z h r0 cN0 "orders" "[J" (.ref r5) ∧ Fld Z h r0 cN0 "placed" "Ljava/util/function/ObjIntConsumer;" (.null) ∧ Fld Z h r0 cN0 "size" "I" (.int (3 : Int32)) ∧ Arv Z h r1 k_r1 (.object "java/lang/Object") (8 : Int32) [.ref r6, .ref r3, .ref r2, .null, .null, .null, .null, .null] (.null) ∧ Arv Z h r4 k_r4 .long (8 : Int32) [.long p16, .long p1, .long p0, .long p3, .long p4, .long p5, .long p6, .long p7] (.long (0 : Int64)) ∧ Arv Z h r5 k_r5 .long (8 : Int32) [.long p17, .long p9, .long p8, .long p11, .long p12, .long p13, .long p14, .long p15] (.long (0 : Int64)))))
set_option maxRecDepth 65536 in
set_option maxHeartbeats 40000000 in
theorem rm4s19 (l : Launch) (Z : State) (a0 : Array Value) (hw : ∀ d ∈ tables_1, d.before a0 Z = true) (ws : List Jvm.Cond) (r0 : Addr) (r1 : Addr) (r2 : Addr) (r3 : Addr) (r4 : Addr) (r5 : Addr) (r6 : Addr) (p0 : Int64) (p1 : Int64) (p2 : Int64) (p3 : Int64) (p4 : Int64) (p5 : Int64) (p6 : Int64) (p7 : Int64) (p8 : Int64) (p9 : Int64) (p10 : Int64) (p11 : Int64) (p12 : Int64) (p13 : Int64) (p14 : Int64) (p15 : Int64) (p16 : Int64) (p17 : Int64) (k_r1 : ClassId) (k_r4 : ClassId) (k_r5 : ClassId) (h0 : Heap) (n0 : Nat) (Z0 : n0 ≤ h0.size) (E_r0 : Exa Z h0 r0 cN0) (F_elements_r0 : Fld Z h0 r0 cN0 "elements" "[Ljava/lang/Object;" (.ref r1)) (F_ends_r0 : Fld Z h0 r0 cN0 "ends" "[J" (.ref r4)) (F_orders_r0 : Fld Z h0 r0 cN0 "orders" "[J" (.ref r5)) (F_placed_r0 : Fld Z h0 r0 cN0 "placed" "Ljava/util/function/ObjIntConsumer;" (.null)) (F_size_r0 : Fld Z h0 r0 cN0 "size" "I" (.int (2 : Int32))) (g_r0 : n0 ≤ r0) (E_r2 : Exa Z h0 r2 "[I") (E_r3 : Exa Z h0 r3 "[I") (E_r6 : Exa Z h0 r6 "[I") (V_r1 : Arv Z h0 r1 k_r1 (.object "java/lang/Object") (8 : Int32) [.ref r2, .ref r3, .null, .null, .null, .null, .null, .null] (.null)) (O_r1 : Ovr Z k_r1 "java/lang/Object") (g_r1 : n0 ≤ r1) (V_r4 : Arv Z h0 r4 k_r4 .long (8 : Int32) [.long p0, .long p1, .long p2, .long p3, .long p4, .long p5, .long p6, .long p7] (.long (0 : Int64))) (g_r4 : n0 ≤ r4) (V_r5 : Arv Z h0 r5 k_r5 .long (8 : Int32) [.long p8, .long p9, .long p10, .long p11, .long p12, .long p13, .long p14, .long p15] (.long (0 : Int64))) (g_r5 : n0 ≤ r5) (ne_r0_r1 : r0 ≠ r1) (ne_r0_r2 : r0 ≠ r2) (ne_r1_r2 : r1 ≠ r2) (ne_r0_r3 : r0 ≠ r3) (ne_r1_r3 : r1 ≠ r3) (ne_r2_r3 : r2 ≠ r3) (ne_r0_r4 : r0 ≠ r4) (ne_r1_r4 : r1 ≠ r4) (ne_r2_r4 : r2 ≠ r4) (ne_r3_r4 : r3 ≠ r4) (ne_r0_r5 : r0 ≠ r5) (ne_r1_r5 : r1 ≠ r5) (ne_r2_r5 : r2 ≠ r5) (ne_r3_r5 : r3 ≠ r5) (ne_r4_r5 : r4 ≠ r5) (ne_r0_r6 : r0 ≠ r6) (ne_r1_r6 : r1 ≠ r6) (ne_r2_r6 : r2 ≠ r6) (ne_r3_r6 : r3 ≠ r6) (ne_r4_r6 : r4 ≠ r6) (ne_r5_r6 : r5 ≠ r6) :
    Con l (⟨cN0, "add", "(Ljava/lang/Object;JJ)V"⟩ : MethodName) prog_31_method_6_code 6 none ws ({ frames := 2, cells := 0, slots := 0, locals := 38 } : Room) #[(.ref r0), (.ref r6), (.long p16), (.long p17)] Z h0 (Q4s19 Z r0 r1 r2 r3 r4 r5 r6 p0 p1 p2 p3 p4 p5 p6 p7 p8 p9 p10 p11 p12 p13 p14 p15 p16 p17 k_r1 k_r4 k_r5 h0 n0) ({ frames := 2, cells := 0, slots := 0, locals := 38 } : Room).cells ({ frames := 2, cells := 0, slots := 0, locals := 38 } : Room).slots := by
  refine own_body (plainFor_of_name pn_2) ?_
  intro p e s m below meth c s₁ hx hby hlk hml hown hnm hrt hZ X0 e0
  have w : ∀ (k : Nat) (d : Jvm.Cond), tables_1[k]? = some d → d.before a0 Z = true := fun k d h => hw d (List.mem_of_getElem? h)
  have N0 := Fr.nil n0
  have K0 := Keep.refl h0 [r0, r1, r4, r5]
  rw [ef_4s19]
  generalize hOWE : Owe s _ _ _ = OWE
  refine o_aloadN X0 hx (hb hby d4_0) (pc' := 1) rfl rfl rfl ?_
  refine o_getF X0 hx hZ hown (w 30 _ rfl) e0 F_size_r0 (hb hby d4_1) (pc' := 4) rfl ?_
  intro T1 X1 e1
  refine o_aloadN X1 hx (hb hby d4_4) (pc' := 5) rfl rfl rfl ?_
  refine o_getF X1 hx hZ hown (w 16 _ rfl) e1 F_elements_r0 (hb hby d4_5) (pc' := 8) rfl ?_
  intro T2 X2 e2
  refine o_arraylength X2 hx hZ e2 V_r1 (hb hby d4_8) (pc' := 9) rfl ?_
  refine o_cmpY X2 hx (hb hby d4_9) (feq (by decide : ¬ ((2 : Int32) = (8 : Int32)))).2 (by decide) (pc' := 63) (by decide) ?_
  refine o_aloadN X2 hx (hb hby d4_63) (pc' := 64) rfl rfl rfl ?_
  refine o_aloadN X2 hx (hb hby d4_64) (pc' := 65) rfl rfl rfl ?_
  refine o_getF X2 hx hZ hown (w 30 _ rfl) e2 F_size_r0 (hb hby d4_65) (pc' := 68) rfl ?_
  intro T3 X3 e3
  refine o_aloadN X3 hx (hb hby d4_68) (pc' := 69) rfl rfl rfl ?_
  refine o_lloadN X3 hx (hb hby d4_69) (pc' := 70) rfl rfl ?_
  refine o_lload X3 hx (hb hby d4_70) (pc' := 72) rfl rfl ?_
  refine o_callP X3 hx hZ 0 (argsL := [.int (2 : Int32), .ref r6, .long p16, .long p17]) (rest := []) (a := r0) hown (w 32 _ rfl) (w 3 _ rfl) (w 34 _ rfl) (w 33 _ rfl) (w 4 _ rfl) (w 35 _ rfl) (by decide) (rm5s20 l Z a0 hw [] _ _ _ _ _ _ _ _ _ _ _ _ _ _ _ _ _ _ _ _ _ _ _ _ _ _ _ _ _ _ p16 p17 _ _ _ h0 n0 Z0 E_r0 F_elements_r0 F_ends_r0 F_orders_r0 F_placed_r0 F_size_r0 g_r0 E_r6 V_r1 O_r1 g_r1 V_r4 g_r4 V_r5 g_r5 ne_r0_r1 ne_r0_r4 ne_r1_r4 ne_r0_r5 ne_r1_r5 ne_r4_r5 ne_r0_r6 ne_r1_r6 ne_r4_r6 ne_r5_r6) E_r0 (by decide) (by decide) (cells' := 0) rfl (slots' := 0) rfl (by decide) (by decide) e3 (by rw [hml]; rfl) (lenOf pd_6 rfl) rfl rfl (hb hby d4_72) (pc' := 75) rfl ?_
  intro T4 v4 L4 X4 hQ4
  obtain ⟨rfl, Nq4, Kq4, P4_0, P4_1, P4_2, P4_3, P4_4, P4_5, P4_6, P4_7, P4_8⟩ := hQ4
  have N4 := Fr.app N0 Nq4
  have E5_r2 := Exa.keep E_r2 Kq4
  have E5_r3 := Exa.keep E_r3 Kq4
  have E5_r6 := Exa.keep E_r6 Kq4
  have Z4 : n0 ≤ T4.heap.size := Nat.le_trans Z0 Kq4.1
  have K4 := Keep.trans K0 Kq4 (allS (Or.inl (List.mem_of_getElem? (i := 0) rfl)) (allS (Or.inl (List.mem_of_getElem? (i := 1) rfl)) (allS (Or.inl (List.mem_of_getElem? (i := 2) rfl)) (allS (Or.inl (List.mem_of_getElem? (i := 3) rfl)) all0))))
  show Go p e below _ (T4.setTop (mkF m 75 _ []))
  refine o_aloadN X4 hx (hb hby d4_75) (pc' := 76) rfl rfl rfl ?_
  refine o_aloadN X4 hx (hb hby d4_76) (pc' := 77) rfl rfl rfl ?_
  refine o_dup X4 hx (hb hby d4_77) (pc' := 78) rfl rfl ?_
  refine o_getF X4 hx hZ hown (w 30 _ rfl) rfl P4_5 (hb hby d4_78) (pc' := 81) rfl ?_
  intro T6 X6 e6
  refine o_dup_x1 X6 hx (hb hby d4_81) (pc' := 82) rfl rfl rfl ?_
  refine o_iconst X6 hx (1 : Int32) (hb hby d4_82) (pc' := 83) rfl (by decide) ?_
  refine o_iadd X6 hx (hb hby d4_83) (pc' := 84) rfl ?_
  rw [show ((2 : Int32) + (1 : Int32)) = (3 : Int32) from by decide]
  refine o_putF X6 hx hZ hown (w 30 _ rfl) e6 P4_5 P4_0 (Or.inl (w 31 _ rfl)) (w 3 _ rfl) (ty := .int) (by decide) rfl rfl (hb hby d4_84) (pc' := 87) rfl ?_
  intro T7 h7 X7 e7 W7
  have Fw7 := Fld.same W7 P4_5
  have E8_r0 := Exa.wr W7 P4_0
  have F8_r0_elements := Fld.other W7 P4_1 (Or.inr (slot_ne (C := cN0) (a0 := a0) (Or.inl (w 17 _ rfl)) (Or.inl (w 31 _ rfl)) (by decide) (t := (.array (.object "java/lang/Object"))) (t' := .int) (by decide) (by decide)))
  have F8_r0_ends := Fld.other W7 P4_2 (Or.inr (slot_ne (C := cN0) (a0 := a0) (Or.inl (w 20 _ rfl)) (Or.inl (w 31 _ rfl)) (by decide) (t := (.array .long)) (t' := .int) (by decide) (by decide)))
  have F8_r0_orders := Fld.other W7 P4_3 (Or.inr (slot_ne (C := cN0) (a0 := a0) (Or.inl (w 22 _ rfl)) (Or.inl (w 31 _ rfl)) (by decide) (t := (.array .long)) (t' := .int) (by decide) (by decide)))
  have F8_r0_placed := Fld.other W7 P4_4 (Or.inr (slot_ne (C := cN0) (a0 := a0) (Or.inr (w 24 _ rfl)) (Or.inl (w 31 _ rfl)) (by decide) (t := (.object "java/util/function/ObjIntConsumer")) (t' := .int) (by decide) (by decide)))
  have E8_r2 := Exa.wr W7 E5_r2
  have E8_r3 := Exa.wr W7 E5_r3
  have E8_r6 := Exa.wr W7 E5_r6
  have V8_r1 := Arv.other P4_6 W7 (Ne.symm ne_r0_r1)
  have V8_r4 := Arv.other P4_7 W7 (Ne.symm ne_r0_r4)
  have V8_r5 := Arv.other P4_8 W7 (Ne.symm ne_r0_r5)
  have N7 := Fr.snoc X7 N4 g_r0
  have Z7 : n0 ≤ h7.size := by rw [W7.size]; exact Z4
  have K7 := Keep.wr K4 W7 (Or.inl (List.mem_of_getElem? (i := 0) rfl))
  refine o_callP X7 hx hZ 0 (argsL := [.int (2 : Int32)]) (rest := []) (a := r0) hown (w 37 _ rfl) (w 3 _ rfl) (w 39 _ rfl) (w 38 _ rfl) (w 4 _ rfl) (w 40 _ rfl) (by decide) (rm6s21 l Z a0 hw [] _ _ _ _ _ _ _ _ _ _ _ _ _ _ _ _ _ _ _ _ _ _ _ _ _ _ h7 n0 Z7 E8_r0 F8_r0_elements F8_r0_ends F8_r0_orders F8_r0_placed Fw7 g_r0 E8_r2 E8_r3 E8_r6 V8_r1 O_r1 g_r1 V8_r4 g_r4 V8_r5 g_r5 ne_r0_r1 ne_r0_r2 ne_r1_r2 ne_r0_r3 ne_r1_r3 ne_r2_r3 ne_r0_r6 ne_r1_r6 ne_r2_r6 ne_r3_r6 ne_r0_r4 ne_r1_r4 ne_r2_r4 ne_r3_r4 (Ne.symm ne_r4_r6) ne_r0_r5 ne_r1_r5 ne_r2_r5 ne_r3_r5 (Ne.symm ne_r5_r6) ne_r4_r5) E8_r0 (by decide) (by decide) (cells' := 0) rfl (slots' := 0) rfl (by decide) (by decide) e7 (by rw [hml]; rfl) (lenOf pd_8 rfl) rfl rfl (hb hby d4_87) (pc' := 90) rfl ?_
  intro T9 v9 L9 X9 hQ9
  rcases hQ9 with ⟨hm87_10, hQ9⟩ | ⟨hm87_10, hQ9⟩
  · obtain ⟨rfl, Nq9, Kq9, P9_0, P9_1, P9_2, P9_3, P9_4, P9_5, P9_6, P9_7, P9_8⟩ := hQ9
    have N9 := Fr.app N7 Nq9
    have E11_r2 := Exa.keep E8_r2 Kq9
    have E11_r3 := Exa.keep E8_r3 Kq9
    have E11_r6 := Exa.keep E8_r6 Kq9
    have Z9 : n0 ≤ T9.heap.size := Nat.le_trans Z7 Kq9.1
    have K9 := Keep.trans K7 Kq9 (allS (Or.inl (List.mem_of_getElem? (i := 0) rfl)) (allS (Or.inl (List.mem_of_getElem? (i := 1) rfl)) (allS (Or.inl (List.mem_of_getElem? (i := 2) rfl)) (allS (Or.inl (List.mem_of_getElem? (i := 3) rfl)) all0))))
    show Go p e below _ (T9.setTop (mkF m 90 _ [.int (2 : Int32)]))
    refine o_pop X9 hx (hb hby d4_90) (pc' := 91) rfl rfl ?_
    rw [← hOWE]
    exact o_retV X9 hx hlk hrt (hb hby d4_91) (by decide) (by decide) (Or.inl ⟨hm87_10, ⟨rfl, N9, K9, P9_0, P9_1, P9_2, P9_3, P9_4, P9_5, P9_6, P9_7, P9_8⟩⟩)
  · obtain ⟨rfl, Nq9, Kq9, P9_0, P9_1, P9_2, P9_3, P9_4, P9_5, P9_6, P9_7, P9_8⟩ := hQ9
    have N9 := Fr.app N7 Nq9
    have E12_r2 := Exa.keep E8_r2 Kq9
    have E12_r3 := Exa.keep E8_r3 Kq9
    have E12_r6 := Exa.keep E8_r6 Kq9
    have Z9 : n0 ≤ T9.heap.size := Nat.le_trans Z7 Kq9.1
    have K9 := Keep.trans K7 Kq9 (allS (Or.inl (List.mem_of_getElem? (i := 0) rfl)) (allS (Or.inl (List.mem_of_getElem? (i := 1) rfl)) (allS (Or.inl (List.mem_of_getElem? (i := 2) rfl)) (allS (Or.inl (List.mem_of_getElem? (i := 3) rfl)) all0))))
    show Go p e below _ (T9.setTop (mkF m 90 _ [.int (0 : Int32)]))
    refine o_pop X9 hx (hb hby d4_90) (pc' := 91) rfl rfl ?_
    rw [← hOWE]
    exact o_retV X9 hx hlk hrt (hb hby d4_91) (by decide) (by decide) (Or.inr ⟨hm87_10, ⟨rfl, N9, K9, P9_0, P9_1, P9_2, P9_3, P9_4, P9_5, P9_6, P9_7, P9_8⟩⟩)
theorem ef_9s23 (m : MethodId) (x0 : Addr) (x1 : Addr) : entryFrame m #[(.ref x0), (.ref x1)] 3 = mkF m 0 #[.val (.ref x0), .val (.ref x1), .unset] [] := by first | (simp [entryFrame, mkF, argsToLocals, Value.category]; done) | rfl
def Q9s23 (Z : State) (r0 : Addr) (r1 : Addr) (r2 : Addr) (r3 : Addr) (r4 : Addr) (k_r1 : ClassId) (h0 : Heap) (n0 : Nat) (v : Option Value) (h : Heap) (L : List Loc) : Prop := (v = some (.int (0 : Int32)) ∧ Fr n0 L ∧ h = h0)
set_option maxRecDepth 65536 in
set_option maxHeartbeats 40000000 in
theorem rm9s23 (l : Launch) (Z : State) (a0 : Array Value) (hw : ∀ d ∈ tables_1, d.before a0 Z = true) (ws : List Jvm.Cond) (r0 : Addr) (r1 : Addr) (r2 : Addr) (r3 : Addr) (r4 : Addr) (k_r1 : ClassId) (h0 : Heap) (n0 : Nat) (Z0 : n0 ≤ h0.size) (E_r0 : Exa Z h0 r0 cN0) (F_elements_r0 : Fld Z h0 r0 cN0 "elements" "[Ljava/lang/Object;" (.ref r1)) (F_size_r0 : Fld Z h0 r0 cN0 "size" "I" (.int (3 : Int32))) (E_r2 : Exa Z h0 r2 "[I") (E_r3 : Exa Z h0 r3 "[I") (E_r4 : Exa Z h0 r4 "[I") (V_r1 : Arv Z h0 r1 k_r1 (.object "java/lang/Object") (8 : Int32) [.ref r2, .ref r3, .ref r4, .null, .null, .null, .null, .null] (.null)) (O_r1 : Ovr Z k_r1 "java/lang/Object") (ne_r0_r1 : r0 ≠ r1) (ne_r0_r2 : r0 ≠ r2) (ne_r1_r2 : r1 ≠ r2) (ne_r0_r3 : r0 ≠ r3) (ne_r1_r3 : r1 ≠ r3) (ne_r2_r3 : r2 ≠ r3) (ne_r0_r4 : r0 ≠ r4) (ne_r1_r4 : r1 ≠ r4) (ne_r2_r4 : r2 ≠ r4) (ne_r3_r4 : r3 ≠ r4) :
    Con l (⟨cN0, "placeOf", "(Ljava/lang/Object;)I"⟩ : MethodName) prog_31_method_10_code 3 (some .int) ws ({ frames := 0, cells := 0, slots := 0, locals := 0 } : Room) #[(.ref r0), (.ref r2)] Z h0 (Q9s23 Z r0 r1 r2 r3 r4 k_r1 h0 n0) ({ frames := 0, cells := 0, slots := 0, locals := 0 } : Room).cells ({ frames := 0, cells := 0, slots := 0, locals := 0 } : Room).slots := by
  refine own_body (plainFor_of_name pn_2) ?_
  intro p e s m below meth c s₁ hx hby hlk hml hown hnm hrt hZ X0 e0
  have w : ∀ (k : Nat) (d : Jvm.Cond), tables_1[k]? = some d → d.before a0 Z = true := fun k d h => hw d (List.mem_of_getElem? h)
  have N0 := Fr.nil n0
  rw [ef_9s23]
  generalize hOWE : Owe s _ _ _ = OWE
  refine o_iconst X0 hx (0 : Int32) (hb hby d9_0) (pc' := 1) rfl (by decide) ?_
  refine o_istoreN X0 hx (hb hby d9_1) (pc' := 2) rfl (L' := #[.val (.ref r0), .val (.ref r2), .val (.int (0 : Int32))]) rfl ?_
  refine o_iloadN X0 hx (hb hby d9_2) (pc' := 3) rfl rfl ?_
  refine o_aloadN X0 hx (hb hby d9_3) (pc' := 4) rfl rfl rfl ?_
  refine o_getF X0 hx hZ hown (w 30 _ rfl) e0 F_size_r0 (hb hby d9_4) (pc' := 7) rfl ?_
  intro T1 X1 e1
  refine o_cmpN X1 hx (hb hby d9_7) (tlt (by decide : (0 : Int32) < (3 : Int32))).2.1 (pc' := 10) rfl ?_
  refine o_aloadN X1 hx (hb hby d9_10) (pc' := 11) rfl rfl rfl ?_
  refine o_getF X1 hx hZ hown (w 16 _ rfl) e1 F_elements_r0 (hb hby d9_11) (pc' := 14) rfl ?_
  intro T2 X2 e2
  refine o_iloadN X2 hx (hb hby d9_14) (pc' := 15) rfl rfl ?_
  refine o_aaload X2 hx hZ (.ref r2) e2 V_r1 rfl (by decide) (by rfl) (hb hby d9_15) (pc' := 16) rfl ?_
  refine o_aloadN X2 hx (hb hby d9_16) (pc' := 17) rfl rfl rfl ?_
  refine Go.via (fun t k => Jvm.RoadKit.acmp (g := mkF m 17 #[.val (.ref r0), .val (.ref r2), .val (.int (0 : Int32))] [.ref r2, .ref r2]) X2 hx rfl (x := .ref r2) (y := .ref r2) rfl rfl (pc0 := 17) (pc' := 20) (same := true) rfl (hb hby d9_17) rfl (decide_eq_true rfl) (by decide) (by decide) k) ?_
  show Go p e below _ (T2.setTop (mkF m 20 _ []))
  refine o_iloadN X2 hx (hb hby d9_20) (pc' := 21) rfl rfl ?_
  rw [← hOWE]
  exact o_retI X2 hx hlk hrt (hb hby d9_21) (by decide) (by decide) (by rw [e2]; exact ⟨rfl, N0, rfl⟩)
theorem ef_9s24 (m : MethodId) (x0 : Addr) (x1 : Addr) : entryFrame m #[(.ref x0), (.ref x1)] 3 = mkF m 0 #[.val (.ref x0), .val (.ref x1), .unset] [] := by first | (simp [entryFrame, mkF, argsToLocals, Value.category]; done) | rfl
def Q9s24 (Z : State) (r0 : Addr) (r1 : Addr) (r2 : Addr) (r3 : Addr) (r4 : Addr) (k_r1 : ClassId) (h0 : Heap) (n0 : Nat) (v : Option Value) (h : Heap) (L : List Loc) : Prop := (v = some (.int (1 : Int32)) ∧ Fr n0 L ∧ h = h0)
set_option maxRecDepth 65536 in
set_option maxHeartbeats 40000000 in
theorem rm9s24 (l : Launch) (Z : State) (a0 : Array Value) (hw : ∀ d ∈ tables_1, d.before a0 Z = true) (ws : List Jvm.Cond) (r0 : Addr) (r1 : Addr) (r2 : Addr) (r3 : Addr) (r4 : Addr) (k_r1 : ClassId) (h0 : Heap) (n0 : Nat) (Z0 : n0 ≤ h0.size) (E_r0 : Exa Z h0 r0 cN0) (F_elements_r0 : Fld Z h0 r0 cN0 "elements" "[Ljava/lang/Object;" (.ref r1)) (F_size_r0 : Fld Z h0 r0 cN0 "size" "I" (.int (3 : Int32))) (E_r2 : Exa Z h0 r2 "[I") (E_r3 : Exa Z h0 r3 "[I") (E_r4 : Exa Z h0 r4 "[I") (V_r1 : Arv Z h0 r1 k_r1 (.object "java/lang/Object") (8 : Int32) [.ref r2, .ref r3, .ref r4, .null, .null, .null, .null, .null] (.null)) (O_r1 : Ovr Z k_r1 "java/lang/Object") (ne_r0_r1 : r0 ≠ r1) (ne_r0_r2 : r0 ≠ r2) (ne_r1_r2 : r1 ≠ r2) (ne_r0_r3 : r0 ≠ r3) (ne_r1_r3 : r1 ≠ r3) (ne_r2_r3 : r2 ≠ r3) (ne_r0_r4 : r0 ≠ r4) (ne_r1_r4 : r1 ≠ r4) (ne_r2_r4 : r2 ≠ r4) (ne_r3_r4 : r3 ≠ r4) :
    Con l (⟨cN0, "placeOf", "(Ljava/lang/Object;)I"⟩ : MethodName) prog_31_method_10_code 3 (some .int) ws ({ frames := 0, cells := 0, slots := 0, locals := 0 } : Room) #[(.ref r0), (.ref r3)] Z h0 (Q9s24 Z r0 r1 r2 r3 r4 k_r1 h0 n0) ({ frames := 0, cells := 0, slots := 0, locals := 0 } : Room).cells ({ frames := 0, cells := 0, slots := 0, locals := 0 } : Room).slots := by
  refine own_body (plainFor_of_name pn_2) ?_
  intro p e s m below meth c s₁ hx hby hlk hml hown hnm hrt hZ X0 e0
  have w : ∀ (k : Nat) (d : Jvm.Cond), tables_1[k]? = some d → d.before a0 Z = true := fun k d h => hw d (List.mem_of_getElem? h)
  have N0 := Fr.nil n0
  rw [ef_9s24]
  generalize hOWE : Owe s _ _ _ = OWE
  refine o_iconst X0 hx (0 : Int32) (hb hby d9_0) (pc' := 1) rfl (by decide) ?_
  refine o_istoreN X0 hx (hb hby d9_1) (pc' := 2) rfl (L' := #[.val (.ref r0), .val (.ref r3), .val (.int (0 : Int32))]) rfl ?_
  refine o_iloadN X0 hx (hb hby d9_2) (pc' := 3) rfl rfl ?_
  refine o_aloadN X0 hx (hb hby d9_3) (pc' := 4) rfl rfl rfl ?_
  refine o_getF X0 hx hZ hown (w 30 _ rfl) e0 F_size_r0 (hb hby d9_4) (pc' := 7) rfl ?_
  intro T1 X1 e1
  refine o_cmpN X1 hx (hb hby d9_7) (tlt (by decide : (0 : Int32) < (3 : Int32))).2.1 (pc' := 10) rfl ?_
  refine o_aloadN X1 hx (hb hby d9_10) (pc' := 11) rfl rfl rfl ?_
  refine o_getF X1 hx hZ hown (w 16 _ rfl) e1 F_elements_r0 (hb hby d9_11) (pc' := 14) rfl ?_
  intro T2 X2 e2
  refine o_iloadN X2 hx (hb hby d9_14) (pc' := 15) rfl rfl ?_
  refine o_aaload X2 hx hZ (.ref r2) e2 V_r1 rfl (by decide) (by rfl) (hb hby d9_15) (pc' := 16) rfl ?_
  refine o_aloadN X2 hx (hb hby d9_16) (pc' := 17) rfl rfl rfl ?_
  refine Go.via (fun t k => Jvm.RoadKit.acmp (g := mkF m 17 #[.val (.ref r0), .val (.ref r3), .val (.int (0 : Int32))] [.ref r3, .ref r2]) X2 hx rfl (x := .ref r2) (y := .ref r3) rfl rfl (pc0 := 17) (pc' := 22) (same := false) rfl (hb hby d9_17) rfl (decide_eq_false (fun q => ne_r2_r3 (Value.ref.inj q))) (by decide) (by decide) k) ?_
  show Go p e below _ (T2.setTop (mkF m 22 _ []))
  refine o_iinc X2 hx (hb hby d9_22) (pc' := 25) rfl rfl (v' := (1 : Int32)) (by first | rfl | decide) (L' := #[.val (.ref r0), .val (.ref r3), .val (.int (1 : Int32))]) rfl ?_
  refine o_goto X2 hx (hb hby d9_25) (by decide) (pc' := 2) (by decide) ?_
  refine o_iloadN X2 hx (hb hby d9_2) (pc' := 3) rfl rfl ?_
  refine o_aloadN X2 hx (hb hby d9_3) (pc' := 4) rfl rfl rfl ?_
  refine o_getF X2 hx hZ hown (w 30 _ rfl) e2 F_size_r0 (hb hby d9_4) (pc' := 7) rfl ?_
  intro T3 X3 e3
  refine o_cmpN X3 hx (hb hby d9_7) (tlt (by decide : (1 : Int32) < (3 : Int32))).2.1 (pc' := 10) rfl ?_
  refine o_aloadN X3 hx (hb hby d9_10) (pc' := 11) rfl rfl rfl ?_
  refine o_getF X3 hx hZ hown (w 16 _ rfl) e3 F_elements_r0 (hb hby d9_11) (pc' := 14) rfl ?_
  intro T4 X4 e4
  refine o_iloadN X4 hx (hb hby d9_14) (pc' := 15) rfl rfl ?_
  refine o_aaload X4 hx hZ (.ref r3) e4 V_r1 rfl (by decide) (by rfl) (hb hby d9_15) (pc' := 16) rfl ?_
  refine o_aloadN X4 hx (hb hby d9_16) (pc' := 17) rfl rfl rfl ?_
  refine Go.via (fun t k => Jvm.RoadKit.acmp (g := mkF m 17 #[.val (.ref r0), .val (.ref r3), .val (.int (1 : Int32))] [.ref r3, .ref r3]) X4 hx rfl (x := .ref r3) (y := .ref r3) rfl rfl (pc0 := 17) (pc' := 20) (same := true) rfl (hb hby d9_17) rfl (decide_eq_true rfl) (by decide) (by decide) k) ?_
  show Go p e below _ (T4.setTop (mkF m 20 _ []))
  refine o_iloadN X4 hx (hb hby d9_20) (pc' := 21) rfl rfl ?_
  rw [← hOWE]
  exact o_retI X4 hx hlk hrt (hb hby d9_21) (by decide) (by decide) (by rw [e4]; exact ⟨rfl, N0, rfl⟩)
theorem ef_9s25 (m : MethodId) (x0 : Addr) (x1 : Addr) : entryFrame m #[(.ref x0), (.ref x1)] 3 = mkF m 0 #[.val (.ref x0), .val (.ref x1), .unset] [] := by first | (simp [entryFrame, mkF, argsToLocals, Value.category]; done) | rfl
def Q9s25 (Z : State) (r0 : Addr) (r1 : Addr) (r2 : Addr) (r3 : Addr) (r4 : Addr) (k_r1 : ClassId) (h0 : Heap) (n0 : Nat) (v : Option Value) (h : Heap) (L : List Loc) : Prop := (v = some (.int (2 : Int32)) ∧ Fr n0 L ∧ h = h0)
set_option maxRecDepth 65536 in
set_option maxHeartbeats 40000000 in
theorem rm9s25 (l : Launch) (Z : State) (a0 : Array Value) (hw : ∀ d ∈ tables_1, d.before a0 Z = true) (ws : List Jvm.Cond) (r0 : Addr) (r1 : Addr) (r2 : Addr) (r3 : Addr) (r4 : Addr) (k_r1 : ClassId) (h0 : Heap) (n0 : Nat) (Z0 : n0 ≤ h0.size) (E_r0 : Exa Z h0 r0 cN0) (F_elements_r0 : Fld Z h0 r0 cN0 "elements" "[Ljava/lang/Object;" (.ref r1)) (F_size_r0 : Fld Z h0 r0 cN0 "size" "I" (.int (3 : Int32))) (E_r2 : Exa Z h0 r2 "[I") (E_r3 : Exa Z h0 r3 "[I") (E_r4 : Exa Z h0 r4 "[I") (V_r1 : Arv Z h0 r1 k_r1 (.object "java/lang/Object") (8 : Int32) [.ref r2, .ref r3, .ref r4, .null, .null, .null, .null, .null] (.null)) (O_r1 : Ovr Z k_r1 "java/lang/Object") (ne_r0_r1 : r0 ≠ r1) (ne_r0_r2 : r0 ≠ r2) (ne_r1_r2 : r1 ≠ r2) (ne_r0_r3 : r0 ≠ r3) (ne_r1_r3 : r1 ≠ r3) (ne_r2_r3 : r2 ≠ r3) (ne_r0_r4 : r0 ≠ r4) (ne_r1_r4 : r1 ≠ r4) (ne_r2_r4 : r2 ≠ r4) (ne_r3_r4 : r3 ≠ r4) :
    Con l (⟨cN0, "placeOf", "(Ljava/lang/Object;)I"⟩ : MethodName) prog_31_method_10_code 3 (some .int) ws ({ frames := 0, cells := 0, slots := 0, locals := 0 } : Room) #[(.ref r0), (.ref r4)] Z h0 (Q9s25 Z r0 r1 r2 r3 r4 k_r1 h0 n0) ({ frames := 0, cells := 0, slots := 0, locals := 0 } : Room).cells ({ frames := 0, cells := 0, slots := 0, locals := 0 } : Room).slots := by
  refine own_body (plainFor_of_name pn_2) ?_
  intro p e s m below meth c s₁ hx hby hlk hml hown hnm hrt hZ X0 e0
  have w : ∀ (k : Nat) (d : Jvm.Cond), tables_1[k]? = some d → d.before a0 Z = true := fun k d h => hw d (List.mem_of_getElem? h)
  have N0 := Fr.nil n0
  rw [ef_9s25]
  generalize hOWE : Owe s _ _ _ = OWE
  refine o_iconst X0 hx (0 : Int32) (hb hby d9_0) (pc' := 1) rfl (by decide) ?_
  refine o_istoreN X0 hx (hb hby d9_1) (pc' := 2) rfl (L' := #[.val (.ref r0), .val (.ref r4), .val (.int (0 : Int32))]) rfl ?_
  refine o_iloadN X0 hx (hb hby d9_2) (pc' := 3) rfl rfl ?_
  refine o_aloadN X0 hx (hb hby d9_3) (pc' := 4) rfl rfl rfl ?_
  refine o_getF X0 hx hZ hown (w 30 _ rfl) e0 F_size_r0 (hb hby d9_4) (pc' := 7) rfl ?_
  intro T1 X1 e1
  refine o_cmpN X1 hx (hb hby d9_7) (tlt (by decide : (0 : Int32) < (3 : Int32))).2.1 (pc' := 10) rfl ?_
  refine o_aloadN X1 hx (hb hby d9_10) (pc' := 11) rfl rfl rfl ?_
  refine o_getF X1 hx hZ hown (w 16 _ rfl) e1 F_elements_r0 (hb hby d9_11) (pc' := 14) rfl ?_
  intro T2 X2 e2
  refine o_iloadN X2 hx (hb hby d9_14) (pc' := 15) rfl rfl ?_
  refine o_aaload X2 hx hZ (.ref r2) e2 V_r1 rfl (by decide) (by rfl) (hb hby d9_15) (pc' := 16) rfl ?_
  refine o_aloadN X2 hx (hb hby d9_16) (pc' := 17) rfl rfl rfl ?_
  refine Go.via (fun t k => Jvm.RoadKit.acmp (g := mkF m 17 #[.val (.ref r0), .val (.ref r4), .val (.int (0 : Int32))] [.ref r4, .ref r2]) X2 hx rfl (x := .ref r2) (y := .ref r4) rfl rfl (pc0 := 17) (pc' := 22) (same := false) rfl (hb hby d9_17) rfl (decide_eq_false (fun q => ne_r2_r4 (Value.ref.inj q))) (by decide) (by decide) k) ?_
  show Go p e below _ (T2.setTop (mkF m 22 _ []))
  refine o_iinc X2 hx (hb hby d9_22) (pc' := 25) rfl rfl (v' := (1 : Int32)) (by first | rfl | decide) (L' := #[.val (.ref r0), .val (.ref r4), .val (.int (1 : Int32))]) rfl ?_
  refine o_goto X2 hx (hb hby d9_25) (by decide) (pc' := 2) (by decide) ?_
  refine o_iloadN X2 hx (hb hby d9_2) (pc' := 3) rfl rfl ?_
  refine o_aloadN X2 hx (hb hby d9_3) (pc' := 4) rfl rfl rfl ?_
  refine o_getF X2 hx hZ hown (w 30 _ rfl) e2 F_size_r0 (hb hby d9_4) (pc' := 7) rfl ?_
  intro T3 X3 e3
  refine o_cmpN X3 hx (hb hby d9_7) (tlt (by decide : (1 : Int32) < (3 : Int32))).2.1 (pc' := 10) rfl ?_
  refine o_aloadN X3 hx (hb hby d9_10) (pc' := 11) rfl rfl rfl ?_
  refine o_getF X3 hx hZ hown (w 16 _ rfl) e3 F_elements_r0 (hb hby d9_11) (pc' := 14) rfl ?_
  intro T4 X4 e4
  refine o_iloadN X4 hx (hb hby d9_14) (pc' := 15) rfl rfl ?_
  refine o_aaload X4 hx hZ (.ref r3) e4 V_r1 rfl (by decide) (by rfl) (hb hby d9_15) (pc' := 16) rfl ?_
  refine o_aloadN X4 hx (hb hby d9_16) (pc' := 17) rfl rfl rfl ?_
  refine Go.via (fun t k => Jvm.RoadKit.acmp (g := mkF m 17 #[.val (.ref r0), .val (.ref r4), .val (.int (1 : Int32))] [.ref r4, .ref r3]) X4 hx rfl (x := .ref r3) (y := .ref r4) rfl rfl (pc0 := 17) (pc' := 22) (same := false) rfl (hb hby d9_17) rfl (decide_eq_false (fun q => ne_r3_r4 (Value.ref.inj q))) (by decide) (by decide) k) ?_
  show Go p e below _ (T4.setTop (mkF m 22 _ []))
  refine o_iinc X4 hx (hb hby d9_22) (pc' := 25) rfl rfl (v' := (2 : Int32)) (by first | rfl | decide) (L' := #[.val (.ref r0), .val (.ref r4), .val (.int (2 : Int32))]) rfl ?_
  refine o_goto X4 hx (hb hby d9_25) (by decide) (pc' := 2) (by decide) ?_
  refine o_iloadN X4 hx (hb hby d9_2) (pc' := 3) rfl rfl ?_
  refine o_aloadN X4 hx (hb hby d9_3) (pc' := 4) rfl rfl rfl ?_
  refine o_getF X4 hx hZ hown (w 30 _ rfl) e4 F_size_r0 (hb hby d9_4) (pc' := 7) rfl ?_
  intro T5 X5 e5
  refine o_cmpN X5 hx (hb hby d9_7) (tlt (by decide : (2 : Int32) < (3 : Int32))).2.1 (pc' := 10) rfl ?_
  refine o_aloadN X5 hx (hb hby d9_10) (pc' := 11) rfl rfl rfl ?_
  refine o_getF X5 hx hZ hown (w 16 _ rfl) e5 F_elements_r0 (hb hby d9_11) (pc' := 14) rfl ?_
  intro T6 X6 e6
  refine o_iloadN X6 hx (hb hby d9_14) (pc' := 15) rfl rfl ?_
  refine o_aaload X6 hx hZ (.ref r4) e6 V_r1 rfl (by decide) (by rfl) (hb hby d9_15) (pc' := 16) rfl ?_
  refine o_aloadN X6 hx (hb hby d9_16) (pc' := 17) rfl rfl rfl ?_
  refine Go.via (fun t k => Jvm.RoadKit.acmp (g := mkF m 17 #[.val (.ref r0), .val (.ref r4), .val (.int (2 : Int32))] [.ref r4, .ref r4]) X6 hx rfl (x := .ref r4) (y := .ref r4) rfl rfl (pc0 := 17) (pc' := 20) (same := true) rfl (hb hby d9_17) rfl (decide_eq_true rfl) (by decide) (by decide) k) ?_
  show Go p e below _ (T6.setTop (mkF m 20 _ []))
  refine o_iloadN X6 hx (hb hby d9_20) (pc' := 21) rfl rfl ?_
  rw [← hOWE]
  exact o_retI X6 hx hlk hrt (hb hby d9_21) (by decide) (by decide) (by rw [e6]; exact ⟨rfl, N0, rfl⟩)
theorem ef_9s26 (m : MethodId) (x0 : Addr) (x1 : Addr) : entryFrame m #[(.ref x0), (.ref x1)] 3 = mkF m 0 #[.val (.ref x0), .val (.ref x1), .unset] [] := by first | (simp [entryFrame, mkF, argsToLocals, Value.category]; done) | rfl
def Q9s26 (Z : State) (r0 : Addr) (r1 : Addr) (r2 : Addr) (r3 : Addr) (r4 : Addr) (r5 : Addr) (k_r1 : ClassId) (h0 : Heap) (n0 : Nat) (v : Option Value) (h : Heap) (L : List Loc) : Prop := (v = some (.int (-1 : Int32)) ∧ Fr n0 L ∧ h = h0)
set_option maxRecDepth 65536 in
set_option maxHeartbeats 40000000 in
theorem rm9s26 (l : Launch) (Z : State) (a0 : Array Value) (hw : ∀ d ∈ tables_1, d.before a0 Z = true) (ws : List Jvm.Cond) (r0 : Addr) (r1 : Addr) (r2 : Addr) (r3 : Addr) (r4 : Addr) (r5 : Addr) (k_r1 : ClassId) (h0 : Heap) (n0 : Nat) (Z0 : n0 ≤ h0.size) (E_r0 : Exa Z h0 r0 cN0) (F_elements_r0 : Fld Z h0 r0 cN0 "elements" "[Ljava/lang/Object;" (.ref r1)) (F_size_r0 : Fld Z h0 r0 cN0 "size" "I" (.int (3 : Int32))) (E_r2 : Exa Z h0 r2 "[I") (E_r3 : Exa Z h0 r3 "[I") (E_r4 : Exa Z h0 r4 "[I") (E_r5 : Exa Z h0 r5 "[I") (V_r1 : Arv Z h0 r1 k_r1 (.object "java/lang/Object") (8 : Int32) [.ref r2, .ref r3, .ref r4, .null, .null, .null, .null, .null] (.null)) (O_r1 : Ovr Z k_r1 "java/lang/Object") (ne_r0_r1 : r0 ≠ r1) (ne_r0_r2 : r0 ≠ r2) (ne_r1_r2 : r1 ≠ r2) (ne_r0_r3 : r0 ≠ r3) (ne_r1_r3 : r1 ≠ r3) (ne_r2_r3 : r2 ≠ r3) (ne_r0_r4 : r0 ≠ r4) (ne_r1_r4 : r1 ≠ r4) (ne_r2_r4 : r2 ≠ r4) (ne_r3_r4 : r3 ≠ r4) (ne_r0_r5 : r0 ≠ r5) (ne_r1_r5 : r1 ≠ r5) (ne_r2_r5 : r2 ≠ r5) (ne_r3_r5 : r3 ≠ r5) (ne_r4_r5 : r4 ≠ r5) :
    Con l (⟨cN0, "placeOf", "(Ljava/lang/Object;)I"⟩ : MethodName) prog_31_method_10_code 3 (some .int) ws ({ frames := 0, cells := 0, slots := 0, locals := 0 } : Room) #[(.ref r0), (.ref r5)] Z h0 (Q9s26 Z r0 r1 r2 r3 r4 r5 k_r1 h0 n0) ({ frames := 0, cells := 0, slots := 0, locals := 0 } : Room).cells ({ frames := 0, cells := 0, slots := 0, locals := 0 } : Room).slots := by
  refine own_body (plainFor_of_name pn_2) ?_
  intro p e s m below meth c s₁ hx hby hlk hml hown hnm hrt hZ X0 e0
  have w : ∀ (k : Nat) (d : Jvm.Cond), tables_1[k]? = some d → d.before a0 Z = true := fun k d h => hw d (List.mem_of_getElem? h)
  have N0 := Fr.nil n0
  rw [ef_9s26]
  generalize hOWE : Owe s _ _ _ = OWE
  refine o_iconst X0 hx (0 : Int32) (hb hby d9_0) (pc' := 1) rfl (by decide) ?_
  refine o_istoreN X0 hx (hb hby d9_1) (pc' := 2) rfl (L' := #[.val (.ref r0), .val (.ref r5), .val (.int (0 : Int32))]) rfl ?_
  refine o_iloadN X0 hx (hb hby d9_2) (pc' := 3) rfl rfl ?_
  refine o_aloadN X0 hx (hb hby d9_3) (pc' := 4) rfl rfl rfl ?_
  refine o_getF X0 hx hZ hown (w 30 _ rfl) e0 F_size_r0 (hb hby d9_4) (pc' := 7) rfl ?_
  intro T1 X1 e1
  refine o_cmpN X1 hx (hb hby d9_7) (tlt (by decide : (0 : Int32) < (3 : Int32))).2.1 (pc' := 10) rfl ?_
  refine o_aloadN X1 hx (hb hby d9_10) (pc' := 11) rfl rfl rfl ?_
  refine o_getF X1 hx hZ hown (w 16 _ rfl) e1 F_elements_r0 (hb hby d9_11) (pc' := 14) rfl ?_
  intro T2 X2 e2
  refine o_iloadN X2 hx (hb hby d9_14) (pc' := 15) rfl rfl ?_
  refine o_aaload X2 hx hZ (.ref r2) e2 V_r1 rfl (by decide) (by rfl) (hb hby d9_15) (pc' := 16) rfl ?_
  refine o_aloadN X2 hx (hb hby d9_16) (pc' := 17) rfl rfl rfl ?_
  refine Go.via (fun t k => Jvm.RoadKit.acmp (g := mkF m 17 #[.val (.ref r0), .val (.ref r5), .val (.int (0 : Int32))] [.ref r5, .ref r2]) X2 hx rfl (x := .ref r2) (y := .ref r5) rfl rfl (pc0 := 17) (pc' := 22) (same := false) rfl (hb hby d9_17) rfl (decide_eq_false (fun q => ne_r2_r5 (Value.ref.inj q))) (by decide) (by decide) k) ?_
  show Go p e below _ (T2.setTop (mkF m 22 _ []))
  refine o_iinc X2 hx (hb hby d9_22) (pc' := 25) rfl rfl (v' := (1 : Int32)) (by first | rfl | decide) (L' := #[.val (.ref r0), .val (.ref r5), .val (.int (1 : Int32))]) rfl ?_
  refine o_goto X2 hx (hb hby d9_25) (by decide) (pc' := 2) (by decide) ?_
  refine o_iloadN X2 hx (hb hby d9_2) (pc' := 3) rfl rfl ?_
  refine o_aloadN X2 hx (hb hby d9_3) (pc' := 4) rfl rfl rfl ?_
  refine o_getF X2 hx hZ hown (w 30 _ rfl) e2 F_size_r0 (hb hby d9_4) (pc' := 7) rfl ?_
  intro T3 X3 e3
  refine o_cmpN X3 hx (hb hby d9_7) (tlt (by decide : (1 : Int32) < (3 : Int32))).2.1 (pc' := 10) rfl ?_
  refine o_aloadN X3 hx (hb hby d9_10) (pc' := 11) rfl rfl rfl ?_
  refine o_getF X3 hx hZ hown (w 16 _ rfl) e3 F_elements_r0 (hb hby d9_11) (pc' := 14) rfl ?_
  intro T4 X4 e4
  refine o_iloadN X4 hx (hb hby d9_14) (pc' := 15) rfl rfl ?_
  refine o_aaload X4 hx hZ (.ref r3) e4 V_r1 rfl (by decide) (by rfl) (hb hby d9_15) (pc' := 16) rfl ?_
  refine o_aloadN X4 hx (hb hby d9_16) (pc' := 17) rfl rfl rfl ?_
  refine Go.via (fun t k => Jvm.RoadKit.acmp (g := mkF m 17 #[.val (.ref r0), .val (.ref r5), .val (.int (1 : Int32))] [.ref r5, .ref r3]) X4 hx rfl (x := .ref r3) (y := .ref r5) rfl rfl (pc0 := 17) (pc' := 22) (same := false) rfl (hb hby d9_17) rfl (decide_eq_false (fun q => ne_r3_r5 (Value.ref.inj q))) (by decide) (by decide) k) ?_
  show Go p e below _ (T4.setTop (mkF m 22 _ []))
  refine o_iinc X4 hx (hb hby d9_22) (pc' := 25) rfl rfl (v' := (2 : Int32)) (by first | rfl | decide) (L' := #[.val (.ref r0), .val (.ref r5), .val (.int (2 : Int32))]) rfl ?_
  refine o_goto X4 hx (hb hby d9_25) (by decide) (pc' := 2) (by decide) ?_
  refine o_iloadN X4 hx (hb hby d9_2) (pc' := 3) rfl rfl ?_
  refine o_aloadN X4 hx (hb hby d9_3) (pc' := 4) rfl rfl rfl ?_
  refine o_getF X4 hx hZ hown (w 30 _ rfl) e4 F_size_r0 (hb hby d9_4) (pc' := 7) rfl ?_
  intro T5 X5 e5
  refine o_cmpN X5 hx (hb hby d9_7) (tlt (by decide : (2 : Int32) < (3 : Int32))).2.1 (pc' := 10) rfl ?_
  refine o_aloadN X5 hx (hb hby d9_10) (pc' := 11) rfl rfl rfl ?_
  refine o_getF X5 hx hZ hown (w 16 _ rfl) e5 F_elements_r0 (hb hby d9_11) (pc' := 14) rfl ?_
  intro T6 X6 e6
  refine o_iloadN X6 hx (hb hby d9_14) (pc' := 15) rfl rfl ?_
  refine o_aaload X6 hx hZ (.ref r4) e6 V_r1 rfl (by decide) (by rfl) (hb hby d9_15) (pc' := 16) rfl ?_
  refine o_aloadN X6 hx (hb hby d9_16) (pc' := 17) rfl rfl rfl ?_
  refine Go.via (fun t k => Jvm.RoadKit.acmp (g := mkF m 17 #[.val (.ref r0), .val (.ref r5), .val (.int (2 : Int32))] [.ref r5, .ref r4]) X6 hx rfl (x := .ref r4) (y := .ref r5) rfl rfl (pc0 := 17) (pc' := 22) (same := false) rfl (hb hby d9_17) rfl (decide_eq_false (fun q => ne_r4_r5 (Value.ref.inj q))) (by decide) (by decide) k) ?_
  show Go p e below _ (T6.setTop (mkF m 22 _ []))
  refine o_iinc X6 hx (hb hby d9_22) (pc' := 25) rfl rfl (v' := (3 : Int32)) (by first | rfl | decide) (L' := #[.val (.ref r0), .val (.ref r5), .val (.int (3 : Int32))]) rfl ?_
  refine o_goto X6 hx (hb hby d9_25) (by decide) (pc' := 2) (by decide) ?_
  refine o_iloadN X6 hx (hb hby d9_2) (pc' := 3) rfl rfl ?_
  refine o_aloadN X6 hx (hb hby d9_3) (pc' := 4) rfl rfl rfl ?_
  refine o_getF X6 hx hZ hown (w 30 _ rfl) e6 F_size_r0 (hb hby d9_4) (pc' := 7) rfl ?_
  intro T7 X7 e7
  refine o_cmpY X7 hx (hb hby d9_7) (flt (by decide : ¬ ((3 : Int32) < (3 : Int32)))).2.1 (by decide) (pc' := 28) (by decide) ?_
  refine o_iconst X7 hx (-1 : Int32) (hb hby d9_28) (pc' := 29) rfl (by decide) ?_
  rw [← hOWE]
  exact o_retI X7 hx hlk hrt (hb hby d9_29) (by decide) (by decide) (by rw [e7]; exact ⟨rfl, N0, rfl⟩)
theorem ef_6s28 (m : MethodId) (x0 : Addr) (x1 : Int32) : entryFrame m #[(.ref x0), (.int x1)] 8 = mkF m 0 #[.val (.ref x0), .val (.int x1), .unset, .unset, .unset, .unset, .unset, .unset] [] := by first | (simp [entryFrame, mkF, argsToLocals, Value.category]; done) | rfl
def Q6s28 (Z : State) (r0 : Addr) (r1 : Addr) (r2 : Addr) (r3 : Addr) (r4 : Addr) (r5 : Addr) (p0 : Int64) (p1 : Int64) (p2 : Int64) (p3 : Int64) (p4 : Int64) (p5 : Int64) (p6 : Int64) (p7 : Int64) (p8 : Int64) (p9 : Int64) (p10 : Int64) (p11 : Int64) (p12 : Int64) (p13 : Int64) (p14 : Int64) (p15 : Int64) (k_r1 : ClassId) (k_r4 : ClassId) (k_r5 : ClassId) (h0 : Heap) (n0 : Nat) (v : Option Value) (h : Heap) (L : List Loc) : Prop := (v = some (.int (0 : Int32)) ∧ Fr n0 L ∧ Keep h0 h [r0, r1, r4, r5] ∧ Exa Z h r0 cN0 ∧ Fld Z h r0 cN0 "elements" "[Ljava/lang/Object;" (.ref r1) ∧ Fld Z h r0 cN0 "ends" "[J" (.ref r4) ∧ Fld Z h r0 cN0 "orders" "[J" (.ref r5) ∧ Fld Z h r0 cN0 "placed" "Ljava/util/function/ObjIntConsumer;" (.null) ∧ Fld Z h r0 cN0 "size" "I" (.int (2 : Int32)) ∧ Arv Z h r1 k_r1 (.object "java/lang/Object") (8 : Int32) [.ref r2, .ref r3, .ref r2, .null, .null, .null, .null, .null] (.null) ∧ Arv Z h r4 k_r4 .long (8 : Int32) [.long p0, .long p1, .long p2, .long p3, .long p4, .long p5, .long p6, .long p7] (.long (0 : Int64)) ∧ Arv Z h r5 k_r5 .long (8 : Int32) [.long p8, .long p9, .long p10, .long p11, .long p12, .long p13, .long p14, .long p15] (.long (0 : Int64)))
set_option maxRecDepth 65536 in
set_option maxHeartbeats 40000000 in
theorem rm6s28 (l : Launch) (Z : State) (a0 : Array Value) (hw : ∀ d ∈ tables_1, d.before a0 Z = true) (ws : List Jvm.Cond) (r0 : Addr) (r1 : Addr) (r2 : Addr) (r3 : Addr) (r4 : Addr) (r5 : Addr) (p0 : Int64) (p1 : Int64) (p2 : Int64) (p3 : Int64) (p4 : Int64) (p5 : Int64) (p6 : Int64) (p7 : Int64) (p8 : Int64) (p9 : Int64) (p10 : Int64) (p11 : Int64) (p12 : Int64) (p13 : Int64) (p14 : Int64) (p15 : Int64) (k_r1 : ClassId) (k_r4 : ClassId) (k_r5 : ClassId) (h0 : Heap) (n0 : Nat) (Z0 : n0 ≤ h0.size) (E_r0 : Exa Z h0 r0 cN0) (F_elements_r0 : Fld Z h0 r0 cN0 "elements" "[Ljava/lang/Object;" (.ref r1)) (F_ends_r0 : Fld Z h0 r0 cN0 "ends" "[J" (.ref r4)) (F_orders_r0 : Fld Z h0 r0 cN0 "orders" "[J" (.ref r5)) (F_placed_r0 : Fld Z h0 r0 cN0 "placed" "Ljava/util/function/ObjIntConsumer;" (.null)) (F_size_r0 : Fld Z h0 r0 cN0 "size" "I" (.int (2 : Int32))) (g_r0 : n0 ≤ r0) (E_r2 : Exa Z h0 r2 "[I") (E_r3 : Exa Z h0 r3 "[I") (V_r1 : Arv Z h0 r1 k_r1 (.object "java/lang/Object") (8 : Int32) [.ref r2, .ref r3, .ref r2, .null, .null, .null, .null, .null] (.null)) (O_r1 : Ovr Z k_r1 "java/lang/Object") (g_r1 : n0 ≤ r1) (V_r4 : Arv Z h0 r4 k_r4 .long (8 : Int32) [.long p0, .long p1, .long p2, .long p3, .long p4, .long p5, .long p6, .long p7] (.long (0 : Int64))) (g_r4 : n0 ≤ r4) (V_r5 : Arv Z h0 r5 k_r5 .long (8 : Int32) [.long p8, .long p9, .long p10, .long p11, .long p12, .long p13, .long p14, .long p15] (.long (0 : Int64))) (g_r5 : n0 ≤ r5) (ne_r0_r1 : r0 ≠ r1) (ne_r0_r2 : r0 ≠ r2) (ne_r1_r2 : r1 ≠ r2) (ne_r0_r3 : r0 ≠ r3) (ne_r1_r3 : r1 ≠ r3) (ne_r2_r3 : r2 ≠ r3) (ne_r0_r4 : r0 ≠ r4) (ne_r1_r4 : r1 ≠ r4) (ne_r2_r4 : r2 ≠ r4) (ne_r3_r4 : r3 ≠ r4) (ne_r0_r5 : r0 ≠ r5) (ne_r1_r5 : r1 ≠ r5) (ne_r2_r5 : r2 ≠ r5) (ne_r3_r5 : r3 ≠ r5) (ne_r4_r5 : r4 ≠ r5) :
    Con l (⟨cN0, "siftUp", "(I)I"⟩ : MethodName) prog_31_method_11_code 8 (some .int) ws ({ frames := 1, cells := 0, slots := 0, locals := 18 } : Room) #[(.ref r0), (.int (0 : Int32))] Z h0 (Q6s28 Z r0 r1 r2 r3 r4 r5 p0 p1 p2 p3 p4 p5 p6 p7 p8 p9 p10 p11 p12 p13 p14 p15 k_r1 k_r4 k_r5 h0 n0) ({ frames := 1, cells := 0, slots := 0, locals := 18 } : Room).cells ({ frames := 1, cells := 0, slots := 0, locals := 18 } : Room).slots := by
  refine own_body (plainFor_of_name pn_2) ?_
  intro p e s m below meth c s₁ hx hby hlk hml hown hnm hrt hZ X0 e0
  have w : ∀ (k : Nat) (d : Jvm.Cond), tables_1[k]? = some d → d.before a0 Z = true := fun k d h => hw d (List.mem_of_getElem? h)
  have N0 := Fr.nil n0
  have K0 := Keep.refl h0 [r0, r1, r4, r5]
  rw [ef_6s28]
  generalize hOWE : Owe s _ _ _ = OWE
  refine o_aloadN X0 hx (hb hby d6_0) (pc' := 1) rfl rfl rfl ?_
  refine o_iloadN X0 hx (hb hby d6_1) (pc' := 2) rfl rfl ?_
  refine o_callP X0 hx hZ 0 (argsL := [.int (0 : Int32)]) (rest := []) (a := r0) hown (w 41 _ rfl) (w 3 _ rfl) (w 43 _ rfl) (w 42 _ rfl) (w 4 _ rfl) (w 44 _ rfl) (by decide) (rm7s4 l Z a0 hw [] _ _ _ _ _ _ _ _ _ _ _ h0 n0 Z0 E_r0 F_elements_r0 E_r2 V_r1 O_r1 ne_r0_r1 ne_r0_r2 ne_r1_r2) E_r0 (by decide) (by decide) (cells' := 0) rfl (slots' := 0) rfl (by decide) (by decide) e0 (by rw [hml]; rfl) (lenOf pd_7 rfl) rfl rfl (hb hby d6_2) (pc' := 5) rfl ?_
  intro T1 v1 L1 X1 hQ1
  obtain ⟨rfl, Nq1, e1⟩ := hQ1
  have N1 := Fr.app N0 Nq1
  show Go p e below _ (T1.setTop (mkF m 5 _ [.ref r2]))
  refine o_astoreN X1 hx (hb hby d6_5) (pc' := 6) rfl (L' := #[.val (.ref r0), .val (.int (0 : Int32)), .val (.ref r2), .unset, .unset, .unset, .unset, .unset]) rfl rfl ?_
  refine o_aloadN X1 hx (hb hby d6_6) (pc' := 7) rfl rfl rfl ?_
  refine o_getF X1 hx hZ hown (w 19 _ rfl) e1 F_ends_r0 (hb hby d6_7) (pc' := 10) rfl ?_
  intro T2 X2 e2
  refine o_iloadN X2 hx (hb hby d6_10) (pc' := 11) rfl rfl ?_
  refine o_laload X2 hx hZ (.long p0) e2 V_r4 (by decide) (by rfl) (hb hby d6_11) (pc' := 12) rfl ?_
  refine o_lstoreN X2 hx (hb hby d6_12) (pc' := 13) rfl (L' := #[.val (.ref r0), .val (.int (0 : Int32)), .val (.ref r2), .val (.long p0), .second, .unset, .unset, .unset]) rfl ?_
  refine o_aloadN X2 hx (hb hby d6_13) (pc' := 14) rfl rfl rfl ?_
  refine o_getF X2 hx hZ hown (w 21 _ rfl) e2 F_orders_r0 (hb hby d6_14) (pc' := 17) rfl ?_
  intro T3 X3 e3
  refine o_iloadN X3 hx (hb hby d6_17) (pc' := 18) rfl rfl ?_
  refine o_laload X3 hx hZ (.long p8) e3 V_r5 (by decide) (by rfl) (hb hby d6_18) (pc' := 19) rfl ?_
  refine o_lstore X3 hx (hb hby d6_19) (pc' := 21) rfl (L' := #[.val (.ref r0), .val (.int (0 : Int32)), .val (.ref r2), .val (.long p0), .second, .val (.long p8), .second, .unset]) rfl ?_
  refine o_iloadN X3 hx (hb hby d6_21) (pc' := 22) rfl rfl ?_
  refine o_ifY X3 hx (hb hby d6_22) (flt (by decide : ¬ ((0 : Int32) < (0 : Int32)))).2.2.2 (by decide) (pc' := 89) (by decide) ?_
  refine o_aloadN X3 hx (hb hby d6_89) (pc' := 90) rfl rfl rfl ?_
  refine o_iloadN X3 hx (hb hby d6_90) (pc' := 91) rfl rfl ?_
  refine o_aloadN X3 hx (hb hby d6_91) (pc' := 92) rfl rfl rfl ?_
  refine o_lloadN X3 hx (hb hby d6_92) (pc' := 93) rfl rfl ?_
  refine o_lload X3 hx (hb hby d6_93) (pc' := 95) rfl rfl ?_
  refine o_callP X3 hx hZ 0 (argsL := [.int (0 : Int32), .ref r2, .long p0, .long p8]) (rest := []) (a := r0) hown (w 32 _ rfl) (w 3 _ rfl) (w 34 _ rfl) (w 33 _ rfl) (w 4 _ rfl) (w 35 _ rfl) (by decide) (rm5s2 l Z a0 hw [] _ _ _ _ _ _ _ _ _ _ _ _ _ _ _ _ _ _ _ _ _ _ _ _ _ _ _ _ _ _ p0 p8 _ _ _ h0 n0 Z0 E_r0 F_elements_r0 F_ends_r0 F_orders_r0 F_placed_r0 F_size_r0 g_r0 E_r2 V_r1 O_r1 g_r1 V_r4 g_r4 V_r5 g_r5 ne_r0_r1 ne_r0_r4 ne_r1_r4 ne_r0_r5 ne_r1_r5 ne_r4_r5 ne_r0_r2 ne_r1_r2 (Ne.symm ne_r2_r4) (Ne.symm ne_r2_r5)) E_r0 (by decide) (by decide) (cells' := 0) rfl (slots' := 0) rfl (by decide) (by decide) e3 (by rw [hml]; rfl) (lenOf pd_6 rfl) rfl rfl (hb hby d6_95) (pc' := 98) rfl ?_
  intro T4 v4 L4 X4 hQ4
  obtain ⟨rfl, Nq4, Kq4, P4_0, P4_1, P4_2, P4_3, P4_4, P4_5, P4_6, P4_7, P4_8⟩ := hQ4
  have N4 := Fr.app N1 Nq4
  have E5_r2 := Exa.keep E_r2 Kq4
  have E5_r3 := Exa.keep E_r3 Kq4
  have Z4 : n0 ≤ T4.heap.size := Nat.le_trans Z0 Kq4.1
  have K4 := Keep.trans K0 Kq4 (allS (Or.inl (List.mem_of_getElem? (i := 0) rfl)) (allS (Or.inl (List.mem_of_getElem? (i := 1) rfl)) (allS (Or.inl (List.mem_of_getElem? (i := 2) rfl)) (allS (Or.inl (List.mem_of_getElem? (i := 3) rfl)) all0))))
  show Go p e below _ (T4.setTop (mkF m 98 _ []))
  refine o_iloadN X4 hx (hb hby d6_98) (pc' := 99) rfl rfl ?_
  rw [← hOWE]
  exact o_retI X4 hx hlk hrt (hb hby d6_99) (by decide) (by decide) ⟨rfl, N4, K4, P4_0, P4_1, P4_2, P4_3, P4_4, P4_5, P4_6, P4_7, P4_8⟩
theorem ef_14s29 (m : MethodId) (x0 : Addr) (x1 : Int32) : entryFrame m #[(.ref x0), (.int x1)] 8 = mkF m 0 #[.val (.ref x0), .val (.int x1), .unset, .unset, .unset, .unset, .unset, .unset] [] := by first | (simp [entryFrame, mkF, argsToLocals, Value.category]; done) | rfl
def Q14s29 (Z : State) (r0 : Addr) (r1 : Addr) (r2 : Addr) (r3 : Addr) (r4 : Addr) (r5 : Addr) (p0 : Int64) (p1 : Int64) (p2 : Int64) (p3 : Int64) (p4 : Int64) (p5 : Int64) (p6 : Int64) (p7 : Int64) (p8 : Int64) (p9 : Int64) (p10 : Int64) (p11 : Int64) (p12 : Int64) (p13 : Int64) (p14 : Int64) (p15 : Int64) (k_r1 : ClassId) (k_r4 : ClassId) (k_r5 : ClassId) (h0 : Heap) (n0 : Nat) (v : Option Value) (h : Heap) (L : List Loc) : Prop := (((o5 p1 p9 p0 p8) = (0 : Int32) ∧ (v = none ∧ Fr n0 L ∧ Keep h0 h [r0, r1, r4, r5] ∧ Exa Z h r0 cN0 ∧ Fld Z h r0 cN0 "elements" "[Ljava/lang/Object;" (.ref r1) ∧ Fld Z h r0 cN0 "ends" "[J" (.ref r4) ∧ Fld Z h r0 cN0 "orders" "[J" (.ref r5) ∧ Fld Z h r0 cN0 "placed" "Ljava/util/function/ObjIntConsumer;" (.null) ∧ Fld Z h r0 cN0 "size" "I" (.int (2 : Int32)) ∧ Arv Z h r1 k_r1 (.object "java/lang/Object") (8 : Int32) [.ref r2, .ref r3, .ref r2, .null, .null, .null, .null, .null] (.null) ∧ Arv Z h r4 k_r4 .long (8 : Int32) [.long p0, .long p1, .long p2, .long p3, .long p4, .long p5, .long p6, .long p7] (.long (0 : Int64)) ∧ Arv Z h r5 k_r5 .long (8 : Int32) [.long p8, .long p9, .long p10, .long p11, .long p12, .long p13, .long p14, .long p15] (.long (0 : Int64)))) ∨ (¬ ((o5 p1 p9 p0 p8) = (0 : Int32)) ∧ (v = none ∧ Fr n0 L ∧ Keep h0 h [r0, r1, r4, r5] ∧ Exa Z h r0 cN0 ∧ Fld Z h r0 cN0 "elements" "[Ljava/lang/Object;" (.ref r1) ∧ Fld Z h r0 cN0 "ends" "[J" (.ref r4) ∧ Fld Z h r0 cN0 "orders" "[J" (.ref r5) ∧ Fld Z h r0 cN0 "placed" "Ljava/util/function/ObjIntConsumer;" (.null) ∧ Fld Z h r0 cN0 "size" "I" (.int (2 : Int32)) ∧ Arv Z h r1 k_r1 (.object "java/lang/Object") (8 : Int32) [.ref r3, .ref r2, .ref r2, .null, .null, .null, .null, .null] (.null) ∧ Arv Z h r4 k_r4 .long (8 : Int32) [.long p1, .long p0, .long p2, .long p3, .long p4, .long p5, .long p6, .long p7] (.long (0 : Int64)) ∧ Arv Z h r5 k_r5 .long (8 : Int32) [.long p9, .long p8, .long p10, .long p11, .long p12, .long p13, .long p14, .long p15] (.long (0 : Int64)))))
set_option maxRecDepth 65536 in
set_option maxHeartbeats 40000000 in
theorem rm14s29 (l : Launch) (Z : State) (a0 : Array Value) (hw : ∀ d ∈ tables_1, d.before a0 Z = true) (ws : List Jvm.Cond) (r0 : Addr) (r1 : Addr) (r2 : Addr) (r3 : Addr) (r4 : Addr) (r5 : Addr) (p0 : Int64) (p1 : Int64) (p2 : Int64) (p3 : Int64) (p4 : Int64) (p5 : Int64) (p6 : Int64) (p7 : Int64) (p8 : Int64) (p9 : Int64) (p10 : Int64) (p11 : Int64) (p12 : Int64) (p13 : Int64) (p14 : Int64) (p15 : Int64) (k_r1 : ClassId) (k_r4 : ClassId) (k_r5 : ClassId) (h0 : Heap) (n0 : Nat) (Z0 : n0 ≤ h0.size) (E_r0 : Exa Z h0 r0 cN0) (F_elements_r0 : Fld Z h0 r0 cN0 "elements" "[Ljava/lang/Object;" (.ref r1)) (F_ends_r0 : Fld Z h0 r0 cN0 "ends" "[J" (.ref r4)) (F_orders_r0 : Fld Z h0 r0 cN0 "orders" "[J" (.ref r5)) (F_placed_r0 : Fld Z h0 r0 cN0 "placed" "Ljava/util/function/ObjIntConsumer;" (.null)) (F_size_r0 : Fld Z h0 r0 cN0 "size" "I" (.int (2 : Int32))) (g_r0 : n0 ≤ r0) (E_r2 : Exa Z h0 r2 "[I") (E_r3 : Exa Z h0 r3 "[I") (V_r1 : Arv Z h0 r1 k_r1 (.object "java/lang/Object") (8 : Int32) [.ref r2, .ref r3, .ref r2, .null, .null, .null, .null, .null] (.null)) (O_r1 : Ovr Z k_r1 "java/lang/Object") (g_r1 : n0 ≤ r1) (V_r4 : Arv Z h0 r4 k_r4 .long (8 : Int32) [.long p0, .long p1, .long p2, .long p3, .long p4, .long p5, .long p6, .long p7] (.long (0 : Int64))) (g_r4 : n0 ≤ r4) (V_r5 : Arv Z h0 r5 k_r5 .long (8 : Int32) [.long p8, .long p9, .long p10, .long p11, .long p12, .long p13, .long p14, .long p15] (.long (0 : Int64))) (g_r5 : n0 ≤ r5) (ne_r0_r1 : r0 ≠ r1) (ne_r0_r2 : r0 ≠ r2) (ne_r1_r2 : r1 ≠ r2) (ne_r0_r3 : r0 ≠ r3) (ne_r1_r3 : r1 ≠ r3) (ne_r2_r3 : r2 ≠ r3) (ne_r0_r4 : r0 ≠ r4) (ne_r1_r4 : r1 ≠ r4) (ne_r2_r4 : r2 ≠ r4) (ne_r3_r4 : r3 ≠ r4) (ne_r0_r5 : r0 ≠ r5) (ne_r1_r5 : r1 ≠ r5) (ne_r2_r5 : r2 ≠ r5) (ne_r3_r5 : r3 ≠ r5) (ne_r4_r5 : r4 ≠ r5) :
    Con l (⟨cN0, "siftDown", "(I)V"⟩ : MethodName) prog_31_method_12_code 8 none ws ({ frames := 1, cells := 0, slots := 0, locals := 19 } : Room) #[(.ref r0), (.int (0 : Int32))] Z h0 (Q14s29 Z r0 r1 r2 r3 r4 r5 p0 p1 p2 p3 p4 p5 p6 p7 p8 p9 p10 p11 p12 p13 p14 p15 k_r1 k_r4 k_r5 h0 n0) ({ frames := 1, cells := 0, slots := 0, locals := 19 } : Room).cells ({ frames := 1, cells := 0, slots := 0, locals := 19 } : Room).slots := by
  refine own_body (plainFor_of_name pn_2) ?_
  intro p e s m below meth c s₁ hx hby hlk hml hown hnm hrt hZ X0 e0
  have w : ∀ (k : Nat) (d : Jvm.Cond), tables_1[k]? = some d → d.before a0 Z = true := fun k d h => hw d (List.mem_of_getElem? h)
  have N0 := Fr.nil n0
  have K0 := Keep.refl h0 [r0, r1, r4, r5]
  rw [ef_14s29]
  generalize hOWE : Owe s _ _ _ = OWE
  refine o_aloadN X0 hx (hb hby d14_0) (pc' := 1) rfl rfl rfl ?_
  refine o_iloadN X0 hx (hb hby d14_1) (pc' := 2) rfl rfl ?_
  refine o_callP X0 hx hZ 0 (argsL := [.int (0 : Int32)]) (rest := []) (a := r0) hown (w 41 _ rfl) (w 3 _ rfl) (w 43 _ rfl) (w 42 _ rfl) (w 4 _ rfl) (w 44 _ rfl) (by decide) (rm7s4 l Z a0 hw [] _ _ _ _ _ _ _ _ _ _ _ h0 n0 Z0 E_r0 F_elements_r0 E_r2 V_r1 O_r1 ne_r0_r1 ne_r0_r2 ne_r1_r2) E_r0 (by decide) (by decide) (cells' := 0) rfl (slots' := 0) rfl (by decide) (by decide) e0 (by rw [hml]; rfl) (lenOf pd_7 rfl) rfl rfl (hb hby d14_2) (pc' := 5) rfl ?_
  intro T1 v1 L1 X1 hQ1
  obtain ⟨rfl, Nq1, e1⟩ := hQ1
  have N1 := Fr.app N0 Nq1
  show Go p e below _ (T1.setTop (mkF m 5 _ [.ref r2]))
  refine o_astoreN X1 hx (hb hby d14_5) (pc' := 6) rfl (L' := #[.val (.ref r0), .val (.int (0 : Int32)), .val (.ref r2), .unset, .unset, .unset, .unset, .unset]) rfl rfl ?_
  refine o_aloadN X1 hx (hb hby d14_6) (pc' := 7) rfl rfl rfl ?_
  refine o_getF X1 hx hZ hown (w 19 _ rfl) e1 F_ends_r0 (hb hby d14_7) (pc' := 10) rfl ?_
  intro T2 X2 e2
  refine o_iloadN X2 hx (hb hby d14_10) (pc' := 11) rfl rfl ?_
  refine o_laload X2 hx hZ (.long p0) e2 V_r4 (by decide) (by rfl) (hb hby d14_11) (pc' := 12) rfl ?_
  refine o_lstoreN X2 hx (hb hby d14_12) (pc' := 13) rfl (L' := #[.val (.ref r0), .val (.int (0 : Int32)), .val (.ref r2), .val (.long p0), .second, .unset, .unset, .unset]) rfl ?_
  refine o_aloadN X2 hx (hb hby d14_13) (pc' := 14) rfl rfl rfl ?_
  refine o_getF X2 hx hZ hown (w 21 _ rfl) e2 F_orders_r0 (hb hby d14_14) (pc' := 17) rfl ?_
  intro T3 X3 e3
  refine o_iloadN X3 hx (hb hby d14_17) (pc' := 18) rfl rfl ?_
  refine o_laload X3 hx hZ (.long p8) e3 V_r5 (by decide) (by rfl) (hb hby d14_18) (pc' := 19) rfl ?_
  refine o_lstore X3 hx (hb hby d14_19) (pc' := 21) rfl (L' := #[.val (.ref r0), .val (.int (0 : Int32)), .val (.ref r2), .val (.long p0), .second, .val (.long p8), .second, .unset]) rfl ?_
  refine o_iconst X3 hx (2 : Int32) (hb hby d14_21) (pc' := 22) rfl (by decide) ?_
  refine o_iloadN X3 hx (hb hby d14_22) (pc' := 23) rfl rfl ?_
  refine o_imul X3 hx (hb hby d14_23) (pc' := 24) rfl ?_
  rw [show ((2 : Int32) * (0 : Int32)) = (0 : Int32) from by decide]
  refine o_iconst X3 hx (1 : Int32) (hb hby d14_24) (pc' := 25) rfl (by decide) ?_
  refine o_iadd X3 hx (hb hby d14_25) (pc' := 26) rfl ?_
  rw [show ((0 : Int32) + (1 : Int32)) = (1 : Int32) from by decide]
  refine o_istore X3 hx (hb hby d14_26) (pc' := 28) rfl (L' := #[.val (.ref r0), .val (.int (0 : Int32)), .val (.ref r2), .val (.long p0), .second, .val (.long p8), .second, .val (.int (1 : Int32))]) rfl ?_
  refine o_iload X3 hx (hb hby d14_28) (pc' := 30) rfl rfl ?_
  refine o_aloadN X3 hx (hb hby d14_30) (pc' := 31) rfl rfl rfl ?_
  refine o_getF X3 hx hZ hown (w 30 _ rfl) e3 F_size_r0 (hb hby d14_31) (pc' := 34) rfl ?_
  intro T4 X4 e4
  refine o_cmpY X4 hx (hb hby d14_34) (tlt (by decide : (1 : Int32) < (2 : Int32))).1 (by decide) (pc' := 40) (by decide) ?_
  refine o_iload X4 hx (hb hby d14_40) (pc' := 42) rfl rfl ?_
  refine o_iconst X4 hx (1 : Int32) (hb hby d14_42) (pc' := 43) rfl (by decide) ?_
  refine o_iadd X4 hx (hb hby d14_43) (pc' := 44) rfl ?_
  rw [show ((1 : Int32) + (1 : Int32)) = (2 : Int32) from by decide]
  refine o_aloadN X4 hx (hb hby d14_44) (pc' := 45) rfl rfl rfl ?_
  refine o_getF X4 hx hZ hown (w 30 _ rfl) e4 F_size_r0 (hb hby d14_45) (pc' := 48) rfl ?_
  intro T5 X5 e5
  refine o_cmpY X5 hx (hb hby d14_48) (flt (by decide : ¬ ((2 : Int32) < (2 : Int32)))).2.1 (by decide) (pc' := 92) (by decide) ?_
  refine o_aloadN X5 hx (hb hby d14_92) (pc' := 93) rfl rfl rfl ?_
  refine o_getF X5 hx hZ hown (w 19 _ rfl) e5 F_ends_r0 (hb hby d14_93) (pc' := 96) rfl ?_
  intro T6 X6 e6
  refine o_iload X6 hx (hb hby d14_96) (pc' := 98) rfl rfl ?_
  refine o_laload X6 hx hZ (.long p1) e6 V_r4 (by decide) (by rfl) (hb hby d14_98) (pc' := 99) rfl ?_
  refine o_aloadN X6 hx (hb hby d14_99) (pc' := 100) rfl rfl rfl ?_
  refine o_getF X6 hx hZ hown (w 21 _ rfl) e6 F_orders_r0 (hb hby d14_100) (pc' := 103) rfl ?_
  intro T7 X7 e7
  refine o_iload X7 hx (hb hby d14_103) (pc' := 105) rfl rfl ?_
  refine o_laload X7 hx hZ (.long p9) e7 V_r5 (by decide) (by rfl) (hb hby d14_105) (pc' := 106) rfl ?_
  refine o_lloadN X7 hx (hb hby d14_106) (pc' := 107) rfl rfl ?_
  refine o_lload X7 hx (hb hby d14_107) (pc' := 109) rfl rfl ?_
  refine o_callS X7 hx hZ 0 (argsL := [.long p1, .long p9, .long p0, .long p8]) (rest := []) hown (w 45 _ rfl) (w 46 _ rfl) (w 4 _ rfl) (w 47 _ rfl) (by decide) (rm8 l Z a0 hw [] p1 p9 p0 p8 h0 n0 Z0 ) (by decide) (by decide) (cells' := 0) rfl (slots' := 0) rfl (by decide) (by decide) e7 (by rw [hml]; rfl) (lenOf pd_2 rfl) rfl rfl (hb hby d14_109) (pc' := 112) rfl ?_
  intro T8 v8 L8 X8 hQ8
  obtain ⟨rfl, Nq8, e8⟩ := hQ8
  have N8 := Fr.app N1 Nq8
  show Go p e below _ (T8.setTop (mkF m 112 _ [.int (o5 p1 p9 p0 p8)]))
  by_cases hc112_9 : (o5 p1 p9 p0 p8) = (0 : Int32)
  · refine o_ifN X8 hx (hb hby d14_112) (teq hc112_9).2 (pc' := 115) rfl ?_
    refine o_goto X8 hx (hb hby d14_115) (by decide) (pc' := 149) (by decide) ?_
    refine o_aloadN X8 hx (hb hby d14_149) (pc' := 150) rfl rfl rfl ?_
    refine o_iloadN X8 hx (hb hby d14_150) (pc' := 151) rfl rfl ?_
    refine o_aloadN X8 hx (hb hby d14_151) (pc' := 152) rfl rfl rfl ?_
    refine o_lloadN X8 hx (hb hby d14_152) (pc' := 153) rfl rfl ?_
    refine o_lload X8 hx (hb hby d14_153) (pc' := 155) rfl rfl ?_
    refine o_callP X8 hx hZ 0 (argsL := [.int (0 : Int32), .ref r2, .long p0, .long p8]) (rest := []) (a := r0) hown (w 32 _ rfl) (w 3 _ rfl) (w 34 _ rfl) (w 33 _ rfl) (w 4 _ rfl) (w 35 _ rfl) (by decide) (rm5s2 l Z a0 hw [] _ _ _ _ _ _ _ _ _ _ _ _ _ _ _ _ _ _ _ _ _ _ _ _ _ _ _ _ _ _ p0 p8 _ _ _ h0 n0 Z0 E_r0 F_elements_r0 F_ends_r0 F_orders_r0 F_placed_r0 F_size_r0 g_r0 E_r2 V_r1 O_r1 g_r1 V_r4 g_r4 V_r5 g_r5 ne_r0_r1 ne_r0_r4 ne_r1_r4 ne_r0_r5 ne_r1_r5 ne_r4_r5 ne_r0_r2 ne_r1_r2 (Ne.symm ne_r2_r4) (Ne.symm ne_r2_r5)) E_r0 (by decide) (by decide) (cells' := 0) rfl (slots' := 0) rfl (by decide) (by decide) e8 (by rw [hml]; rfl) (lenOf pd_6 rfl) rfl rfl (hb hby d14_155) (pc' := 158) rfl ?_
    intro T10 v10 L10 X10 hQ10
    obtain ⟨rfl, Nq10, Kq10, P10_0, P10_1, P10_2, P10_3, P10_4, P10_5, P10_6, P10_7, P10_8⟩ := hQ10
    have N10 := Fr.app N8 Nq10
    have E11_r2 := Exa.keep E_r2 Kq10
    have E11_r3 := Exa.keep E_r3 Kq10
    have Z10 : n0 ≤ T10.heap.size := Nat.le_trans Z0 Kq10.1
    have K10 := Keep.trans K0 Kq10 (allS (Or.inl (List.mem_of_getElem? (i := 0) rfl)) (allS (Or.inl (List.mem_of_getElem? (i := 1) rfl)) (allS (Or.inl (List.mem_of_getElem? (i := 2) rfl)) (allS (Or.inl (List.mem_of_getElem? (i := 3) rfl)) all0))))
    show Go p e below _ (T10.setTop (mkF m 158 _ []))
    rw [← hOWE]
    exact o_retV X10 hx hlk hrt (hb hby d14_158) (by decide) (by decide) (Or.inl ⟨hc112_9, ⟨rfl, N10, K10, P10_0, P10_1, P10_2, P10_3, P10_4, P10_5, P10_6, P10_7, P10_8⟩⟩)
  · refine o_ifY X8 hx (hb hby d14_112) (feq hc112_9).2 (by decide) (pc' := 118) (by decide) ?_
    refine o_aloadN X8 hx (hb hby d14_118) (pc' := 119) rfl rfl rfl ?_
    refine o_iloadN X8 hx (hb hby d14_119) (pc' := 120) rfl rfl ?_
    refine o_aloadN X8 hx (hb hby d14_120) (pc' := 121) rfl rfl rfl ?_
    refine o_iload X8 hx (hb hby d14_121) (pc' := 123) rfl rfl ?_
    refine o_callP X8 hx hZ 2 (argsL := [.int (1 : Int32)]) (rest := [.int (0 : Int32), .ref r0]) (a := r0) hown (w 41 _ rfl) (w 3 _ rfl) (w 43 _ rfl) (w 42 _ rfl) (w 4 _ rfl) (w 44 _ rfl) (by decide) (rm7s11 l Z a0 hw [] _ _ _ _ _ _ _ _ _ _ _ h0 n0 Z0 E_r0 F_elements_r0 E_r3 V_r1 O_r1 ne_r0_r1 ne_r0_r3 ne_r1_r3) E_r0 (by decide) (by decide) (cells' := 0) rfl (slots' := 0) rfl (by decide) (by decide) e8 (by rw [hml]; rfl) (lenOf pd_7 rfl) rfl rfl (hb hby d14_123) (pc' := 126) rfl ?_
    intro T12 v12 L12 X12 hQ12
    obtain ⟨rfl, Nq12, e12⟩ := hQ12
    have N12 := Fr.app N8 Nq12
    show Go p e below _ (T12.setTop (mkF m 126 _ [.ref r3, .int (0 : Int32), .ref r0]))
    refine o_aloadN X12 hx (hb hby d14_126) (pc' := 127) rfl rfl rfl ?_
    refine o_getF X12 hx hZ hown (w 19 _ rfl) e12 F_ends_r0 (hb hby d14_127) (pc' := 130) rfl ?_
    intro T13 X13 e13
    refine o_iload X13 hx (hb hby d14_130) (pc' := 132) rfl rfl ?_
    refine o_laload X13 hx hZ (.long p1) e13 V_r4 (by decide) (by rfl) (hb hby d14_132) (pc' := 133) rfl ?_
    refine o_aloadN X13 hx (hb hby d14_133) (pc' := 134) rfl rfl rfl ?_
    refine o_getF X13 hx hZ hown (w 21 _ rfl) e13 F_orders_r0 (hb hby d14_134) (pc' := 137) rfl ?_
    intro T14 X14 e14
    refine o_iload X14 hx (hb hby d14_137) (pc' := 139) rfl rfl ?_
    refine o_laload X14 hx hZ (.long p9) e14 V_r5 (by decide) (by rfl) (hb hby d14_139) (pc' := 140) rfl ?_
    refine o_callP X14 hx hZ 0 (argsL := [.int (0 : Int32), .ref r3, .long p1, .long p9]) (rest := []) (a := r0) hown (w 32 _ rfl) (w 3 _ rfl) (w 34 _ rfl) (w 33 _ rfl) (w 4 _ rfl) (w 35 _ rfl) (by decide) (rm5s2 l Z a0 hw [] _ _ _ _ _ _ _ _ _ _ _ _ _ _ _ _ _ _ _ _ _ _ _ _ _ _ _ _ _ _ p1 p9 _ _ _ h0 n0 Z0 E_r0 F_elements_r0 F_ends_r0 F_orders_r0 F_placed_r0 F_size_r0 g_r0 E_r3 V_r1 O_r1 g_r1 V_r4 g_r4 V_r5 g_r5 ne_r0_r1 ne_r0_r4 ne_r1_r4 ne_r0_r5 ne_r1_r5 ne_r4_r5 ne_r0_r3 ne_r1_r3 (Ne.symm ne_r3_r4) (Ne.symm ne_r3_r5)) E_r0 (by decide) (by decide) (cells' := 0) rfl (slots' := 0) rfl (by decide) (by decide) e14 (by rw [hml]; rfl) (lenOf pd_6 rfl) rfl rfl (hb hby d14_140) (pc' := 143) rfl ?_
    intro T15 v15 L15 X15 hQ15
    obtain ⟨rfl, Nq15, Kq15, P15_0, P15_1, P15_2, P15_3, P15_4, P15_5, P15_6, P15_7, P15_8⟩ := hQ15
    have N15 := Fr.app N12 Nq15
    have E16_r2 := Exa.keep E_r2 Kq15
    have E16_r3 := Exa.keep E_r3 Kq15
    have Z15 : n0 ≤ T15.heap.size := Nat.le_trans Z0 Kq15.1
    have K15 := Keep.trans K0 Kq15 (allS (Or.inl (List.mem_of_getElem? (i := 0) rfl)) (allS (Or.inl (List.mem_of_getElem? (i := 1) rfl)) (allS (Or.inl (List.mem_of_getElem? (i := 2) rfl)) (allS (Or.inl (List.mem_of_getElem? (i := 3) rfl)) all0))))
    show Go p e below _ (T15.setTop (mkF m 143 _ []))
    refine o_iload X15 hx (hb hby d14_143) (pc' := 145) rfl rfl ?_
    refine o_istoreN X15 hx (hb hby d14_145) (pc' := 146) rfl (L' := #[.val (.ref r0), .val (.int (1 : Int32)), .val (.ref r2), .val (.long p0), .second, .val (.long p8), .second, .val (.int (1 : Int32))]) rfl ?_
    refine o_goto X15 hx (hb hby d14_146) (by decide) (pc' := 21) (by decide) ?_
    refine o_iconst X15 hx (2 : Int32) (hb hby d14_21) (pc' := 22) rfl (by decide) ?_
    refine o_iloadN X15 hx (hb hby d14_22) (pc' := 23) rfl rfl ?_
    refine o_imul X15 hx (hb hby d14_23) (pc' := 24) rfl ?_
    rw [show ((2 : Int32) * (1 : Int32)) = (2 : Int32) from by decide]
    refine o_iconst X15 hx (1 : Int32) (hb hby d14_24) (pc' := 25) rfl (by decide) ?_
    refine o_iadd X15 hx (hb hby d14_25) (pc' := 26) rfl ?_
    rw [show ((2 : Int32) + (1 : Int32)) = (3 : Int32) from by decide]
    refine o_istore X15 hx (hb hby d14_26) (pc' := 28) rfl (L' := #[.val (.ref r0), .val (.int (1 : Int32)), .val (.ref r2), .val (.long p0), .second, .val (.long p8), .second, .val (.int (3 : Int32))]) rfl ?_
    refine o_iload X15 hx (hb hby d14_28) (pc' := 30) rfl rfl ?_
    refine o_aloadN X15 hx (hb hby d14_30) (pc' := 31) rfl rfl rfl ?_
    refine o_getF X15 hx hZ hown (w 30 _ rfl) rfl P15_5 (hb hby d14_31) (pc' := 34) rfl ?_
    intro T17 X17 e17
    refine o_cmpN X17 hx (hb hby d14_34) (flt (by decide : ¬ ((3 : Int32) < (2 : Int32)))).1 (pc' := 37) rfl ?_
    refine o_goto X17 hx (hb hby d14_37) (by decide) (pc' := 149) (by decide) ?_
    refine o_aloadN X17 hx (hb hby d14_149) (pc' := 150) rfl rfl rfl ?_
    refine o_iloadN X17 hx (hb hby d14_150) (pc' := 151) rfl rfl ?_
    refine o_aloadN X17 hx (hb hby d14_151) (pc' := 152) rfl rfl rfl ?_
    refine o_lloadN X17 hx (hb hby d14_152) (pc' := 153) rfl rfl ?_
    refine o_lload X17 hx (hb hby d14_153) (pc' := 155) rfl rfl ?_
    refine o_callP X17 hx hZ 0 (argsL := [.int (1 : Int32), .ref r2, .long p0, .long p8]) (rest := []) (a := r0) hown (w 32 _ rfl) (w 3 _ rfl) (w 34 _ rfl) (w 33 _ rfl) (w 4 _ rfl) (w 35 _ rfl) (by decide) (rm5s9 l Z a0 hw [] _ _ _ _ _ _ _ _ _ _ _ _ _ _ _ _ _ _ _ _ _ _ _ _ _ _ _ _ _ _ p0 p8 _ _ _ T15.heap n0 Z15 P15_0 P15_1 P15_2 P15_3 P15_4 P15_5 g_r0 E16_r2 P15_6 O_r1 g_r1 P15_7 g_r4 P15_8 g_r5 ne_r0_r1 ne_r0_r4 ne_r1_r4 ne_r0_r5 ne_r1_r5 ne_r4_r5 ne_r0_r2 ne_r1_r2 (Ne.symm ne_r2_r4) (Ne.symm ne_r2_r5)) P15_0 (by decide) (by decide) (cells' := 0) rfl (slots' := 0) rfl (by decide) (by decide) e17 (by rw [hml]; rfl) (lenOf pd_6 rfl) rfl rfl (hb hby d14_155) (pc' := 158) rfl ?_
    intro T18 v18 L18 X18 hQ18
    obtain ⟨rfl, Nq18, Kq18, P18_0, P18_1, P18_2, P18_3, P18_4, P18_5, P18_6, P18_7, P18_8⟩ := hQ18
    have N18 := Fr.app N15 Nq18
    have E19_r2 := Exa.keep E16_r2 Kq18
    have E19_r3 := Exa.keep E16_r3 Kq18
    have Z18 : n0 ≤ T18.heap.size := Nat.le_trans Z15 Kq18.1
    have K18 := Keep.trans K15 Kq18 (allS (Or.inl (List.mem_of_getElem? (i := 0) rfl)) (allS (Or.inl (List.mem_of_getElem? (i := 1) rfl)) (allS (Or.inl (List.mem_of_getElem? (i := 2) rfl)) (allS (Or.inl (List.mem_of_getElem? (i := 3) rfl)) all0))))
    show Go p e below _ (T18.setTop (mkF m 158 _ []))
    rw [← hOWE]
    exact o_retV X18 hx hlk hrt (hb hby d14_158) (by decide) (by decide) (Or.inr ⟨hc112_9, ⟨rfl, N18, K18, P18_0, P18_1, P18_2, P18_3, P18_4, P18_5, P18_6, P18_7, P18_8⟩⟩)
theorem ef_13s27 (m : MethodId) (x0 : Addr) (x1 : Int32) : entryFrame m #[(.ref x0), (.int x1)] 3 = mkF m 0 #[.val (.ref x0), .val (.int x1), .unset] [] := by first | (simp [entryFrame, mkF, argsToLocals, Value.category]; done) | rfl
def Q13s27 (Z : State) (r0 : Addr) (r1 : Addr) (r2 : Addr) (r3 : Addr) (r4 : Addr) (r5 : Addr) (r6 : Addr) (p0 : Int64) (p1 : Int64) (p2 : Int64) (p3 : Int64) (p4 : Int64) (p5 : Int64) (p6 : Int64) (p7 : Int64) (p8 : Int64) (p9 : Int64) (p10 : Int64) (p11 : Int64) (p12 : Int64) (p13 : Int64) (p14 : Int64) (p15 : Int64) (k_r1 : ClassId) (k_r5 : ClassId) (k_r6 : ClassId) (h0 : Heap) (n0 : Nat) (v : Option Value) (h : Heap) (L : List Loc) : Prop := (((o5 p1 p9 p2 p10) = (0 : Int32) ∧ (v = none ∧ Fr n0 L ∧ Keep h0 h [r0, r1, r5, r6] ∧ Exa Z h r0 cN0 ∧ Fld Z h r0 cN0 "elements" "[Ljava/lang/Object;" (.ref r1) ∧ Fld Z h r0 cN0 "ends" "[J" (.ref r5) ∧ Fld Z h r0 cN0 "orders" "[J" (.ref r6) ∧ Fld Z h r0 cN0 "placed" "Ljava/util/function/ObjIntConsumer;" (.null) ∧ Fld Z h r0 cN0 "size" "I" (.int (2 : Int32)) ∧ Arv Z h r1 k_r1 (.object "java/lang/Object") (8 : Int32) [.ref r4, .ref r3, .null, .null, .null, .null, .null, .null] (.null) ∧ Arv Z h r5 k_r5 .long (8 : Int32) [.long p2, .long p1, .long p2, .long p3, .long p4, .long p5, .long p6, .long p7] (.long (0 : Int64)) ∧ Arv Z h r6 k_r6 .long (8 : Int32) [.long p10, .long p9, .long p10, .long p11, .long p12, .long p13, .long p14, .long p15] (.long (0 : Int64)))) ∨ (¬ ((o5 p1 p9 p2 p10) = (0 : Int32)) ∧ (v = none ∧ Fr n0 L ∧ Keep h0 h [r0, r1, r5, r6] ∧ Exa Z h r0 cN0 ∧ Fld Z h r0 cN0 "elements" "[Ljava/lang/Object;" (.ref r1) ∧ Fld Z h r0 cN0 "ends" "[J" (.ref r5) ∧ Fld Z h r0 cN0 "orders" "[J" (.ref r6) ∧ Fld Z h r0 cN0 "placed" "Ljava/util/function/ObjIntConsumer;" (.null) ∧ Fld Z h r0 cN0 "size" "I" (.int (2 : Int32)) ∧ Arv Z h r1 k_r1 (.object "java/lang/Object") (8 : Int32) [.ref r3, .ref r4, .null, .null, .null, .null, .null, .null] (.null) ∧ Arv Z h r5 k_r5 .long (8 : Int32) [.long p1, .long p2, .long p2, .long p3, .long p4, .long p5, .long p6, .long p7] (.long (0 : Int64)) ∧ Arv Z h r6 k_r6 .long (8 : Int32) [.long p9, .long p10, .long p10, .long p11, .long p12, .long p13, .long p14, .long p15] (.long (0 : Int64)))))
set_option maxRecDepth 65536 in
set_option maxHeartbeats 40000000 in
theorem rm13s27 (l : Launch) (Z : State) (a0 : Array Value) (hw : ∀ d ∈ tables_1, d.before a0 Z = true) (ws : List Jvm.Cond) (r0 : Addr) (r1 : Addr) (r2 : Addr) (r3 : Addr) (r4 : Addr) (r5 : Addr) (r6 : Addr) (p0 : Int64) (p1 : Int64) (p2 : Int64) (p3 : Int64) (p4 : Int64) (p5 : Int64) (p6 : Int64) (p7 : Int64) (p8 : Int64) (p9 : Int64) (p10 : Int64) (p11 : Int64) (p12 : Int64) (p13 : Int64) (p14 : Int64) (p15 : Int64) (k_r1 : ClassId) (k_r5 : ClassId) (k_r6 : ClassId) (h0 : Heap) (n0 : Nat) (Z0 : n0 ≤ h0.size) (E_r0 : Exa Z h0 r0 cN0) (F_elements_r0 : Fld Z h0 r0 cN0 "elements" "[Ljava/lang/Object;" (.ref r1)) (F_ends_r0 : Fld Z h0 r0 cN0 "ends" "[J" (.ref r5)) (F_orders_r0 : Fld Z h0 r0 cN0 "orders" "[J" (.ref r6)) (F_placed_r0 : Fld Z h0 r0 cN0 "placed" "Ljava/util/function/ObjIntConsumer;" (.null)) (F_size_r0 : Fld Z h0 r0 cN0 "size" "I" (.int (3 : Int32))) (g_r0 : n0 ≤ r0) (E_r2 : Exa Z h0 r2 "[I") (E_r3 : Exa Z h0 r3 "[I") (E_r4 : Exa Z h0 r4 "[I") (V_r1 : Arv Z h0 r1 k_r1 (.object "java/lang/Object") (8 : Int32) [.ref r2, .ref r3, .ref r4, .null, .null, .null, .null, .null] (.null)) (O_r1 : Ovr Z k_r1 "java/lang/Object") (g_r1 : n0 ≤ r1) (V_r5 : Arv Z h0 r5 k_r5 .long (8 : Int32) [.long p0, .long p1, .long p2, .long p3, .long p4, .long p5, .long p6, .long p7] (.long (0 : Int64))) (g_r5 : n0 ≤ r5) (V_r6 : Arv Z h0 r6 k_r6 .long (8 : Int32) [.long p8, .long p9, .long p10, .long p11, .long p12, .long p13, .long p14, .long p15] (.long (0 : Int64))) (g_r6 : n0 ≤ r6) (ne_r0_r1 : r0 ≠ r1) (ne_r0_r2 : r0 ≠ r2) (ne_r1_r2 : r1 ≠ r2) (ne_r0_r3 : r0 ≠ r3) (ne_r1_r3 : r1 ≠ r3) (ne_r2_r3 : r2 ≠ r3) (ne_r0_r4 : r0 ≠ r4) (ne_r1_r4 : r1 ≠ r4) (ne_r2_r4 : r2 ≠ r4) (ne_r3_r4 : r3 ≠ r4) (ne_r0_r5 : r0 ≠ r5) (ne_r1_r5 : r1 ≠ r5) (ne_r2_r5 : r2 ≠ r5) (ne_r3_r5 : r3 ≠ r5) (ne_r4_r5 : r4 ≠ r5) (ne_r0_r6 : r0 ≠ r6) (ne_r1_r6 : r1 ≠ r6) (ne_r2_r6 : r2 ≠ r6) (ne_r3_r6 : r3 ≠ r6) (ne_r4_r6 : r4 ≠ r6) (ne_r5_r6 : r5 ≠ r6) :
    Con l (⟨cN0, "removeAt", "(I)V"⟩ : MethodName) prog_31_method_9_code 3 none ws ({ frames := 2, cells := 0, slots := 0, locals := 38 } : Room) #[(.ref r0), (.int (0 : Int32))] Z h0 (Q13s27 Z r0 r1 r2 r3 r4 r5 r6 p0 p1 p2 p3 p4 p5 p6 p7 p8 p9 p10 p11 p12 p13 p14 p15 k_r1 k_r5 k_r6 h0 n0) ({ frames := 2, cells := 0, slots := 0, locals := 38 } : Room).cells ({ frames := 2, cells := 0, slots := 0, locals := 38 } : Room).slots := by
  refine own_body (plainFor_of_name pn_2) ?_
  intro p e s m below meth c s₁ hx hby hlk hml hown hnm hrt hZ X0 e0
  have w : ∀ (k : Nat) (d : Jvm.Cond), tables_1[k]? = some d → d.before a0 Z = true := fun k d h => hw d (List.mem_of_getElem? h)
  have N0 := Fr.nil n0
  have K0 := Keep.refl h0 [r0, r1, r5, r6]
  rw [ef_13s27]
  generalize hOWE : Owe s _ _ _ = OWE
  refine o_aloadN X0 hx (hb hby d13_0) (pc' := 1) rfl rfl rfl ?_
  refine o_iloadN X0 hx (hb hby d13_1) (pc' := 2) rfl rfl ?_
  refine o_callP X0 hx hZ 0 (argsL := [.int (0 : Int32)]) (rest := []) (a := r0) hown (w 41 _ rfl) (w 3 _ rfl) (w 43 _ rfl) (w 42 _ rfl) (w 4 _ rfl) (w 44 _ rfl) (by decide) (rm7s4 l Z a0 hw [] _ _ _ _ _ _ _ _ _ _ _ h0 n0 Z0 E_r0 F_elements_r0 E_r2 V_r1 O_r1 ne_r0_r1 ne_r0_r2 ne_r1_r2) E_r0 (by decide) (by decide) (cells' := 0) rfl (slots' := 0) rfl (by decide) (by decide) e0 (by rw [hml]; rfl) (lenOf pd_7 rfl) rfl rfl (hb hby d13_2) (pc' := 5) rfl ?_
  intro T1 v1 L1 X1 hQ1
  obtain ⟨rfl, Nq1, e1⟩ := hQ1
  have N1 := Fr.app N0 Nq1
  show Go p e below _ (T1.setTop (mkF m 5 _ [.ref r2]))
  refine o_astoreN X1 hx (hb hby d13_5) (pc' := 6) rfl (L' := #[.val (.ref r0), .val (.int (0 : Int32)), .val (.ref r2)]) rfl rfl ?_
  refine o_aloadN X1 hx (hb hby d13_6) (pc' := 7) rfl rfl rfl ?_
  refine o_dup X1 hx (hb hby d13_7) (pc' := 8) rfl rfl ?_
  refine o_getF X1 hx hZ hown (w 30 _ rfl) e1 F_size_r0 (hb hby d13_8) (pc' := 11) rfl ?_
  intro T2 X2 e2
  refine o_iconst X2 hx (1 : Int32) (hb hby d13_11) (pc' := 12) rfl (by decide) ?_
  refine o_isub X2 hx (hb hby d13_12) (pc' := 13) rfl ?_
  rw [show ((3 : Int32) - (1 : Int32)) = (2 : Int32) from by decide]
  refine o_putF X2 hx hZ hown (w 30 _ rfl) e2 F_size_r0 E_r0 (Or.inl (w 31 _ rfl)) (w 3 _ rfl) (ty := .int) (by decide) rfl rfl (hb hby d13_13) (pc' := 16) rfl ?_
  intro T3 h3 X3 e3 W3
  have Fw3 := Fld.same W3 F_size_r0
  have E4_r0 := Exa.wr W3 E_r0
  have F4_r0_elements := Fld.other W3 F_elements_r0 (Or.inr (slot_ne (C := cN0) (a0 := a0) (Or.inl (w 17 _ rfl)) (Or.inl (w 31 _ rfl)) (by decide) (t := (.array (.object "java/lang/Object"))) (t' := .int) (by decide) (by decide)))
  have F4_r0_ends := Fld.other W3 F_ends_r0 (Or.inr (slot_ne (C := cN0) (a0 := a0) (Or.inl (w 20 _ rfl)) (Or.inl (w 31 _ rfl)) (by decide) (t := (.array .long)) (t' := .int) (by decide) (by decide)))
  have F4_r0_orders := Fld.other W3 F_orders_r0 (Or.inr (slot_ne (C := cN0) (a0 := a0) (Or.inl (w 22 _ rfl)) (Or.inl (w 31 _ rfl)) (by decide) (t := (.array .long)) (t' := .int) (by decide) (by decide)))
  have F4_r0_placed := Fld.other W3 F_placed_r0 (Or.inr (slot_ne (C := cN0) (a0 := a0) (Or.inr (w 24 _ rfl)) (Or.inl (w 31 _ rfl)) (by decide) (t := (.object "java/util/function/ObjIntConsumer")) (t' := .int) (by decide) (by decide)))
  have E4_r2 := Exa.wr W3 E_r2
  have E4_r3 := Exa.wr W3 E_r3
  have E4_r4 := Exa.wr W3 E_r4
  have V4_r1 := Arv.other V_r1 W3 (Ne.symm ne_r0_r1)
  have V4_r5 := Arv.other V_r5 W3 (Ne.symm ne_r0_r5)
  have V4_r6 := Arv.other V_r6 W3 (Ne.symm ne_r0_r6)
  have N3 := Fr.snoc X3 N1 g_r0
  have Z3 : n0 ≤ h3.size := by rw [W3.size]; exact Z0
  have K3 := Keep.wr K0 W3 (Or.inl (List.mem_of_getElem? (i := 0) rfl))
  refine o_iloadN X3 hx (hb hby d13_16) (pc' := 17) rfl rfl ?_
  refine o_aloadN X3 hx (hb hby d13_17) (pc' := 18) rfl rfl rfl ?_
  refine o_getF X3 hx hZ hown (w 30 _ rfl) e3 Fw3 (hb hby d13_18) (pc' := 21) rfl ?_
  intro T5 X5 e5
  refine o_cmpN X5 hx (hb hby d13_21) (tlt (by decide : (0 : Int32) < (2 : Int32))).2.1 (pc' := 24) rfl ?_
  refine o_aloadN X5 hx (hb hby d13_24) (pc' := 25) rfl rfl rfl ?_
  refine o_iloadN X5 hx (hb hby d13_25) (pc' := 26) rfl rfl ?_
  refine o_aloadN X5 hx (hb hby d13_26) (pc' := 27) rfl rfl rfl ?_
  refine o_aloadN X5 hx (hb hby d13_27) (pc' := 28) rfl rfl rfl ?_
  refine o_getF X5 hx hZ hown (w 30 _ rfl) e5 Fw3 (hb hby d13_28) (pc' := 31) rfl ?_
  intro T6 X6 e6
  refine o_callP X6 hx hZ 2 (argsL := [.int (2 : Int32)]) (rest := [.int (0 : Int32), .ref r0]) (a := r0) hown (w 41 _ rfl) (w 3 _ rfl) (w 43 _ rfl) (w 42 _ rfl) (w 4 _ rfl) (w 44 _ rfl) (by decide) (rm7s22 l Z a0 hw [] _ _ _ _ _ _ _ _ _ _ _ h3 n0 Z3 E4_r0 F4_r0_elements E4_r4 V4_r1 O_r1 ne_r0_r1 ne_r0_r4 ne_r1_r4) E4_r0 (by decide) (by decide) (cells' := 0) rfl (slots' := 0) rfl (by decide) (by decide) e6 (by rw [hml]; rfl) (lenOf pd_7 rfl) rfl rfl (hb hby d13_31) (pc' := 34) rfl ?_
  intro T7 v7 L7 X7 hQ7
  obtain ⟨rfl, Nq7, e7⟩ := hQ7
  have N7 := Fr.app N3 Nq7
  show Go p e below _ (T7.setTop (mkF m 34 _ [.ref r4, .int (0 : Int32), .ref r0]))
  refine o_aloadN X7 hx (hb hby d13_34) (pc' := 35) rfl rfl rfl ?_
  refine o_getF X7 hx hZ hown (w 19 _ rfl) e7 F4_r0_ends (hb hby d13_35) (pc' := 38) rfl ?_
  intro T8 X8 e8
  refine o_aloadN X8 hx (hb hby d13_38) (pc' := 39) rfl rfl rfl ?_
  refine o_getF X8 hx hZ hown (w 30 _ rfl) e8 Fw3 (hb hby d13_39) (pc' := 42) rfl ?_
  intro T9 X9 e9
  refine o_laload X9 hx hZ (.long p2) e9 V4_r5 (by decide) (by rfl) (hb hby d13_42) (pc' := 43) rfl ?_
  refine o_aloadN X9 hx (hb hby d13_43) (pc' := 44) rfl rfl rfl ?_
  refine o_getF X9 hx hZ hown (w 21 _ rfl) e9 F4_r0_orders (hb hby d13_44) (pc' := 47) rfl ?_
  intro T10 X10 e10
  refine o_aloadN X10 hx (hb hby d13_47) (pc' := 48) rfl rfl rfl ?_
  refine o_getF X10 hx hZ hown (w 30 _ rfl) e10 Fw3 (hb hby d13_48) (pc' := 51) rfl ?_
  intro T11 X11 e11
  refine o_laload X11 hx hZ (.long p10) e11 V4_r6 (by decide) (by rfl) (hb hby d13_51) (pc' := 52) rfl ?_
  refine o_callP X11 hx hZ 0 (argsL := [.int (0 : Int32), .ref r4, .long p2, .long p10]) (rest := []) (a := r0) hown (w 32 _ rfl) (w 3 _ rfl) (w 34 _ rfl) (w 33 _ rfl) (w 4 _ rfl) (w 35 _ rfl) (by decide) (rm5s2 l Z a0 hw [] _ _ _ _ _ _ _ _ _ _ _ _ _ _ _ _ _ _ _ _ _ _ _ _ _ _ _ _ _ _ p2 p10 _ _ _ h3 n0 Z3 E4_r0 F4_r0_elements F4_r0_ends F4_r0_orders F4_r0_placed Fw3 g_r0 E4_r4 V4_r1 O_r1 g_r1 V4_r5 g_r5 V4_r6 g_r6 ne_r0_r1 ne_r0_r5 ne_r1_r5 ne_r0_r6 ne_r1_r6 ne_r5_r6 ne_r0_r4 ne_r1_r4 (Ne.symm ne_r4_r5) (Ne.symm ne_r4_r6)) E4_r0 (by decide) (by decide) (cells' := 0) rfl (slots' := 0) rfl (by decide) (by decide) e11 (by rw [hml]; rfl) (lenOf pd_6 rfl) rfl rfl (hb hby d13_52) (pc' := 55) rfl ?_
  intro T12 v12 L12 X12 hQ12
  obtain ⟨rfl, Nq12, Kq12, P12_0, P12_1, P12_2, P12_3, P12_4, P12_5, P12_6, P12_7, P12_8⟩ := hQ12
  have N12 := Fr.app N7 Nq12
  have E13_r2 := Exa.keep E4_r2 Kq12
  have E13_r3 := Exa.keep E4_r3 Kq12
  have E13_r4 := Exa.keep E4_r4 Kq12
  have Z12 : n0 ≤ T12.heap.size := Nat.le_trans Z3 Kq12.1
  have K12 := Keep.trans K3 Kq12 (allS (Or.inl (List.mem_of_getElem? (i := 0) rfl)) (allS (Or.inl (List.mem_of_getElem? (i := 1) rfl)) (allS (Or.inl (List.mem_of_getElem? (i := 2) rfl)) (allS (Or.inl (List.mem_of_getElem? (i := 3) rfl)) all0))))
  show Go p e below _ (T12.setTop (mkF m 55 _ []))
  refine o_aloadN X12 hx (hb hby d13_55) (pc' := 56) rfl rfl rfl ?_
  refine o_aloadN X12 hx (hb hby d13_56) (pc' := 57) rfl rfl rfl ?_
  refine o_iloadN X12 hx (hb hby d13_57) (pc' := 58) rfl rfl ?_
  refine o_callP X12 hx hZ 1 (argsL := [.int (0 : Int32)]) (rest := [.ref r0]) (a := r0) hown (w 37 _ rfl) (w 3 _ rfl) (w 39 _ rfl) (w 38 _ rfl) (w 4 _ rfl) (w 40 _ rfl) (by decide) (rm6s28 l Z a0 hw [] _ _ _ _ _ _ _ _ _ _ _ _ _ _ _ _ _ _ _ _ _ _ _ _ _ T12.heap n0 Z12 P12_0 P12_1 P12_2 P12_3 P12_4 P12_5 g_r0 E13_r4 E13_r3 P12_6 O_r1 g_r1 P12_7 g_r5 P12_8 g_r6 ne_r0_r1 ne_r0_r4 ne_r1_r4 ne_r0_r3 ne_r1_r3 (Ne.symm ne_r3_r4) ne_r0_r5 ne_r1_r5 ne_r4_r5 ne_r3_r5 ne_r0_r6 ne_r1_r6 ne_r4_r6 ne_r3_r6 ne_r5_r6) P12_0 (by decide) (by decide) (cells' := 0) rfl (slots' := 0) rfl (by decide) (by decide) rfl (by rw [hml]; rfl) (lenOf pd_8 rfl) rfl rfl (hb hby d13_58) (pc' := 61) rfl ?_
  intro T14 v14 L14 X14 hQ14
  obtain ⟨rfl, Nq14, Kq14, P14_0, P14_1, P14_2, P14_3, P14_4, P14_5, P14_6, P14_7, P14_8⟩ := hQ14
  have N14 := Fr.app N12 Nq14
  have E15_r2 := Exa.keep E13_r2 Kq14
  have E15_r3 := Exa.keep E13_r3 Kq14
  have E15_r4 := Exa.keep E13_r4 Kq14
  have Z14 : n0 ≤ T14.heap.size := Nat.le_trans Z12 Kq14.1
  have K14 := Keep.trans K12 Kq14 (allS (Or.inl (List.mem_of_getElem? (i := 0) rfl)) (allS (Or.inl (List.mem_of_getElem? (i := 1) rfl)) (allS (Or.inl (List.mem_of_getElem? (i := 2) rfl)) (allS (Or.inl (List.mem_of_getElem? (i := 3) rfl)) all0))))
  show Go p e below _ (T14.setTop (mkF m 61 _ [.int (0 : Int32), .ref r0]))
  refine o_callP X14 hx hZ 0 (argsL := [.int (0 : Int32)]) (rest := []) (a := r0) hown (w 68 _ rfl) (w 3 _ rfl) (w 70 _ rfl) (w 69 _ rfl) (w 4 _ rfl) (w 71 _ rfl) (by decide) (rm14s29 l Z a0 hw [] _ _ _ _ _ _ _ _ _ _ _ _ _ _ _ _ _ _ _ _ _ _ _ _ _ T14.heap n0 Z14 P14_0 P14_1 P14_2 P14_3 P14_4 P14_5 g_r0 E15_r4 E15_r3 P14_6 O_r1 g_r1 P14_7 g_r5 P14_8 g_r6 ne_r0_r1 ne_r0_r4 ne_r1_r4 ne_r0_r3 ne_r1_r3 (Ne.symm ne_r3_r4) ne_r0_r5 ne_r1_r5 ne_r4_r5 ne_r3_r5 ne_r0_r6 ne_r1_r6 ne_r4_r6 ne_r3_r6 ne_r5_r6) P14_0 (by decide) (by decide) (cells' := 0) rfl (slots' := 0) rfl (by decide) (by decide) rfl (by rw [hml]; rfl) (lenOf pd_10 rfl) rfl rfl (hb hby d13_61) (pc' := 64) rfl ?_
  intro T16 v16 L16 X16 hQ16
  rcases hQ16 with ⟨hm61_17, hQ16⟩ | ⟨hm61_17, hQ16⟩
  · obtain ⟨rfl, Nq16, Kq16, P16_0, P16_1, P16_2, P16_3, P16_4, P16_5, P16_6, P16_7, P16_8⟩ := hQ16
    have N16 := Fr.app N14 Nq16
    have E18_r2 := Exa.keep E15_r2 Kq16
    have E18_r3 := Exa.keep E15_r3 Kq16
    have E18_r4 := Exa.keep E15_r4 Kq16
    have Z16 : n0 ≤ T16.heap.size := Nat.le_trans Z14 Kq16.1
    have K16 := Keep.trans K14 Kq16 (allS (Or.inl (List.mem_of_getElem? (i := 0) rfl)) (allS (Or.inl (List.mem_of_getElem? (i := 1) rfl)) (allS (Or.inl (List.mem_of_getElem? (i := 2) rfl)) (allS (Or.inl (List.mem_of_getElem? (i := 3) rfl)) all0))))
    show Go p e below _ (T16.setTop (mkF m 64 _ []))
    refine o_aloadN X16 hx (hb hby d13_64) (pc' := 65) rfl rfl rfl ?_
    refine o_getF X16 hx hZ hown (w 16 _ rfl) rfl P16_1 (hb hby d13_65) (pc' := 68) rfl ?_
    intro T19 X19 e19
    refine o_aloadN X19 hx (hb hby d13_68) (pc' := 69) rfl rfl rfl ?_
    refine o_getF X19 hx hZ hown (w 30 _ rfl) e19 P16_5 (hb hby d13_69) (pc' := 72) rfl ?_
    intro T20 X20 e20
    refine o_aconst_null X20 hx (hb hby d13_72) (pc' := 73) rfl ?_
    refine o_aastore X20 hx hZ 2 e20 P16_6 rfl (fun cl A q => Or.inl rfl) (by decide) (by decide) (by exact (by decide : 2 < 8)) rfl (vs' := [.ref r4, .ref r3, .null, .null, .null, .null, .null, .null]) rfl (hb hby d13_73) (pc' := 74) rfl ?_
    intro T21 h21 X21 e21 W21 V21_
    have E22_r0 := Exa.wr W21 P16_0
    have F22_r0_elements := Fld.other W21 P16_1 (Or.inl ne_r0_r1)
    have F22_r0_ends := Fld.other W21 P16_2 (Or.inl ne_r0_r1)
    have F22_r0_orders := Fld.other W21 P16_3 (Or.inl ne_r0_r1)
    have F22_r0_placed := Fld.other W21 P16_4 (Or.inl ne_r0_r1)
    have F22_r0_size := Fld.other W21 P16_5 (Or.inl ne_r0_r1)
    have E22_r2 := Exa.wr W21 E18_r2
    have E22_r3 := Exa.wr W21 E18_r3
    have E22_r4 := Exa.wr W21 E18_r4
    have V22_r5 := Arv.other P16_7 W21 (Ne.symm ne_r1_r5)
    have V22_r6 := Arv.other P16_8 W21 (Ne.symm ne_r1_r6)
    have N21 := Fr.snoc X21 N16 g_r1
    have Z21 : n0 ≤ h21.size := by rw [W21.size]; exact Z16
    have K21 := Keep.wr K16 W21 (Or.inl (List.mem_of_getElem? (i := 1) rfl))
    refine o_aloadN X21 hx (hb hby d13_74) (pc' := 75) rfl rfl rfl ?_
    refine o_getF X21 hx hZ hown (w 23 _ rfl) e21 F22_r0_placed (hb hby d13_75) (pc' := 78) rfl ?_
    intro T23 X23 e23
    refine Go.via (fun t k => XS.ifnullYes X23.here hx rfl (pc0 := 78) (pc' := 92) rfl (hb hby d13_78) rfl (by decide) (by decide) k) ?_
    show Go p e below _ (T23.setTop (mkF m 92 _ []))
    rw [← hOWE]
    exact o_retV X23 hx hlk hrt (hb hby d13_92) (by decide) (by decide) (by rw [e23]; exact (Or.inl ⟨hm61_17, ⟨rfl, N21, K21, E22_r0, F22_r0_elements, F22_r0_ends, F22_r0_orders, F22_r0_placed, F22_r0_size, V21_, V22_r5, V22_r6⟩⟩))
  · obtain ⟨rfl, Nq16, Kq16, P16_0, P16_1, P16_2, P16_3, P16_4, P16_5, P16_6, P16_7, P16_8⟩ := hQ16
    have N16 := Fr.app N14 Nq16
    have E24_r2 := Exa.keep E15_r2 Kq16
    have E24_r3 := Exa.keep E15_r3 Kq16
    have E24_r4 := Exa.keep E15_r4 Kq16
    have Z16 : n0 ≤ T16.heap.size := Nat.le_trans Z14 Kq16.1
    have K16 := Keep.trans K14 Kq16 (allS (Or.inl (List.mem_of_getElem? (i := 0) rfl)) (allS (Or.inl (List.mem_of_getElem? (i := 1) rfl)) (allS (Or.inl (List.mem_of_getElem? (i := 2) rfl)) (allS (Or.inl (List.mem_of_getElem? (i := 3) rfl)) all0))))
    show Go p e below _ (T16.setTop (mkF m 64 _ []))
    refine o_aloadN X16 hx (hb hby d13_64) (pc' := 65) rfl rfl rfl ?_
    refine o_getF X16 hx hZ hown (w 16 _ rfl) rfl P16_1 (hb hby d13_65) (pc' := 68) rfl ?_
    intro T25 X25 e25
    refine o_aloadN X25 hx (hb hby d13_68) (pc' := 69) rfl rfl rfl ?_
    refine o_getF X25 hx hZ hown (w 30 _ rfl) e25 P16_5 (hb hby d13_69) (pc' := 72) rfl ?_
    intro T26 X26 e26
    refine o_aconst_null X26 hx (hb hby d13_72) (pc' := 73) rfl ?_
    refine o_aastore X26 hx hZ 2 e26 P16_6 rfl (fun cl A q => Or.inl rfl) (by decide) (by decide) (by exact (by decide : 2 < 8)) rfl (vs' := [.ref r3, .ref r4, .null, .null, .null, .null, .null, .null]) rfl (hb hby d13_73) (pc' := 74) rfl ?_
    intro T27 h27 X27 e27 W27 V27_
    have E28_r0 := Exa.wr W27 P16_0
    have F28_r0_elements := Fld.other W27 P16_1 (Or.inl ne_r0_r1)
    have F28_r0_ends := Fld.other W27 P16_2 (Or.inl ne_r0_r1)
    have F28_r0_orders := Fld.other W27 P16_3 (Or.inl ne_r0_r1)
    have F28_r0_placed := Fld.other W27 P16_4 (Or.inl ne_r0_r1)
    have F28_r0_size := Fld.other W27 P16_5 (Or.inl ne_r0_r1)
    have E28_r2 := Exa.wr W27 E24_r2
    have E28_r3 := Exa.wr W27 E24_r3
    have E28_r4 := Exa.wr W27 E24_r4
    have V28_r5 := Arv.other P16_7 W27 (Ne.symm ne_r1_r5)
    have V28_r6 := Arv.other P16_8 W27 (Ne.symm ne_r1_r6)
    have N27 := Fr.snoc X27 N16 g_r1
    have Z27 : n0 ≤ h27.size := by rw [W27.size]; exact Z16
    have K27 := Keep.wr K16 W27 (Or.inl (List.mem_of_getElem? (i := 1) rfl))
    refine o_aloadN X27 hx (hb hby d13_74) (pc' := 75) rfl rfl rfl ?_
    refine o_getF X27 hx hZ hown (w 23 _ rfl) e27 F28_r0_placed (hb hby d13_75) (pc' := 78) rfl ?_
    intro T29 X29 e29
    refine Go.via (fun t k => XS.ifnullYes X29.here hx rfl (pc0 := 78) (pc' := 92) rfl (hb hby d13_78) rfl (by decide) (by decide) k) ?_
    show Go p e below _ (T29.setTop (mkF m 92 _ []))
    rw [← hOWE]
    exact o_retV X29 hx hlk hrt (hb hby d13_92) (by decide) (by decide) (by rw [e29]; exact (Or.inr ⟨hm61_17, ⟨rfl, N27, K27, E28_r0, F28_r0_elements, F28_r0_ends, F28_r0_orders, F28_r0_placed, F28_r0_size, V27_, V28_r5, V28_r6⟩⟩))
theorem ef_6s31 (m : MethodId) (x0 : Addr) (x1 : Int32) : entryFrame m #[(.ref x0), (.int x1)] 8 = mkF m 0 #[.val (.ref x0), .val (.int x1), .unset, .unset, .unset, .unset, .unset, .unset] [] := by first | (simp [entryFrame, mkF, argsToLocals, Value.category]; done) | rfl
def Q6s31 (Z : State) (r0 : Addr) (r1 : Addr) (r2 : Addr) (r3 : Addr) (r4 : Addr) (r5 : Addr) (p0 : Int64) (p1 : Int64) (p2 : Int64) (p3 : Int64) (p4 : Int64) (p5 : Int64) (p6 : Int64) (p7 : Int64) (p8 : Int64) (p9 : Int64) (p10 : Int64) (p11 : Int64) (p12 : Int64) (p13 : Int64) (p14 : Int64) (p15 : Int64) (k_r1 : ClassId) (k_r4 : ClassId) (k_r5 : ClassId) (h0 : Heap) (n0 : Nat) (v : Option Value) (h : Heap) (L : List Loc) : Prop := (((o5 p1 p9 p0 p8) = (0 : Int32) ∧ (v = some (.int (1 : Int32)) ∧ Fr n0 L ∧ Keep h0 h [r0, r1, r4, r5] ∧ Exa Z h r0 cN0 ∧ Fld Z h r0 cN0 "elements" "[Ljava/lang/Object;" (.ref r1) ∧ Fld Z h r0 cN0 "ends" "[J" (.ref r4) ∧ Fld Z h r0 cN0 "orders" "[J" (.ref r5) ∧ Fld Z h r0 cN0 "placed" "Ljava/util/function/ObjIntConsumer;" (.null) ∧ Fld Z h r0 cN0 "size" "I" (.int (2 : Int32)) ∧ Arv Z h r1 k_r1 (.object "java/lang/Object") (8 : Int32) [.ref r2, .ref r3, .ref r3, .null, .null, .null, .null, .null] (.null) ∧ Arv Z h r4 k_r4 .long (8 : Int32) [.long p0, .long p1, .long p2, .long p3, .long p4, .long p5, .long p6, .long p7] (.long (0 : Int64)) ∧ Arv Z h r5 k_r5 .long (8 : Int32) [.long p8, .long p9, .long p10, .long p11, .long p12, .long p13, .long p14, .long p15] (.long (0 : Int64)))) ∨ (¬ ((o5 p1 p9 p0 p8) = (0 : Int32)) ∧ (v = some (.int (0 : Int32)) ∧ Fr n0 L ∧ Keep h0 h [r0, r1, r4, r5] ∧ Exa Z h r0 cN0 ∧ Fld Z h r0 cN0 "elements" "[Ljava/lang/Object;" (.ref r1) ∧ Fld Z h r0 cN0 "ends" "[J" (.ref r4) ∧ Fld Z h r0 cN0 "orders" "[J" (.ref r5) ∧ Fld Z h r0 cN0 "placed" "Ljava/util/function/ObjIntConsumer;" (.null) ∧ Fld Z h r0 cN0 "size" "I" (.int (2 : Int32)) ∧ Arv Z h r1 k_r1 (.object "java/lang/Object") (8 : Int32) [.ref r3, .ref r2, .ref r3, .null, .null, .null, .null, .null] (.null) ∧ Arv Z h r4 k_r4 .long (8 : Int32) [.long p1, .long p0, .long p2, .long p3, .long p4, .long p5, .long p6, .long p7] (.long (0 : Int64)) ∧ Arv Z h r5 k_r5 .long (8 : Int32) [.long p9, .long p8, .long p10, .long p11, .long p12, .long p13, .long p14, .long p15] (.long (0 : Int64)))))
set_option maxRecDepth 65536 in
set_option maxHeartbeats 40000000 in
theorem rm6s31 (l : Launch) (Z : State) (a0 : Array Value) (hw : ∀ d ∈ tables_1, d.before a0 Z = true) (ws : List Jvm.Cond) (r0 : Addr) (r1 : Addr) (r2 : Addr) (r3 : Addr) (r4 : Addr) (r5 : Addr) (p0 : Int64) (p1 : Int64) (p2 : Int64) (p3 : Int64) (p4 : Int64) (p5 : Int64) (p6 : Int64) (p7 : Int64) (p8 : Int64) (p9 : Int64) (p10 : Int64) (p11 : Int64) (p12 : Int64) (p13 : Int64) (p14 : Int64) (p15 : Int64) (k_r1 : ClassId) (k_r4 : ClassId) (k_r5 : ClassId) (h0 : Heap) (n0 : Nat) (Z0 : n0 ≤ h0.size) (E_r0 : Exa Z h0 r0 cN0) (F_elements_r0 : Fld Z h0 r0 cN0 "elements" "[Ljava/lang/Object;" (.ref r1)) (F_ends_r0 : Fld Z h0 r0 cN0 "ends" "[J" (.ref r4)) (F_orders_r0 : Fld Z h0 r0 cN0 "orders" "[J" (.ref r5)) (F_placed_r0 : Fld Z h0 r0 cN0 "placed" "Ljava/util/function/ObjIntConsumer;" (.null)) (F_size_r0 : Fld Z h0 r0 cN0 "size" "I" (.int (2 : Int32))) (g_r0 : n0 ≤ r0) (E_r2 : Exa Z h0 r2 "[I") (E_r3 : Exa Z h0 r3 "[I") (V_r1 : Arv Z h0 r1 k_r1 (.object "java/lang/Object") (8 : Int32) [.ref r2, .ref r3, .ref r3, .null, .null, .null, .null, .null] (.null)) (O_r1 : Ovr Z k_r1 "java/lang/Object") (g_r1 : n0 ≤ r1) (V_r4 : Arv Z h0 r4 k_r4 .long (8 : Int32) [.long p0, .long p1, .long p2, .long p3, .long p4, .long p5, .long p6, .long p7] (.long (0 : Int64))) (g_r4 : n0 ≤ r4) (V_r5 : Arv Z h0 r5 k_r5 .long (8 : Int32) [.long p8, .long p9, .long p10, .long p11, .long p12, .long p13, .long p14, .long p15] (.long (0 : Int64))) (g_r5 : n0 ≤ r5) (ne_r0_r1 : r0 ≠ r1) (ne_r0_r2 : r0 ≠ r2) (ne_r1_r2 : r1 ≠ r2) (ne_r0_r3 : r0 ≠ r3) (ne_r1_r3 : r1 ≠ r3) (ne_r2_r3 : r2 ≠ r3) (ne_r0_r4 : r0 ≠ r4) (ne_r1_r4 : r1 ≠ r4) (ne_r2_r4 : r2 ≠ r4) (ne_r3_r4 : r3 ≠ r4) (ne_r0_r5 : r0 ≠ r5) (ne_r1_r5 : r1 ≠ r5) (ne_r2_r5 : r2 ≠ r5) (ne_r3_r5 : r3 ≠ r5) (ne_r4_r5 : r4 ≠ r5) :
    Con l (⟨cN0, "siftUp", "(I)I"⟩ : MethodName) prog_31_method_11_code 8 (some .int) ws ({ frames := 1, cells := 0, slots := 0, locals := 19 } : Room) #[(.ref r0), (.int (1 : Int32))] Z h0 (Q6s31 Z r0 r1 r2 r3 r4 r5 p0 p1 p2 p3 p4 p5 p6 p7 p8 p9 p10 p11 p12 p13 p14 p15 k_r1 k_r4 k_r5 h0 n0) ({ frames := 1, cells := 0, slots := 0, locals := 19 } : Room).cells ({ frames := 1, cells := 0, slots := 0, locals := 19 } : Room).slots := by
  refine own_body (plainFor_of_name pn_2) ?_
  intro p e s m below meth c s₁ hx hby hlk hml hown hnm hrt hZ X0 e0
  have w : ∀ (k : Nat) (d : Jvm.Cond), tables_1[k]? = some d → d.before a0 Z = true := fun k d h => hw d (List.mem_of_getElem? h)
  have N0 := Fr.nil n0
  have K0 := Keep.refl h0 [r0, r1, r4, r5]
  rw [ef_6s31]
  generalize hOWE : Owe s _ _ _ = OWE
  refine o_aloadN X0 hx (hb hby d6_0) (pc' := 1) rfl rfl rfl ?_
  refine o_iloadN X0 hx (hb hby d6_1) (pc' := 2) rfl rfl ?_
  refine o_callP X0 hx hZ 0 (argsL := [.int (1 : Int32)]) (rest := []) (a := r0) hown (w 41 _ rfl) (w 3 _ rfl) (w 43 _ rfl) (w 42 _ rfl) (w 4 _ rfl) (w 44 _ rfl) (by decide) (rm7s11 l Z a0 hw [] _ _ _ _ _ _ _ _ _ _ _ h0 n0 Z0 E_r0 F_elements_r0 E_r3 V_r1 O_r1 ne_r0_r1 ne_r0_r3 ne_r1_r3) E_r0 (by decide) (by decide) (cells' := 0) rfl (slots' := 0) rfl (by decide) (by decide) e0 (by rw [hml]; rfl) (lenOf pd_7 rfl) rfl rfl (hb hby d6_2) (pc' := 5) rfl ?_
  intro T1 v1 L1 X1 hQ1
  obtain ⟨rfl, Nq1, e1⟩ := hQ1
  have N1 := Fr.app N0 Nq1
  show Go p e below _ (T1.setTop (mkF m 5 _ [.ref r3]))
  refine o_astoreN X1 hx (hb hby d6_5) (pc' := 6) rfl (L' := #[.val (.ref r0), .val (.int (1 : Int32)), .val (.ref r3), .unset, .unset, .unset, .unset, .unset]) rfl rfl ?_
  refine o_aloadN X1 hx (hb hby d6_6) (pc' := 7) rfl rfl rfl ?_
  refine o_getF X1 hx hZ hown (w 19 _ rfl) e1 F_ends_r0 (hb hby d6_7) (pc' := 10) rfl ?_
  intro T2 X2 e2
  refine o_iloadN X2 hx (hb hby d6_10) (pc' := 11) rfl rfl ?_
  refine o_laload X2 hx hZ (.long p1) e2 V_r4 (by decide) (by rfl) (hb hby d6_11) (pc' := 12) rfl ?_
  refine o_lstoreN X2 hx (hb hby d6_12) (pc' := 13) rfl (L' := #[.val (.ref r0), .val (.int (1 : Int32)), .val (.ref r3), .val (.long p1), .second, .unset, .unset, .unset]) rfl ?_
  refine o_aloadN X2 hx (hb hby d6_13) (pc' := 14) rfl rfl rfl ?_
  refine o_getF X2 hx hZ hown (w 21 _ rfl) e2 F_orders_r0 (hb hby d6_14) (pc' := 17) rfl ?_
  intro T3 X3 e3
  refine o_iloadN X3 hx (hb hby d6_17) (pc' := 18) rfl rfl ?_
  refine o_laload X3 hx hZ (.long p9) e3 V_r5 (by decide) (by rfl) (hb hby d6_18) (pc' := 19) rfl ?_
  refine o_lstore X3 hx (hb hby d6_19) (pc' := 21) rfl (L' := #[.val (.ref r0), .val (.int (1 : Int32)), .val (.ref r3), .val (.long p1), .second, .val (.long p9), .second, .unset]) rfl ?_
  refine o_iloadN X3 hx (hb hby d6_21) (pc' := 22) rfl rfl ?_
  refine o_ifN X3 hx (hb hby d6_22) (tlt (by decide : (0 : Int32) < (1 : Int32))).2.2.2 (pc' := 25) rfl ?_
  refine o_iloadN X3 hx (hb hby d6_25) (pc' := 26) rfl rfl ?_
  refine o_iconst X3 hx (1 : Int32) (hb hby d6_26) (pc' := 27) rfl (by decide) ?_
  refine o_isub X3 hx (hb hby d6_27) (pc' := 28) rfl ?_
  rw [show ((1 : Int32) - (1 : Int32)) = (0 : Int32) from by decide]
  refine o_iconst X3 hx (2 : Int32) (hb hby d6_28) (pc' := 29) rfl (by decide) ?_
  refine o_idiv X3 hx (hb hby d6_29) (pc' := 30) rfl (by decide) ?_
  rw [show ((0 : Int32) / (2 : Int32)) = (0 : Int32) from by decide]
  refine o_istore X3 hx (hb hby d6_30) (pc' := 32) rfl (L' := #[.val (.ref r0), .val (.int (1 : Int32)), .val (.ref r3), .val (.long p1), .second, .val (.long p9), .second, .val (.int (0 : Int32))]) rfl ?_
  refine o_lloadN X3 hx (hb hby d6_32) (pc' := 33) rfl rfl ?_
  refine o_lload X3 hx (hb hby d6_33) (pc' := 35) rfl rfl ?_
  refine o_aloadN X3 hx (hb hby d6_35) (pc' := 36) rfl rfl rfl ?_
  refine o_getF X3 hx hZ hown (w 19 _ rfl) e3 F_ends_r0 (hb hby d6_36) (pc' := 39) rfl ?_
  intro T4 X4 e4
  refine o_iload X4 hx (hb hby d6_39) (pc' := 41) rfl rfl ?_
  refine o_laload X4 hx hZ (.long p0) e4 V_r4 (by decide) (by rfl) (hb hby d6_41) (pc' := 42) rfl ?_
  refine o_aloadN X4 hx (hb hby d6_42) (pc' := 43) rfl rfl rfl ?_
  refine o_getF X4 hx hZ hown (w 21 _ rfl) e4 F_orders_r0 (hb hby d6_43) (pc' := 46) rfl ?_
  intro T5 X5 e5
  refine o_iload X5 hx (hb hby d6_46) (pc' := 48) rfl rfl ?_
  refine o_laload X5 hx hZ (.long p8) e5 V_r5 (by decide) (by rfl) (hb hby d6_48) (pc' := 49) rfl ?_
  refine o_callS X5 hx hZ 0 (argsL := [.long p1, .long p9, .long p0, .long p8]) (rest := []) hown (w 45 _ rfl) (w 46 _ rfl) (w 4 _ rfl) (w 47 _ rfl) (by decide) (rm8 l Z a0 hw [] p1 p9 p0 p8 h0 n0 Z0 ) (by decide) (by decide) (cells' := 0) rfl (slots' := 0) rfl (by decide) (by decide) e5 (by rw [hml]; rfl) (lenOf pd_2 rfl) rfl rfl (hb hby d6_49) (pc' := 52) rfl ?_
  intro T6 v6 L6 X6 hQ6
  obtain ⟨rfl, Nq6, e6⟩ := hQ6
  have N6 := Fr.app N1 Nq6
  show Go p e below _ (T6.setTop (mkF m 52 _ [.int (o5 p1 p9 p0 p8)]))
  by_cases hc52_7 : (o5 p1 p9 p0 p8) = (0 : Int32)
  · refine o_ifN X6 hx (hb hby d6_52) (teq hc52_7).2 (pc' := 55) rfl ?_
    refine o_goto X6 hx (hb hby d6_55) (by decide) (pc' := 89) (by decide) ?_
    refine o_aloadN X6 hx (hb hby d6_89) (pc' := 90) rfl rfl rfl ?_
    refine o_iloadN X6 hx (hb hby d6_90) (pc' := 91) rfl rfl ?_
    refine o_aloadN X6 hx (hb hby d6_91) (pc' := 92) rfl rfl rfl ?_
    refine o_lloadN X6 hx (hb hby d6_92) (pc' := 93) rfl rfl ?_
    refine o_lload X6 hx (hb hby d6_93) (pc' := 95) rfl rfl ?_
    refine o_callP X6 hx hZ 0 (argsL := [.int (1 : Int32), .ref r3, .long p1, .long p9]) (rest := []) (a := r0) hown (w 32 _ rfl) (w 3 _ rfl) (w 34 _ rfl) (w 33 _ rfl) (w 4 _ rfl) (w 35 _ rfl) (by decide) (rm5s9 l Z a0 hw [] _ _ _ _ _ _ _ _ _ _ _ _ _ _ _ _ _ _ _ _ _ _ _ _ _ _ _ _ _ _ p1 p9 _ _ _ h0 n0 Z0 E_r0 F_elements_r0 F_ends_r0 F_orders_r0 F_placed_r0 F_size_r0 g_r0 E_r3 V_r1 O_r1 g_r1 V_r4 g_r4 V_r5 g_r5 ne_r0_r1 ne_r0_r4 ne_r1_r4 ne_r0_r5 ne_r1_r5 ne_r4_r5 ne_r0_r3 ne_r1_r3 (Ne.symm ne_r3_r4) (Ne.symm ne_r3_r5)) E_r0 (by decide) (by decide) (cells' := 0) rfl (slots' := 0) rfl (by decide) (by decide) e6 (by rw [hml]; rfl) (lenOf pd_6 rfl) rfl rfl (hb hby d6_95) (pc' := 98) rfl ?_
    intro T8 v8 L8 X8 hQ8
    obtain ⟨rfl, Nq8, Kq8, P8_0, P8_1, P8_2, P8_3, P8_4, P8_5, P8_6, P8_7, P8_8⟩ := hQ8
    have N8 := Fr.app N6 Nq8
    have E9_r2 := Exa.keep E_r2 Kq8
    have E9_r3 := Exa.keep E_r3 Kq8
    have Z8 : n0 ≤ T8.heap.size := Nat.le_trans Z0 Kq8.1
    have K8 := Keep.trans K0 Kq8 (allS (Or.inl (List.mem_of_getElem? (i := 0) rfl)) (allS (Or.inl (List.mem_of_getElem? (i := 1) rfl)) (allS (Or.inl (List.mem_of_getElem? (i := 2) rfl)) (allS (Or.inl (List.mem_of_getElem? (i := 3) rfl)) all0))))
    show Go p e below _ (T8.setTop (mkF m 98 _ []))
    refine o_iloadN X8 hx (hb hby d6_98) (pc' := 99) rfl rfl ?_
    rw [← hOWE]
    exact o_retI X8 hx hlk hrt (hb hby d6_99) (by decide) (by decide) (Or.inl ⟨hc52_7, ⟨rfl, N8, K8, P8_0, P8_1, P8_2, P8_3, P8_4, P8_5, P8_6, P8_7, P8_8⟩⟩)
  · refine o_ifY X6 hx (hb hby d6_52) (feq hc52_7).2 (by decide) (pc' := 58) (by decide) ?_
    refine o_aloadN X6 hx (hb hby d6_58) (pc' := 59) rfl rfl rfl ?_
    refine o_iloadN X6 hx (hb hby d6_59) (pc' := 60) rfl rfl ?_
    refine o_aloadN X6 hx (hb hby d6_60) (pc' := 61) rfl rfl rfl ?_
    refine o_iload X6 hx (hb hby d6_61) (pc' := 63) rfl rfl ?_
    refine o_callP X6 hx hZ 2 (argsL := [.int (0 : Int32)]) (rest := [.int (1 : Int32), .ref r0]) (a := r0) hown (w 41 _ rfl) (w 3 _ rfl) (w 43 _ rfl) (w 42 _ rfl) (w 4 _ rfl) (w 44 _ rfl) (by decide) (rm7s4 l Z a0 hw [] _ _ _ _ _ _ _ _ _ _ _ h0 n0 Z0 E_r0 F_elements_r0 E_r2 V_r1 O_r1 ne_r0_r1 ne_r0_r2 ne_r1_r2) E_r0 (by decide) (by decide) (cells' := 0) rfl (slots' := 0) rfl (by decide) (by decide) e6 (by rw [hml]; rfl) (lenOf pd_7 rfl) rfl rfl (hb hby d6_63) (pc' := 66) rfl ?_
    intro T10 v10 L10 X10 hQ10
    obtain ⟨rfl, Nq10, e10⟩ := hQ10
    have N10 := Fr.app N6 Nq10
    show Go p e below _ (T10.setTop (mkF m 66 _ [.ref r2, .int (1 : Int32), .ref r0]))
    refine o_aloadN X10 hx (hb hby d6_66) (pc' := 67) rfl rfl rfl ?_
    refine o_getF X10 hx hZ hown (w 19 _ rfl) e10 F_ends_r0 (hb hby d6_67) (pc' := 70) rfl ?_
    intro T11 X11 e11
    refine o_iload X11 hx (hb hby d6_70) (pc' := 72) rfl rfl ?_
    refine o_laload X11 hx hZ (.long p0) e11 V_r4 (by decide) (by rfl) (hb hby d6_72) (pc' := 73) rfl ?_
    refine o_aloadN X11 hx (hb hby d6_73) (pc' := 74) rfl rfl rfl ?_
    refine o_getF X11 hx hZ hown (w 21 _ rfl) e11 F_orders_r0 (hb hby d6_74) (pc' := 77) rfl ?_
    intro T12 X12 e12
    refine o_iload X12 hx (hb hby d6_77) (pc' := 79) rfl rfl ?_
    refine o_laload X12 hx hZ (.long p8) e12 V_r5 (by decide) (by rfl) (hb hby d6_79) (pc' := 80) rfl ?_
    refine o_callP X12 hx hZ 0 (argsL := [.int (1 : Int32), .ref r2, .long p0, .long p8]) (rest := []) (a := r0) hown (w 32 _ rfl) (w 3 _ rfl) (w 34 _ rfl) (w 33 _ rfl) (w 4 _ rfl) (w 35 _ rfl) (by decide) (rm5s9 l Z a0 hw [] _ _ _ _ _ _ _ _ _ _ _ _ _ _ _ _ _ _ _ _ _ _ _ _ _ _ _ _ _ _ p0 p8 _ _ _ h0 n0 Z0 E_r0 F_elements_r0 F_ends_r0 F_orders_r0 F_placed_r0 F_size_r0 g_r0 E_r2 V_r1 O_r1 g_r1 V_r4 g_r4 V_r5 g_r5 ne_r0_r1 ne_r0_r4 ne_r1_r4 ne_r0_r5 ne_r1_r5 ne_r4_r5 ne_r0_r2 ne_r1_r2 (Ne.symm ne_r2_r4) (Ne.symm ne_r2_r5)) E_r0 (by decide) (by decide) (cells' := 0) rfl (slots' := 0) rfl (by decide) (by decide) e12 (by rw [hml]; rfl) (lenOf pd_6 rfl) rfl rfl (hb hby d6_80) (pc' := 83) rfl ?_
    intro T13 v13 L13 X13 hQ13
    obtain ⟨rfl, Nq13, Kq13, P13_0, P13_1, P13_2, P13_3, P13_4, P13_5, P13_6, P13_7, P13_8⟩ := hQ13
    have N13 := Fr.app N10 Nq13
    have E14_r2 := Exa.keep E_r2 Kq13
    have E14_r3 := Exa.keep E_r3 Kq13
    have Z13 : n0 ≤ T13.heap.size := Nat.le_trans Z0 Kq13.1
    have K13 := Keep.trans K0 Kq13 (allS (Or.inl (List.mem_of_getElem? (i := 0) rfl)) (allS (Or.inl (List.mem_of_getElem? (i := 1) rfl)) (allS (Or.inl (List.mem_of_getElem? (i := 2) rfl)) (allS (Or.inl (List.mem_of_getElem? (i := 3) rfl)) all0))))
    show Go p e below _ (T13.setTop (mkF m 83 _ []))
    refine o_iload X13 hx (hb hby d6_83) (pc' := 85) rfl rfl ?_
    refine o_istoreN X13 hx (hb hby d6_85) (pc' := 86) rfl (L' := #[.val (.ref r0), .val (.int (0 : Int32)), .val (.ref r3), .val (.long p1), .second, .val (.long p9), .second, .val (.int (0 : Int32))]) rfl ?_
    refine o_goto X13 hx (hb hby d6_86) (by decide) (pc' := 21) (by decide) ?_
    refine o_iloadN X13 hx (hb hby d6_21) (pc' := 22) rfl rfl ?_
    refine o_ifY X13 hx (hb hby d6_22) (flt (by decide : ¬ ((0 : Int32) < (0 : Int32)))).2.2.2 (by decide) (pc' := 89) (by decide) ?_
    refine o_aloadN X13 hx (hb hby d6_89) (pc' := 90) rfl rfl rfl ?_
    refine o_iloadN X13 hx (hb hby d6_90) (pc' := 91) rfl rfl ?_
    refine o_aloadN X13 hx (hb hby d6_91) (pc' := 92) rfl rfl rfl ?_
    refine o_lloadN X13 hx (hb hby d6_92) (pc' := 93) rfl rfl ?_
    refine o_lload X13 hx (hb hby d6_93) (pc' := 95) rfl rfl ?_
    refine o_callP X13 hx hZ 0 (argsL := [.int (0 : Int32), .ref r3, .long p1, .long p9]) (rest := []) (a := r0) hown (w 32 _ rfl) (w 3 _ rfl) (w 34 _ rfl) (w 33 _ rfl) (w 4 _ rfl) (w 35 _ rfl) (by decide) (rm5s2 l Z a0 hw [] _ _ _ _ _ _ _ _ _ _ _ _ _ _ _ _ _ _ _ _ _ _ _ _ _ _ _ _ _ _ p1 p9 _ _ _ T13.heap n0 Z13 P13_0 P13_1 P13_2 P13_3 P13_4 P13_5 g_r0 E14_r3 P13_6 O_r1 g_r1 P13_7 g_r4 P13_8 g_r5 ne_r0_r1 ne_r0_r4 ne_r1_r4 ne_r0_r5 ne_r1_r5 ne_r4_r5 ne_r0_r3 ne_r1_r3 (Ne.symm ne_r3_r4) (Ne.symm ne_r3_r5)) P13_0 (by decide) (by decide) (cells' := 0) rfl (slots' := 0) rfl (by decide) (by decide) rfl (by rw [hml]; rfl) (lenOf pd_6 rfl) rfl rfl (hb hby d6_95) (pc' := 98) rfl ?_
    intro T15 v15 L15 X15 hQ15
    obtain ⟨rfl, Nq15, Kq15, P15_0, P15_1, P15_2, P15_3, P15_4, P15_5, P15_6, P15_7, P15_8⟩ := hQ15
    have N15 := Fr.app N13 Nq15
    have E16_r2 := Exa.keep E14_r2 Kq15
    have E16_r3 := Exa.keep E14_r3 Kq15
    have Z15 : n0 ≤ T15.heap.size := Nat.le_trans Z13 Kq15.1
    have K15 := Keep.trans K13 Kq15 (allS (Or.inl (List.mem_of_getElem? (i := 0) rfl)) (allS (Or.inl (List.mem_of_getElem? (i := 1) rfl)) (allS (Or.inl (List.mem_of_getElem? (i := 2) rfl)) (allS (Or.inl (List.mem_of_getElem? (i := 3) rfl)) all0))))
    show Go p e below _ (T15.setTop (mkF m 98 _ []))
    refine o_iloadN X15 hx (hb hby d6_98) (pc' := 99) rfl rfl ?_
    rw [← hOWE]
    exact o_retI X15 hx hlk hrt (hb hby d6_99) (by decide) (by decide) (Or.inr ⟨hc52_7, ⟨rfl, N15, K15, P15_0, P15_1, P15_2, P15_3, P15_4, P15_5, P15_6, P15_7, P15_8⟩⟩)
theorem ef_14s32 (m : MethodId) (x0 : Addr) (x1 : Int32) : entryFrame m #[(.ref x0), (.int x1)] 8 = mkF m 0 #[.val (.ref x0), .val (.int x1), .unset, .unset, .unset, .unset, .unset, .unset] [] := by first | (simp [entryFrame, mkF, argsToLocals, Value.category]; done) | rfl
def Q14s32 (Z : State) (r0 : Addr) (r1 : Addr) (r2 : Addr) (r3 : Addr) (r4 : Addr) (r5 : Addr) (p0 : Int64) (p1 : Int64) (p2 : Int64) (p3 : Int64) (p4 : Int64) (p5 : Int64) (p6 : Int64) (p7 : Int64) (p8 : Int64) (p9 : Int64) (p10 : Int64) (p11 : Int64) (p12 : Int64) (p13 : Int64) (p14 : Int64) (p15 : Int64) (k_r1 : ClassId) (k_r4 : ClassId) (k_r5 : ClassId) (h0 : Heap) (n0 : Nat) (v : Option Value) (h : Heap) (L : List Loc) : Prop := (v = none ∧ Fr n0 L ∧ Keep h0 h [r0, r1, r4, r5] ∧ Exa Z h r0 cN0 ∧ Fld Z h r0 cN0 "elements" "[Ljava/lang/Object;" (.ref r1) ∧ Fld Z h r0 cN0 "ends" "[J" (.ref r4) ∧ Fld Z h r0 cN0 "orders" "[J" (.ref r5) ∧ Fld Z h r0 cN0 "placed" "Ljava/util/function/ObjIntConsumer;" (.null) ∧ Fld Z h r0 cN0 "size" "I" (.int (2 : Int32)) ∧ Arv Z h r1 k_r1 (.object "java/lang/Object") (8 : Int32) [.ref r2, .ref r3, .ref r3, .null, .null, .null, .null, .null] (.null) ∧ Arv Z h r4 k_r4 .long (8 : Int32) [.long p0, .long p1, .long p2, .long p3, .long p4, .long p5, .long p6, .long p7] (.long (0 : Int64)) ∧ Arv Z h r5 k_r5 .long (8 : Int32) [.long p8, .long p9, .long p10, .long p11, .long p12, .long p13, .long p14, .long p15] (.long (0 : Int64)))
set_option maxRecDepth 65536 in
set_option maxHeartbeats 40000000 in
theorem rm14s32 (l : Launch) (Z : State) (a0 : Array Value) (hw : ∀ d ∈ tables_1, d.before a0 Z = true) (ws : List Jvm.Cond) (r0 : Addr) (r1 : Addr) (r2 : Addr) (r3 : Addr) (r4 : Addr) (r5 : Addr) (p0 : Int64) (p1 : Int64) (p2 : Int64) (p3 : Int64) (p4 : Int64) (p5 : Int64) (p6 : Int64) (p7 : Int64) (p8 : Int64) (p9 : Int64) (p10 : Int64) (p11 : Int64) (p12 : Int64) (p13 : Int64) (p14 : Int64) (p15 : Int64) (k_r1 : ClassId) (k_r4 : ClassId) (k_r5 : ClassId) (h0 : Heap) (n0 : Nat) (Z0 : n0 ≤ h0.size) (E_r0 : Exa Z h0 r0 cN0) (F_elements_r0 : Fld Z h0 r0 cN0 "elements" "[Ljava/lang/Object;" (.ref r1)) (F_ends_r0 : Fld Z h0 r0 cN0 "ends" "[J" (.ref r4)) (F_orders_r0 : Fld Z h0 r0 cN0 "orders" "[J" (.ref r5)) (F_placed_r0 : Fld Z h0 r0 cN0 "placed" "Ljava/util/function/ObjIntConsumer;" (.null)) (F_size_r0 : Fld Z h0 r0 cN0 "size" "I" (.int (2 : Int32))) (g_r0 : n0 ≤ r0) (E_r2 : Exa Z h0 r2 "[I") (E_r3 : Exa Z h0 r3 "[I") (V_r1 : Arv Z h0 r1 k_r1 (.object "java/lang/Object") (8 : Int32) [.ref r2, .ref r3, .ref r3, .null, .null, .null, .null, .null] (.null)) (O_r1 : Ovr Z k_r1 "java/lang/Object") (g_r1 : n0 ≤ r1) (V_r4 : Arv Z h0 r4 k_r4 .long (8 : Int32) [.long p0, .long p1, .long p2, .long p3, .long p4, .long p5, .long p6, .long p7] (.long (0 : Int64))) (g_r4 : n0 ≤ r4) (V_r5 : Arv Z h0 r5 k_r5 .long (8 : Int32) [.long p8, .long p9, .long p10, .long p11, .long p12, .long p13, .long p14, .long p15] (.long (0 : Int64))) (g_r5 : n0 ≤ r5) (ne_r0_r1 : r0 ≠ r1) (ne_r0_r2 : r0 ≠ r2) (ne_r1_r2 : r1 ≠ r2) (ne_r0_r3 : r0 ≠ r3) (ne_r1_r3 : r1 ≠ r3) (ne_r2_r3 : r2 ≠ r3) (ne_r0_r4 : r0 ≠ r4) (ne_r1_r4 : r1 ≠ r4) (ne_r2_r4 : r2 ≠ r4) (ne_r3_r4 : r3 ≠ r4) (ne_r0_r5 : r0 ≠ r5) (ne_r1_r5 : r1 ≠ r5) (ne_r2_r5 : r2 ≠ r5) (ne_r3_r5 : r3 ≠ r5) (ne_r4_r5 : r4 ≠ r5) :
    Con l (⟨cN0, "siftDown", "(I)V"⟩ : MethodName) prog_31_method_12_code 8 none ws ({ frames := 1, cells := 0, slots := 0, locals := 18 } : Room) #[(.ref r0), (.int (1 : Int32))] Z h0 (Q14s32 Z r0 r1 r2 r3 r4 r5 p0 p1 p2 p3 p4 p5 p6 p7 p8 p9 p10 p11 p12 p13 p14 p15 k_r1 k_r4 k_r5 h0 n0) ({ frames := 1, cells := 0, slots := 0, locals := 18 } : Room).cells ({ frames := 1, cells := 0, slots := 0, locals := 18 } : Room).slots := by
  refine own_body (plainFor_of_name pn_2) ?_
  intro p e s m below meth c s₁ hx hby hlk hml hown hnm hrt hZ X0 e0
  have w : ∀ (k : Nat) (d : Jvm.Cond), tables_1[k]? = some d → d.before a0 Z = true := fun k d h => hw d (List.mem_of_getElem? h)
  have N0 := Fr.nil n0
  have K0 := Keep.refl h0 [r0, r1, r4, r5]
  rw [ef_14s32]
  generalize hOWE : Owe s _ _ _ = OWE
  refine o_aloadN X0 hx (hb hby d14_0) (pc' := 1) rfl rfl rfl ?_
  refine o_iloadN X0 hx (hb hby d14_1) (pc' := 2) rfl rfl ?_
  refine o_callP X0 hx hZ 0 (argsL := [.int (1 : Int32)]) (rest := []) (a := r0) hown (w 41 _ rfl) (w 3 _ rfl) (w 43 _ rfl) (w 42 _ rfl) (w 4 _ rfl) (w 44 _ rfl) (by decide) (rm7s11 l Z a0 hw [] _ _ _ _ _ _ _ _ _ _ _ h0 n0 Z0 E_r0 F_elements_r0 E_r3 V_r1 O_r1 ne_r0_r1 ne_r0_r3 ne_r1_r3) E_r0 (by decide) (by decide) (cells' := 0) rfl (slots' := 0) rfl (by decide) (by decide) e0 (by rw [hml]; rfl) (lenOf pd_7 rfl) rfl rfl (hb hby d14_2) (pc' := 5) rfl ?_
  intro T1 v1 L1 X1 hQ1
  obtain ⟨rfl, Nq1, e1⟩ := hQ1
  have N1 := Fr.app N0 Nq1
  show Go p e below _ (T1.setTop (mkF m 5 _ [.ref r3]))
  refine o_astoreN X1 hx (hb hby d14_5) (pc' := 6) rfl (L' := #[.val (.ref r0), .val (.int (1 : Int32)), .val (.ref r3), .unset, .unset, .unset, .unset, .unset]) rfl rfl ?_
  refine o_aloadN X1 hx (hb hby d14_6) (pc' := 7) rfl rfl rfl ?_
  refine o_getF X1 hx hZ hown (w 19 _ rfl) e1 F_ends_r0 (hb hby d14_7) (pc' := 10) rfl ?_
  intro T2 X2 e2
  refine o_iloadN X2 hx (hb hby d14_10) (pc' := 11) rfl rfl ?_
  refine o_laload X2 hx hZ (.long p1) e2 V_r4 (by decide) (by rfl) (hb hby d14_11) (pc' := 12) rfl ?_
  refine o_lstoreN X2 hx (hb hby d14_12) (pc' := 13) rfl (L' := #[.val (.ref r0), .val (.int (1 : Int32)), .val (.ref r3), .val (.long p1), .second, .unset, .unset, .unset]) rfl ?_
  refine o_aloadN X2 hx (hb hby d14_13) (pc' := 14) rfl rfl rfl ?_
  refine o_getF X2 hx hZ hown (w 21 _ rfl) e2 F_orders_r0 (hb hby d14_14) (pc' := 17) rfl ?_
  intro T3 X3 e3
  refine o_iloadN X3 hx (hb hby d14_17) (pc' := 18) rfl rfl ?_
  refine o_laload X3 hx hZ (.long p9) e3 V_r5 (by decide) (by rfl) (hb hby d14_18) (pc' := 19) rfl ?_
  refine o_lstore X3 hx (hb hby d14_19) (pc' := 21) rfl (L' := #[.val (.ref r0), .val (.int (1 : Int32)), .val (.ref r3), .val (.long p1), .second, .val (.long p9), .second, .unset]) rfl ?_
  refine o_iconst X3 hx (2 : Int32) (hb hby d14_21) (pc' := 22) rfl (by decide) ?_
  refine o_iloadN X3 hx (hb hby d14_22) (pc' := 23) rfl rfl ?_
  refine o_imul X3 hx (hb hby d14_23) (pc' := 24) rfl ?_
  rw [show ((2 : Int32) * (1 : Int32)) = (2 : Int32) from by decide]
  refine o_iconst X3 hx (1 : Int32) (hb hby d14_24) (pc' := 25) rfl (by decide) ?_
  refine o_iadd X3 hx (hb hby d14_25) (pc' := 26) rfl ?_
  rw [show ((2 : Int32) + (1 : Int32)) = (3 : Int32) from by decide]
  refine o_istore X3 hx (hb hby d14_26) (pc' := 28) rfl (L' := #[.val (.ref r0), .val (.int (1 : Int32)), .val (.ref r3), .val (.long p1), .second, .val (.long p9), .second, .val (.int (3 : Int32))]) rfl ?_
  refine o_iload X3 hx (hb hby d14_28) (pc' := 30) rfl rfl ?_
  refine o_aloadN X3 hx (hb hby d14_30) (pc' := 31) rfl rfl rfl ?_
  refine o_getF X3 hx hZ hown (w 30 _ rfl) e3 F_size_r0 (hb hby d14_31) (pc' := 34) rfl ?_
  intro T4 X4 e4
  refine o_cmpN X4 hx (hb hby d14_34) (flt (by decide : ¬ ((3 : Int32) < (2 : Int32)))).1 (pc' := 37) rfl ?_
  refine o_goto X4 hx (hb hby d14_37) (by decide) (pc' := 149) (by decide) ?_
  refine o_aloadN X4 hx (hb hby d14_149) (pc' := 150) rfl rfl rfl ?_
  refine o_iloadN X4 hx (hb hby d14_150) (pc' := 151) rfl rfl ?_
  refine o_aloadN X4 hx (hb hby d14_151) (pc' := 152) rfl rfl rfl ?_
  refine o_lloadN X4 hx (hb hby d14_152) (pc' := 153) rfl rfl ?_
  refine o_lload X4 hx (hb hby d14_153) (pc' := 155) rfl rfl ?_
  refine o_callP X4 hx hZ 0 (argsL := [.int (1 : Int32), .ref r3, .long p1, .long p9]) (rest := []) (a := r0) hown (w 32 _ rfl) (w 3 _ rfl) (w 34 _ rfl) (w 33 _ rfl) (w 4 _ rfl) (w 35 _ rfl) (by decide) (rm5s9 l Z a0 hw [] _ _ _ _ _ _ _ _ _ _ _ _ _ _ _ _ _ _ _ _ _ _ _ _ _ _ _ _ _ _ p1 p9 _ _ _ h0 n0 Z0 E_r0 F_elements_r0 F_ends_r0 F_orders_r0 F_placed_r0 F_size_r0 g_r0 E_r3 V_r1 O_r1 g_r1 V_r4 g_r4 V_r5 g_r5 ne_r0_r1 ne_r0_r4 ne_r1_r4 ne_r0_r5 ne_r1_r5 ne_r4_r5 ne_r0_r3 ne_r1_r3 (Ne.symm ne_r3_r4) (Ne.symm ne_r3_r5)) E_r0 (by decide) (by decide) (cells' := 0) rfl (slots' := 0) rfl (by decide) (by decide) e4 (by rw [hml]; rfl) (lenOf pd_6 rfl) rfl rfl (hb hby d14_155) (pc' := 158) rfl ?_
  intro T5 v5 L5 X5 hQ5
  obtain ⟨rfl, Nq5, Kq5, P5_0, P5_1, P5_2, P5_3, P5_4, P5_5, P5_6, P5_7, P5_8⟩ := hQ5
  have N5 := Fr.app N1 Nq5
  have E6_r2 := Exa.keep E_r2 Kq5
  have E6_r3 := Exa.keep E_r3 Kq5
  have Z5 : n0 ≤ T5.heap.size := Nat.le_trans Z0 Kq5.1
  have K5 := Keep.trans K0 Kq5 (allS (Or.inl (List.mem_of_getElem? (i := 0) rfl)) (allS (Or.inl (List.mem_of_getElem? (i := 1) rfl)) (allS (Or.inl (List.mem_of_getElem? (i := 2) rfl)) (allS (Or.inl (List.mem_of_getElem? (i := 3) rfl)) all0))))
  show Go p e below _ (T5.setTop (mkF m 158 _ []))
  rw [← hOWE]
  exact o_retV X5 hx hlk hrt (hb hby d14_158) (by decide) (by decide) ⟨rfl, N5, K5, P5_0, P5_1, P5_2, P5_3, P5_4, P5_5, P5_6, P5_7, P5_8⟩
theorem ef_13s30 (m : MethodId) (x0 : Addr) (x1 : Int32) : entryFrame m #[(.ref x0), (.int x1)] 3 = mkF m 0 #[.val (.ref x0), .val (.int x1), .unset] [] := by first | (simp [entryFrame, mkF, argsToLocals, Value.category]; done) | rfl
def Q13s30 (Z : State) (r0 : Addr) (r1 : Addr) (r2 : Addr) (r3 : Addr) (r4 : Addr) (r5 : Addr) (r6 : Addr) (p0 : Int64) (p1 : Int64) (p2 : Int64) (p3 : Int64) (p4 : Int64) (p5 : Int64) (p6 : Int64) (p7 : Int64) (p8 : Int64) (p9 : Int64) (p10 : Int64) (p11 : Int64) (p12 : Int64) (p13 : Int64) (p14 : Int64) (p15 : Int64) (k_r1 : ClassId) (k_r5 : ClassId) (k_r6 : ClassId) (h0 : Heap) (n0 : Nat) (v : Option Value) (h : Heap) (L : List Loc) : Prop := (((o5 p2 p10 p0 p8) = (0 : Int32) ∧ (v = none ∧ Fr n0 L ∧ Keep h0 h [r0, r1, r5, r6] ∧ Exa Z h r0 cN0 ∧ Fld Z h r0 cN0 "elements" "[Ljava/lang/Object;" (.ref r1) ∧ Fld Z h r0 cN0 "ends" "[J" (.ref r5) ∧ Fld Z h r0 cN0 "orders" "[J" (.ref r6) ∧ Fld Z h r0 cN0 "placed" "Ljava/util/function/ObjIntConsumer;" (.null) ∧ Fld Z h r0 cN0 "size" "I" (.int (2 : Int32)) ∧ Arv Z h r1 k_r1 (.object "java/lang/Object") (8 : Int32) [.ref r2, .ref r4, .null, .null, .null, .null, .null, .null] (.null) ∧ Arv Z h r5 k_r5 .long (8 : Int32) [.long p0, .long p2, .long p2, .long p3, .long p4, .long p5, .long p6, .long p7] (.long (0 : Int64)) ∧ Arv Z h r6 k_r6 .long (8 : Int32) [.long p8, .long p10, .long p10, .long p11, .long p12, .long p13, .long p14, .long p15] (.long (0 : Int64)))) ∨ (¬ ((o5 p2 p10 p0 p8) = (0 : Int32)) ∧ (((o5 p0 p8 p2 p10) = (0 : Int32) ∧ (v = none ∧ Fr n0 L ∧ Keep h0 h [r0, r1, r5, r6] ∧ Exa Z h r0 cN0 ∧ Fld Z h r0 cN0 "elements" "[Ljava/lang/Object;" (.ref r1) ∧ Fld Z h r0 cN0 "ends" "[J" (.ref r5) ∧ Fld Z h r0 cN0 "orders" "[J" (.ref r6) ∧ Fld Z h r0 cN0 "placed" "Ljava/util/function/ObjIntConsumer;" (.null) ∧ Fld Z h r0 cN0 "size" "I" (.int (2 : Int32)) ∧ Arv Z h r1 k_r1 (.object "java/lang/Object") (8 : Int32) [.ref r4, .ref r2, .null, .null, .null, .null, .null, .null] (.null) ∧ Arv Z h r5 k_r5 .long (8 : Int32) [.long p2, .long p0, .long p2, .long p3, .long p4, .long p5, .long p6, .long p7] (.long (0 : Int64)) ∧ Arv Z h r6 k_r6 .long (8 : Int32) [.long p10, .long p8, .long p10, .long p11, .long p12, .long p13, .long p14, .long p15] (.long (0 : Int64)))) ∨ (¬ ((o5 p0 p8 p2 p10) = (0 : Int32)) ∧ (v = none ∧ Fr n0 L ∧ Keep h0 h [r0, r1, r5, r6] ∧ Exa Z h r0 cN0 ∧ Fld Z h r0 cN0 "elements" "[Ljava/lang/Object;" (.ref r1) ∧ Fld Z h r0 cN0 "ends" "[J" (.ref r5) ∧ Fld Z h r0 cN0 "orders" "[J" (.ref r6) ∧ Fld Z h r0 cN0 "placed" "Ljava/util/function/ObjIntConsumer;" (.null) ∧ Fld Z h r0 cN0 "size" "I" (.int (2 : Int32)) ∧ Arv Z h r1 k_r1 (.object "java/lang/Object") (8 : Int32) [.ref r2, .ref r4, .null, .null, .null, .null, .null, .null] (.null) ∧ Arv Z h r5 k_r5 .long (8 : Int32) [.long p0, .long p2, .long p2, .long p3, .long p4, .long p5, .long p6, .long p7] (.long (0 : Int64)) ∧ Arv Z h r6 k_r6 .long (8 : Int32) [.long p8, .long p10, .long p10, .long p11, .long p12, .long p13, .long p14, .long p15] (.long (0 : Int64)))))))
set_option maxRecDepth 65536 in
set_option maxHeartbeats 40000000 in
theorem rm13s30 (l : Launch) (Z : State) (a0 : Array Value) (hw : ∀ d ∈ tables_1, d.before a0 Z = true) (ws : List Jvm.Cond) (r0 : Addr) (r1 : Addr) (r2 : Addr) (r3 : Addr) (r4 : Addr) (r5 : Addr) (r6 : Addr) (p0 : Int64) (p1 : Int64) (p2 : Int64) (p3 : Int64) (p4 : Int64) (p5 : Int64) (p6 : Int64) (p7 : Int64) (p8 : Int64) (p9 : Int64) (p10 : Int64) (p11 : Int64) (p12 : Int64) (p13 : Int64) (p14 : Int64) (p15 : Int64) (k_r1 : ClassId) (k_r5 : ClassId) (k_r6 : ClassId) (h0 : Heap) (n0 : Nat) (Z0 : n0 ≤ h0.size) (E_r0 : Exa Z h0 r0 cN0) (F_elements_r0 : Fld Z h0 r0 cN0 "elements" "[Ljava/lang/Object;" (.ref r1)) (F_ends_r0 : Fld Z h0 r0 cN0 "ends" "[J" (.ref r5)) (F_orders_r0 : Fld Z h0 r0 cN0 "orders" "[J" (.ref r6)) (F_placed_r0 : Fld Z h0 r0 cN0 "placed" "Ljava/util/function/ObjIntConsumer;" (.null)) (F_size_r0 : Fld Z h0 r0 cN0 "size" "I" (.int (3 : Int32))) (g_r0 : n0 ≤ r0) (E_r2 : Exa Z h0 r2 "[I") (E_r3 : Exa Z h0 r3 "[I") (E_r4 : Exa Z h0 r4 "[I") (V_r1 : Arv Z h0 r1 k_r1 (.object "java/lang/Object") (8 : Int32) [.ref r2, .ref r3, .ref r4, .null, .null, .null, .null, .null] (.null)) (O_r1 : Ovr Z k_r1 "java/lang/Object") (g_r1 : n0 ≤ r1) (V_r5 : Arv Z h0 r5 k_r5 .long (8 : Int32) [.long p0, .long p1, .long p2, .long p3, .long p4, .long p5, .long p6, .long p7] (.long (0 : Int64))) (g_r5 : n0 ≤ r5) (V_r6 : Arv Z h0 r6 k_r6 .long (8 : Int32) [.long p8, .long p9, .long p10, .long p11, .long p12, .long p13, .long p14, .long p15] (.long (0 : Int64))) (g_r6 : n0 ≤ r6) (ne_r0_r1 : r0 ≠ r1) (ne_r0_r2 : r0 ≠ r2) (ne_r1_r2 : r1 ≠ r2) (ne_r0_r3 : r0 ≠ r3) (ne_r1_r3 : r1 ≠ r3) (ne_r2_r3 : r2 ≠ r3) (ne_r0_r4 : r0 ≠ r4) (ne_r1_r4 : r1 ≠ r4) (ne_r2_r4 : r2 ≠ r4) (ne_r3_r4 : r3 ≠ r4) (ne_r0_r5 : r0 ≠ r5) (ne_r1_r5 : r1 ≠ r5) (ne_r2_r5 : r2 ≠ r5) (ne_r3_r5 : r3 ≠ r5) (ne_r4_r5 : r4 ≠ r5) (ne_r0_r6 : r0 ≠ r6) (ne_r1_r6 : r1 ≠ r6) (ne_r2_r6 : r2 ≠ r6) (ne_r3_r6 : r3 ≠ r6) (ne_r4_r6 : r4 ≠ r6) (ne_r5_r6 : r5 ≠ r6) :
    Con l (⟨cN0, "removeAt", "(I)V"⟩ : MethodName) prog_31_method_9_code 3 none ws ({ frames := 2, cells := 0, slots := 0, locals := 39 } : Room) #[(.ref r0), (.int (1 : Int32))] Z h0 (Q13s30 Z r0 r1 r2 r3 r4 r5 r6 p0 p1 p2 p3 p4 p5 p6 p7 p8 p9 p10 p11 p12 p13 p14 p15 k_r1 k_r5 k_r6 h0 n0) ({ frames := 2, cells := 0, slots := 0, locals := 39 } : Room).cells ({ frames := 2, cells := 0, slots := 0, locals := 39 } : Room).slots := by
  refine own_body (plainFor_of_name pn_2) ?_
  intro p e s m below meth c s₁ hx hby hlk hml hown hnm hrt hZ X0 e0
  have w : ∀ (k : Nat) (d : Jvm.Cond), tables_1[k]? = some d → d.before a0 Z = true := fun k d h => hw d (List.mem_of_getElem? h)
  have N0 := Fr.nil n0
  have K0 := Keep.refl h0 [r0, r1, r5, r6]
  rw [ef_13s30]
  generalize hOWE : Owe s _ _ _ = OWE
  refine o_aloadN X0 hx (hb hby d13_0) (pc' := 1) rfl rfl rfl ?_
  refine o_iloadN X0 hx (hb hby d13_1) (pc' := 2) rfl rfl ?_
  refine o_callP X0 hx hZ 0 (argsL := [.int (1 : Int32)]) (rest := []) (a := r0) hown (w 41 _ rfl) (w 3 _ rfl) (w 43 _ rfl) (w 42 _ rfl) (w 4 _ rfl) (w 44 _ rfl) (by decide) (rm7s11 l Z a0 hw [] _ _ _ _ _ _ _ _ _ _ _ h0 n0 Z0 E_r0 F_elements_r0 E_r3 V_r1 O_r1 ne_r0_r1 ne_r0_r3 ne_r1_r3) E_r0 (by decide) (by decide) (cells' := 0) rfl (slots' := 0) rfl (by decide) (by decide) e0 (by rw [hml]; rfl) (lenOf pd_7 rfl) rfl rfl (hb hby d13_2) (pc' := 5) rfl ?_
  intro T1 v1 L1 X1 hQ1
  obtain ⟨rfl, Nq1, e1⟩ := hQ1
  have N1 := Fr.app N0 Nq1
  show Go p e below _ (T1.setTop (mkF m 5 _ [.ref r3]))
  refine o_astoreN X1 hx (hb hby d13_5) (pc' := 6) rfl (L' := #[.val (.ref r0), .val (.int (1 : Int32)), .val (.ref r3)]) rfl rfl ?_
  refine o_aloadN X1 hx (hb hby d13_6) (pc' := 7) rfl rfl rfl ?_
  refine o_dup X1 hx (hb hby d13_7) (pc' := 8) rfl rfl ?_
  refine o_getF X1 hx hZ hown (w 30 _ rfl) e1 F_size_r0 (hb hby d13_8) (pc' := 11) rfl ?_
  intro T2 X2 e2
  refine o_iconst X2 hx (1 : Int32) (hb hby d13_11) (pc' := 12) rfl (by decide) ?_
  refine o_isub X2 hx (hb hby d13_12) (pc' := 13) rfl ?_
  rw [show ((3 : Int32) - (1 : Int32)) = (2 : Int32) from by decide]
  refine o_putF X2 hx hZ hown (w 30 _ rfl) e2 F_size_r0 E_r0 (Or.inl (w 31 _ rfl)) (w 3 _ rfl) (ty := .int) (by decide) rfl rfl (hb hby d13_13) (pc' := 16) rfl ?_
  intro T3 h3 X3 e3 W3
  have Fw3 := Fld.same W3 F_size_r0
  have E4_r0 := Exa.wr W3 E_r0
  have F4_r0_elements := Fld.other W3 F_elements_r0 (Or.inr (slot_ne (C := cN0) (a0 := a0) (Or.inl (w 17 _ rfl)) (Or.inl (w 31 _ rfl)) (by decide) (t := (.array (.object "java/lang/Object"))) (t' := .int) (by decide) (by decide)))
  have F4_r0_ends := Fld.other W3 F_ends_r0 (Or.inr (slot_ne (C := cN0) (a0 := a0) (Or.inl (w 20 _ rfl)) (Or.inl (w 31 _ rfl)) (by decide) (t := (.array .long)) (t' := .int) (by decide) (by decide)))
  have F4_r0_orders := Fld.other W3 F_orders_r0 (Or.inr (slot_ne (C := cN0) (a0 := a0) (Or.inl (w 22 _ rfl)) (Or.inl (w 31 _ rfl)) (by decide) (t := (.array .long)) (t' := .int) (by decide) (by decide)))
  have F4_r0_placed := Fld.other W3 F_placed_r0 (Or.inr (slot_ne (C := cN0) (a0 := a0) (Or.inr (w 24 _ rfl)) (Or.inl (w 31 _ rfl)) (by decide) (t := (.object "java/util/function/ObjIntConsumer")) (t' := .int) (by decide) (by decide)))
  have E4_r2 := Exa.wr W3 E_r2
  have E4_r3 := Exa.wr W3 E_r3
  have E4_r4 := Exa.wr W3 E_r4
  have V4_r1 := Arv.other V_r1 W3 (Ne.symm ne_r0_r1)
  have V4_r5 := Arv.other V_r5 W3 (Ne.symm ne_r0_r5)
  have V4_r6 := Arv.other V_r6 W3 (Ne.symm ne_r0_r6)
  have N3 := Fr.snoc X3 N1 g_r0
  have Z3 : n0 ≤ h3.size := by rw [W3.size]; exact Z0
  have K3 := Keep.wr K0 W3 (Or.inl (List.mem_of_getElem? (i := 0) rfl))
  refine o_iloadN X3 hx (hb hby d13_16) (pc' := 17) rfl rfl ?_
  refine o_aloadN X3 hx (hb hby d13_17) (pc' := 18) rfl rfl rfl ?_
  refine o_getF X3 hx hZ hown (w 30 _ rfl) e3 Fw3 (hb hby d13_18) (pc' := 21) rfl ?_
  intro T5 X5 e5
  refine o_cmpN X5 hx (hb hby d13_21) (tlt (by decide : (1 : Int32) < (2 : Int32))).2.1 (pc' := 24) rfl ?_
  refine o_aloadN X5 hx (hb hby d13_24) (pc' := 25) rfl rfl rfl ?_
  refine o_iloadN X5 hx (hb hby d13_25) (pc' := 26) rfl rfl ?_
  refine o_aloadN X5 hx (hb hby d13_26) (pc' := 27) rfl rfl rfl ?_
  refine o_aloadN X5 hx (hb hby d13_27) (pc' := 28) rfl rfl rfl ?_
  refine o_getF X5 hx hZ hown (w 30 _ rfl) e5 Fw3 (hb hby d13_28) (pc' := 31) rfl ?_
  intro T6 X6 e6
  refine o_callP X6 hx hZ 2 (argsL := [.int (2 : Int32)]) (rest := [.int (1 : Int32), .ref r0]) (a := r0) hown (w 41 _ rfl) (w 3 _ rfl) (w 43 _ rfl) (w 42 _ rfl) (w 4 _ rfl) (w 44 _ rfl) (by decide) (rm7s22 l Z a0 hw [] _ _ _ _ _ _ _ _ _ _ _ h3 n0 Z3 E4_r0 F4_r0_elements E4_r4 V4_r1 O_r1 ne_r0_r1 ne_r0_r4 ne_r1_r4) E4_r0 (by decide) (by decide) (cells' := 0) rfl (slots' := 0) rfl (by decide) (by decide) e6 (by rw [hml]; rfl) (lenOf pd_7 rfl) rfl rfl (hb hby d13_31) (pc' := 34) rfl ?_
  intro T7 v7 L7 X7 hQ7
  obtain ⟨rfl, Nq7, e7⟩ := hQ7
  have N7 := Fr.app N3 Nq7
  show Go p e below _ (T7.setTop (mkF m 34 _ [.ref r4, .int (1 : Int32), .ref r0]))
  refine o_aloadN X7 hx (hb hby d13_34) (pc' := 35) rfl rfl rfl ?_
  refine o_getF X7 hx hZ hown (w 19 _ rfl) e7 F4_r0_ends (hb hby d13_35) (pc' := 38) rfl ?_
  intro T8 X8 e8
  refine o_aloadN X8 hx (hb hby d13_38) (pc' := 39) rfl rfl rfl ?_
  refine o_getF X8 hx hZ hown (w 30 _ rfl) e8 Fw3 (hb hby d13_39) (pc' := 42) rfl ?_
  intro T9 X9 e9
  refine o_laload X9 hx hZ (.long p2) e9 V4_r5 (by decide) (by rfl) (hb hby d13_42) (pc' := 43) rfl ?_
  refine o_aloadN X9 hx (hb hby d13_43) (pc' := 44) rfl rfl rfl ?_
  refine o_getF X9 hx hZ hown (w 21 _ rfl) e9 F4_r0_orders (hb hby d13_44) (pc' := 47) rfl ?_
  intro T10 X10 e10
  refine o_aloadN X10 hx (hb hby d13_47) (pc' := 48) rfl rfl rfl ?_
  refine o_getF X10 hx hZ hown (w 30 _ rfl) e10 Fw3 (hb hby d13_48) (pc' := 51) rfl ?_
  intro T11 X11 e11
  refine o_laload X11 hx hZ (.long p10) e11 V4_r6 (by decide) (by rfl) (hb hby d13_51) (pc' := 52) rfl ?_
  refine o_callP X11 hx hZ 0 (argsL := [.int (1 : Int32), .ref r4, .long p2, .long p10]) (rest := []) (a := r0) hown (w 32 _ rfl) (w 3 _ rfl) (w 34 _ rfl) (w 33 _ rfl) (w 4 _ rfl) (w 35 _ rfl) (by decide) (rm5s9 l Z a0 hw [] _ _ _ _ _ _ _ _ _ _ _ _ _ _ _ _ _ _ _ _ _ _ _ _ _ _ _ _ _ _ p2 p10 _ _ _ h3 n0 Z3 E4_r0 F4_r0_elements F4_r0_ends F4_r0_orders F4_r0_placed Fw3 g_r0 E4_r4 V4_r1 O_r1 g_r1 V4_r5 g_r5 V4_r6 g_r6 ne_r0_r1 ne_r0_r5 ne_r1_r5 ne_r0_r6 ne_r1_r6 ne_r5_r6 ne_r0_r4 ne_r1_r4 (Ne.symm ne_r4_r5) (Ne.symm ne_r4_r6)) E4_r0 (by decide) (by decide) (cells' := 0) rfl (slots' := 0) rfl (by decide) (by decide) e11 (by rw [hml]; rfl) (lenOf pd_6 rfl) rfl rfl (hb hby d13_52) (pc' := 55) rfl ?_
  intro T12 v12 L12 X12 hQ12
  obtain ⟨rfl, Nq12, Kq12, P12_0, P12_1, P12_2, P12_3, P12_4, P12_5, P12_6, P12_7, P12_8⟩ := hQ12
  have N12 := Fr.app N7 Nq12
  have E13_r2 := Exa.keep E4_r2 Kq12
  have E13_r3 := Exa.keep E4_r3 Kq12
  have E13_r4 := Exa.keep E4_r4 Kq12
  have Z12 : n0 ≤ T12.heap.size := Nat.le_trans Z3 Kq12.1
  have K12 := Keep.trans K3 Kq12 (allS (Or.inl (List.mem_of_getElem? (i := 0) rfl)) (allS (Or.inl (List.mem_of_getElem? (i := 1) rfl)) (allS (Or.inl (List.mem_of_getElem? (i := 2) rfl)) (allS (Or.inl (List.mem_of_getElem? (i := 3) rfl)) all0))))
  show Go p e below _ (T12.setTop (mkF m 55 _ []))
  refine o_aloadN X12 hx (hb hby d13_55) (pc' := 56) rfl rfl rfl ?_
  refine o_aloadN X12 hx (hb hby d13_56) (pc' := 57) rfl rfl rfl ?_
  refine o_iloadN X12 hx (hb hby d13_57) (pc' := 58) rfl rfl ?_
  refine o_callP X12 hx hZ 1 (argsL := [.int (1 : Int32)]) (rest := [.ref r0]) (a := r0) hown (w 37 _ rfl) (w 3 _ rfl) (w 39 _ rfl) (w 38 _ rfl) (w 4 _ rfl) (w 40 _ rfl) (by decide) (rm6s31 l Z a0 hw [] _ _ _ _ _ _ _ _ _ _ _ _ _ _ _ _ _ _ _ _ _ _ _ _ _ T12.heap n0 Z12 P12_0 P12_1 P12_2 P12_3 P12_4 P12_5 g_r0 E13_r2 E13_r4 P12_6 O_r1 g_r1 P12_7 g_r5 P12_8 g_r6 ne_r0_r1 ne_r0_r2 ne_r1_r2 ne_r0_r4 ne_r1_r4 ne_r2_r4 ne_r0_r5 ne_r1_r5 ne_r2_r5 ne_r4_r5 ne_r0_r6 ne_r1_r6 ne_r2_r6 ne_r4_r6 ne_r5_r6) P12_0 (by decide) (by decide) (cells' := 0) rfl (slots' := 0) rfl (by decide) (by decide) rfl (by rw [hml]; rfl) (lenOf pd_8 rfl) rfl rfl (hb hby d13_58) (pc' := 61) rfl ?_
  intro T14 v14 L14 X14 hQ14
  rcases hQ14 with ⟨hm58_15, hQ14⟩ | ⟨hm58_15, hQ14⟩
  · obtain ⟨rfl, Nq14, Kq14, P14_0, P14_1, P14_2, P14_3, P14_4, P14_5, P14_6, P14_7, P14_8⟩ := hQ14
    have N14 := Fr.app N12 Nq14
    have E16_r2 := Exa.keep E13_r2 Kq14
    have E16_r3 := Exa.keep E13_r3 Kq14
    have E16_r4 := Exa.keep E13_r4 Kq14
    have Z14 : n0 ≤ T14.heap.size := Nat.le_trans Z12 Kq14.1
    have K14 := Keep.trans K12 Kq14 (allS (Or.inl (List.mem_of_getElem? (i := 0) rfl)) (allS (Or.inl (List.mem_of_getElem? (i := 1) rfl)) (allS (Or.inl (List.mem_of_getElem? (i := 2) rfl)) (allS (Or.inl (List.mem_of_getElem? (i := 3) rfl)) all0))))
    show Go p e below _ (T14.setTop (mkF m 61 _ [.int (1 : Int32), .ref r0]))
    refine o_callP X14 hx hZ 0 (argsL := [.int (1 : Int32)]) (rest := []) (a := r0) hown (w 68 _ rfl) (w 3 _ rfl) (w 70 _ rfl) (w 69 _ rfl) (w 4 _ rfl) (w 71 _ rfl) (by decide) (rm14s32 l Z a0 hw [] _ _ _ _ _ _ _ _ _ _ _ _ _ _ _ _ _ _ _ _ _ _ _ _ _ T14.heap n0 Z14 P14_0 P14_1 P14_2 P14_3 P14_4 P14_5 g_r0 E16_r2 E16_r4 P14_6 O_r1 g_r1 P14_7 g_r5 P14_8 g_r6 ne_r0_r1 ne_r0_r2 ne_r1_r2 ne_r0_r4 ne_r1_r4 ne_r2_r4 ne_r0_r5 ne_r1_r5 ne_r2_r5 ne_r4_r5 ne_r0_r6 ne_r1_r6 ne_r2_r6 ne_r4_r6 ne_r5_r6) P14_0 (by decide) (by decide) (cells' := 0) rfl (slots' := 0) rfl (by decide) (by decide) rfl (by rw [hml]; rfl) (lenOf pd_10 rfl) rfl rfl (hb hby d13_61) (pc' := 64) rfl ?_
    intro T17 v17 L17 X17 hQ17
    obtain ⟨rfl, Nq17, Kq17, P17_0, P17_1, P17_2, P17_3, P17_4, P17_5, P17_6, P17_7, P17_8⟩ := hQ17
    have N17 := Fr.app N14 Nq17
    have E18_r2 := Exa.keep E16_r2 Kq17
    have E18_r3 := Exa.keep E16_r3 Kq17
    have E18_r4 := Exa.keep E16_r4 Kq17
    have Z17 : n0 ≤ T17.heap.size := Nat.le_trans Z14 Kq17.1
    have K17 := Keep.trans K14 Kq17 (allS (Or.inl (List.mem_of_getElem? (i := 0) rfl)) (allS (Or.inl (List.mem_of_getElem? (i := 1) rfl)) (allS (Or.inl (List.mem_of_getElem? (i := 2) rfl)) (allS (Or.inl (List.mem_of_getElem? (i := 3) rfl)) all0))))
    show Go p e below _ (T17.setTop (mkF m 64 _ []))
    refine o_aloadN X17 hx (hb hby d13_64) (pc' := 65) rfl rfl rfl ?_
    refine o_getF X17 hx hZ hown (w 16 _ rfl) rfl P17_1 (hb hby d13_65) (pc' := 68) rfl ?_
    intro T19 X19 e19
    refine o_aloadN X19 hx (hb hby d13_68) (pc' := 69) rfl rfl rfl ?_
    refine o_getF X19 hx hZ hown (w 30 _ rfl) e19 P17_5 (hb hby d13_69) (pc' := 72) rfl ?_
    intro T20 X20 e20
    refine o_aconst_null X20 hx (hb hby d13_72) (pc' := 73) rfl ?_
    refine o_aastore X20 hx hZ 2 e20 P17_6 rfl (fun cl A q => Or.inl rfl) (by decide) (by decide) (by exact (by decide : 2 < 8)) rfl (vs' := [.ref r2, .ref r4, .null, .null, .null, .null, .null, .null]) rfl (hb hby d13_73) (pc' := 74) rfl ?_
    intro T21 h21 X21 e21 W21 V21_
    have E22_r0 := Exa.wr W21 P17_0
    have F22_r0_elements := Fld.other W21 P17_1 (Or.inl ne_r0_r1)
    have F22_r0_ends := Fld.other W21 P17_2 (Or.inl ne_r0_r1)
    have F22_r0_orders := Fld.other W21 P17_3 (Or.inl ne_r0_r1)
    have F22_r0_placed := Fld.other W21 P17_4 (Or.inl ne_r0_r1)
    have F22_r0_size := Fld.other W21 P17_5 (Or.inl ne_r0_r1)
    have E22_r2 := Exa.wr W21 E18_r2
    have E22_r3 := Exa.wr W21 E18_r3
    have E22_r4 := Exa.wr W21 E18_r4
    have V22_r5 := Arv.other P17_7 W21 (Ne.symm ne_r1_r5)
    have V22_r6 := Arv.other P17_8 W21 (Ne.symm ne_r1_r6)
    have N21 := Fr.snoc X21 N17 g_r1
    have Z21 : n0 ≤ h21.size := by rw [W21.size]; exact Z17
    have K21 := Keep.wr K17 W21 (Or.inl (List.mem_of_getElem? (i := 1) rfl))
    refine o_aloadN X21 hx (hb hby d13_74) (pc' := 75) rfl rfl rfl ?_
    refine o_getF X21 hx hZ hown (w 23 _ rfl) e21 F22_r0_placed (hb hby d13_75) (pc' := 78) rfl ?_
    intro T23 X23 e23
    refine Go.via (fun t k => XS.ifnullYes X23.here hx rfl (pc0 := 78) (pc' := 92) rfl (hb hby d13_78) rfl (by decide) (by decide) k) ?_
    show Go p e below _ (T23.setTop (mkF m 92 _ []))
    rw [← hOWE]
    exact o_retV X23 hx hlk hrt (hb hby d13_92) (by decide) (by decide) (by rw [e23]; exact (Or.inl ⟨hm58_15, ⟨rfl, N21, K21, E22_r0, F22_r0_elements, F22_r0_ends, F22_r0_orders, F22_r0_placed, F22_r0_size, V21_, V22_r5, V22_r6⟩⟩))
  · obtain ⟨rfl, Nq14, Kq14, P14_0, P14_1, P14_2, P14_3, P14_4, P14_5, P14_6, P14_7, P14_8⟩ := hQ14
    have N14 := Fr.app N12 Nq14
    have E24_r2 := Exa.keep E13_r2 Kq14
    have E24_r3 := Exa.keep E13_r3 Kq14
    have E24_r4 := Exa.keep E13_r4 Kq14
    have Z14 : n0 ≤ T14.heap.size := Nat.le_trans Z12 Kq14.1
    have K14 := Keep.trans K12 Kq14 (allS (Or.inl (List.mem_of_getElem? (i := 0) rfl)) (allS (Or.inl (List.mem_of_getElem? (i := 1) rfl)) (allS (Or.inl (List.mem_of_getElem? (i := 2) rfl)) (allS (Or.inl (List.mem_of_getElem? (i := 3) rfl)) all0))))
    show Go p e below _ (T14.setTop (mkF m 61 _ [.int (0 : Int32), .ref r0]))
    refine o_callP X14 hx hZ 0 (argsL := [.int (0 : Int32)]) (rest := []) (a := r0) hown (w 68 _ rfl) (w 3 _ rfl) (w 70 _ rfl) (w 69 _ rfl) (w 4 _ rfl) (w 71 _ rfl) (by decide) (rm14s29 l Z a0 hw [] _ _ _ _ _ _ _ _ _ _ _ _ _ _ _ _ _ _ _ _ _ _ _ _ _ T14.heap n0 Z14 P14_0 P14_1 P14_2 P14_3 P14_4 P14_5 g_r0 E24_r4 E24_r2 P14_6 O_r1 g_r1 P14_7 g_r5 P14_8 g_r6 ne_r0_r1 ne_r0_r4 ne_r1_r4 ne_r0_r2 ne_r1_r2 (Ne.symm ne_r2_r4) ne_r0_r5 ne_r1_r5 ne_r4_r5 ne_r2_r5 ne_r0_r6 ne_r1_r6 ne_r4_r6 ne_r2_r6 ne_r5_r6) P14_0 (by decide) (by decide) (cells' := 0) rfl (slots' := 0) rfl (by decide) (by decide) rfl (by rw [hml]; rfl) (lenOf pd_10 rfl) rfl rfl (hb hby d13_61) (pc' := 64) rfl ?_
    intro T25 v25 L25 X25 hQ25
    rcases hQ25 with ⟨hm61_26, hQ25⟩ | ⟨hm61_26, hQ25⟩
    · obtain ⟨rfl, Nq25, Kq25, P25_0, P25_1, P25_2, P25_3, P25_4, P25_5, P25_6, P25_7, P25_8⟩ := hQ25
      have N25 := Fr.app N14 Nq25
      have E27_r2 := Exa.keep E24_r2 Kq25
      have E27_r3 := Exa.keep E24_r3 Kq25
      have E27_r4 := Exa.keep E24_r4 Kq25
      have Z25 : n0 ≤ T25.heap.size := Nat.le_trans Z14 Kq25.1
      have K25 := Keep.trans K14 Kq25 (allS (Or.inl (List.mem_of_getElem? (i := 0) rfl)) (allS (Or.inl (List.mem_of_getElem? (i := 1) rfl)) (allS (Or.inl (List.mem_of_getElem? (i := 2) rfl)) (allS (Or.inl (List.mem_of_getElem? (i := 3) rfl)) all0))))
      show Go p e below _ (T25.setTop (mkF m 64 _ []))
      refine o_aloadN X25 hx (hb hby d13_64) (pc' := 65) rfl rfl rfl ?_
      refine o_getF X25 hx hZ hown (w 16 _ rfl) rfl P25_1 (hb hby d13_65) (pc' := 68) rfl ?_
      intro T28 X28 e28
      refine o_aloadN X28 hx (hb hby d13_68) (pc' := 69) rfl rfl rfl ?_
      refine o_getF X28 hx hZ hown (w 30 _ rfl) e28 P25_5 (hb hby d13_69) (pc' := 72) rfl ?_
      intro T29 X29 e29
      refine o_aconst_null X29 hx (hb hby d13_72) (pc' := 73) rfl ?_
      refine o_aastore X29 hx hZ 2 e29 P25_6 rfl (fun cl A q => Or.inl rfl) (by decide) (by decide) (by exact (by decide : 2 < 8)) rfl (vs' := [.ref r4, .ref r2, .null, .null, .null, .null, .null, .null]) rfl (hb hby d13_73) (pc' := 74) rfl ?_
      intro T30 h30 X30 e30 W30 V30_
      have E31_r0 := Exa.wr W30 P25_0
      have F31_r0_elements := Fld.other W30 P25_1 (Or.inl ne_r0_r1)
      have F31_r0_ends := Fld.other W30 P25_2 (Or.inl ne_r0_r1)
      have F31_r0_orders := Fld.other W30 P25_3 (Or.inl ne_r0_r1)
      have F31_r0_placed := Fld.other W30 P25_4 (Or.inl ne_r0_r1)
      have F31_r0_size := Fld.other W30 P25_5 (Or.inl ne_r0_r1)
      have E31_r2 := Exa.wr W30 E27_r2
      have E31_r3 := Exa.wr W30 E27_r3
      have E31_r4 := Exa.wr W30 E27_r4
      have V31_r5 := Arv.other P25_7 W30 (Ne.symm ne_r1_r5)
      have V31_r6 := Arv.other P25_8 W30 (Ne.symm ne_r1_r6)
      have N30 := Fr.snoc X30 N25 g_r1
      have Z30 : n0 ≤ h30.size := by rw [W30.size]; exact Z25
      have K30 := Keep.wr K25 W30 (Or.inl (List.mem_of_getElem? (i := 1) rfl))
      refine o_aloadN X30 hx (hb hby d13_74) (pc' := 75) rfl rfl rfl ?_
      refine o_getF X30 hx hZ hown (w 23 _ rfl) e30 F31_r0_placed (hb hby d13_75) (pc' := 78) rfl ?_
      intro T32 X32 e32
      refine Go.via (fun t k => XS.ifnullYes X32.here hx rfl (pc0 := 78) (pc' := 92) rfl (hb hby d13_78) rfl (by decide) (by decide) k) ?_
      show Go p e below _ (T32.setTop (mkF m 92 _ []))
      rw [← hOWE]
      exact o_retV X32 hx hlk hrt (hb hby d13_92) (by decide) (by decide) (by rw [e32]; exact (Or.inr ⟨hm58_15, (Or.inl ⟨hm61_26, ⟨rfl, N30, K30, E31_r0, F31_r0_elements, F31_r0_ends, F31_r0_orders, F31_r0_placed, F31_r0_size, V30_, V31_r5, V31_r6⟩⟩)⟩))
    · obtain ⟨rfl, Nq25, Kq25, P25_0, P25_1, P25_2, P25_3, P25_4, P25_5, P25_6, P25_7, P25_8⟩ := hQ25
      have N25 := Fr.app N14 Nq25
      have E33_r2 := Exa.keep E24_r2 Kq25
      have E33_r3 := Exa.keep E24_r3 Kq25
      have E33_r4 := Exa.keep E24_r4 Kq25
      have Z25 : n0 ≤ T25.heap.size := Nat.le_trans Z14 Kq25.1
      have K25 := Keep.trans K14 Kq25 (allS (Or.inl (List.mem_of_getElem? (i := 0) rfl)) (allS (Or.inl (List.mem_of_getElem? (i := 1) rfl)) (allS (Or.inl (List.mem_of_getElem? (i := 2) rfl)) (allS (Or.inl (List.mem_of_getElem? (i := 3) rfl)) all0))))
      show Go p e below _ (T25.setTop (mkF m 64 _ []))
      refine o_aloadN X25 hx (hb hby d13_64) (pc' := 65) rfl rfl rfl ?_
      refine o_getF X25 hx hZ hown (w 16 _ rfl) rfl P25_1 (hb hby d13_65) (pc' := 68) rfl ?_
      intro T34 X34 e34
      refine o_aloadN X34 hx (hb hby d13_68) (pc' := 69) rfl rfl rfl ?_
      refine o_getF X34 hx hZ hown (w 30 _ rfl) e34 P25_5 (hb hby d13_69) (pc' := 72) rfl ?_
      intro T35 X35 e35
      refine o_aconst_null X35 hx (hb hby d13_72) (pc' := 73) rfl ?_
      refine o_aastore X35 hx hZ 2 e35 P25_6 rfl (fun cl A q => Or.inl rfl) (by decide) (by decide) (by exact (by decide : 2 < 8)) rfl (vs' := [.ref r2, .ref r4, .null, .null, .null, .null, .null, .null]) rfl (hb hby d13_73) (pc' := 74) rfl ?_
      intro T36 h36 X36 e36 W36 V36_
      have E37_r0 := Exa.wr W36 P25_0
      have F37_r0_elements := Fld.other W36 P25_1 (Or.inl ne_r0_r1)
      have F37_r0_ends := Fld.other W36 P25_2 (Or.inl ne_r0_r1)
      have F37_r0_orders := Fld.other W36 P25_3 (Or.inl ne_r0_r1)
      have F37_r0_placed := Fld.other W36 P25_4 (Or.inl ne_r0_r1)
      have F37_r0_size := Fld.other W36 P25_5 (Or.inl ne_r0_r1)
      have E37_r2 := Exa.wr W36 E33_r2
      have E37_r3 := Exa.wr W36 E33_r3
      have E37_r4 := Exa.wr W36 E33_r4
      have V37_r5 := Arv.other P25_7 W36 (Ne.symm ne_r1_r5)
      have V37_r6 := Arv.other P25_8 W36 (Ne.symm ne_r1_r6)
      have N36 := Fr.snoc X36 N25 g_r1
      have Z36 : n0 ≤ h36.size := by rw [W36.size]; exact Z25
      have K36 := Keep.wr K25 W36 (Or.inl (List.mem_of_getElem? (i := 1) rfl))
      refine o_aloadN X36 hx (hb hby d13_74) (pc' := 75) rfl rfl rfl ?_
      refine o_getF X36 hx hZ hown (w 23 _ rfl) e36 F37_r0_placed (hb hby d13_75) (pc' := 78) rfl ?_
      intro T38 X38 e38
      refine Go.via (fun t k => XS.ifnullYes X38.here hx rfl (pc0 := 78) (pc' := 92) rfl (hb hby d13_78) rfl (by decide) (by decide) k) ?_
      show Go p e below _ (T38.setTop (mkF m 92 _ []))
      rw [← hOWE]
      exact o_retV X38 hx hlk hrt (hb hby d13_92) (by decide) (by decide) (by rw [e38]; exact (Or.inr ⟨hm58_15, (Or.inr ⟨hm61_26, ⟨rfl, N36, K36, E37_r0, F37_r0_elements, F37_r0_ends, F37_r0_orders, F37_r0_placed, F37_r0_size, V36_, V37_r5, V37_r6⟩⟩)⟩))
theorem ef_13s33 (m : MethodId) (x0 : Addr) (x1 : Int32) : entryFrame m #[(.ref x0), (.int x1)] 3 = mkF m 0 #[.val (.ref x0), .val (.int x1), .unset] [] := by first | (simp [entryFrame, mkF, argsToLocals, Value.category]; done) | rfl
def Q13s33 (Z : State) (r0 : Addr) (r1 : Addr) (r2 : Addr) (r3 : Addr) (r4 : Addr) (r5 : Addr) (r6 : Addr) (p0 : Int64) (p1 : Int64) (p2 : Int64) (p3 : Int64) (p4 : Int64) (p5 : Int64) (p6 : Int64) (p7 : Int64) (p8 : Int64) (p9 : Int64) (p10 : Int64) (p11 : Int64) (p12 : Int64) (p13 : Int64) (p14 : Int64) (p15 : Int64) (k_r1 : ClassId) (k_r5 : ClassId) (k_r6 : ClassId) (h0 : Heap) (n0 : Nat) (v : Option Value) (h : Heap) (L : List Loc) : Prop := (v = none ∧ Fr n0 L ∧ Keep h0 h [r0, r1, r5, r6] ∧ Exa Z h r0 cN0 ∧ Fld Z h r0 cN0 "elements" "[Ljava/lang/Object;" (.ref r1) ∧ Fld Z h r0 cN0 "ends" "[J" (.ref r5) ∧ Fld Z h r0 cN0 "orders" "[J" (.ref r6) ∧ Fld Z h r0 cN0 "placed" "Ljava/util/function/ObjIntConsumer;" (.null) ∧ Fld Z h r0 cN0 "size" "I" (.int (2 : Int32)) ∧ Arv Z h r1 k_r1 (.object "java/lang/Object") (8 : Int32) [.ref r2, .ref r3, .null, .null, .null, .null, .null, .null] (.null) ∧ Arv Z h r5 k_r5 .long (8 : Int32) [.long p0, .long p1, .long p2, .long p3, .long p4, .long p5, .long p6, .long p7] (.long (0 : Int64)) ∧ Arv Z h r6 k_r6 .long (8 : Int32) [.long p8, .long p9, .long p10, .long p11, .long p12, .long p13, .long p14, .long p15] (.long (0 : Int64)))
set_option maxRecDepth 65536 in
set_option maxHeartbeats 40000000 in
theorem rm13s33 (l : Launch) (Z : State) (a0 : Array Value) (hw : ∀ d ∈ tables_1, d.before a0 Z = true) (ws : List Jvm.Cond) (r0 : Addr) (r1 : Addr) (r2 : Addr) (r3 : Addr) (r4 : Addr) (r5 : Addr) (r6 : Addr) (p0 : Int64) (p1 : Int64) (p2 : Int64) (p3 : Int64) (p4 : Int64) (p5 : Int64) (p6 : Int64) (p7 : Int64) (p8 : Int64) (p9 : Int64) (p10 : Int64) (p11 : Int64) (p12 : Int64) (p13 : Int64) (p14 : Int64) (p15 : Int64) (k_r1 : ClassId) (k_r5 : ClassId) (k_r6 : ClassId) (h0 : Heap) (n0 : Nat) (Z0 : n0 ≤ h0.size) (E_r0 : Exa Z h0 r0 cN0) (F_elements_r0 : Fld Z h0 r0 cN0 "elements" "[Ljava/lang/Object;" (.ref r1)) (F_ends_r0 : Fld Z h0 r0 cN0 "ends" "[J" (.ref r5)) (F_orders_r0 : Fld Z h0 r0 cN0 "orders" "[J" (.ref r6)) (F_placed_r0 : Fld Z h0 r0 cN0 "placed" "Ljava/util/function/ObjIntConsumer;" (.null)) (F_size_r0 : Fld Z h0 r0 cN0 "size" "I" (.int (3 : Int32))) (g_r0 : n0 ≤ r0) (E_r2 : Exa Z h0 r2 "[I") (E_r3 : Exa Z h0 r3 "[I") (E_r4 : Exa Z h0 r4 "[I") (V_r1 : Arv Z h0 r1 k_r1 (.object "java/lang/Object") (8 : Int32) [.ref r2, .ref r3, .ref r4, .null, .null, .null, .null, .null] (.null)) (O_r1 : Ovr Z k_r1 "java/lang/Object") (g_r1 : n0 ≤ r1) (V_r5 : Arv Z h0 r5 k_r5 .long (8 : Int32) [.long p0, .long p1, .long p2, .long p3, .long p4, .long p5, .long p6, .long p7] (.long (0 : Int64))) (g_r5 : n0 ≤ r5) (V_r6 : Arv Z h0 r6 k_r6 .long (8 : Int32) [.long p8, .long p9, .long p10, .long p11, .long p12, .long p13, .long p14, .long p15] (.long (0 : Int64))) (g_r6 : n0 ≤ r6) (ne_r0_r1 : r0 ≠ r1) (ne_r0_r2 : r0 ≠ r2) (ne_r1_r2 : r1 ≠ r2) (ne_r0_r3 : r0 ≠ r3) (ne_r1_r3 : r1 ≠ r3) (ne_r2_r3 : r2 ≠ r3) (ne_r0_r4 : r0 ≠ r4) (ne_r1_r4 : r1 ≠ r4) (ne_r2_r4 : r2 ≠ r4) (ne_r3_r4 : r3 ≠ r4) (ne_r0_r5 : r0 ≠ r5) (ne_r1_r5 : r1 ≠ r5) (ne_r2_r5 : r2 ≠ r5) (ne_r3_r5 : r3 ≠ r5) (ne_r4_r5 : r4 ≠ r5) (ne_r0_r6 : r0 ≠ r6) (ne_r1_r6 : r1 ≠ r6) (ne_r2_r6 : r2 ≠ r6) (ne_r3_r6 : r3 ≠ r6) (ne_r4_r6 : r4 ≠ r6) (ne_r5_r6 : r5 ≠ r6) :
    Con l (⟨cN0, "removeAt", "(I)V"⟩ : MethodName) prog_31_method_9_code 3 none ws ({ frames := 1, cells := 0, slots := 0, locals := 13 } : Room) #[(.ref r0), (.int (2 : Int32))] Z h0 (Q13s33 Z r0 r1 r2 r3 r4 r5 r6 p0 p1 p2 p3 p4 p5 p6 p7 p8 p9 p10 p11 p12 p13 p14 p15 k_r1 k_r5 k_r6 h0 n0) ({ frames := 1, cells := 0, slots := 0, locals := 13 } : Room).cells ({ frames := 1, cells := 0, slots := 0, locals := 13 } : Room).slots := by
  refine own_body (plainFor_of_name pn_2) ?_
  intro p e s m below meth c s₁ hx hby hlk hml hown hnm hrt hZ X0 e0
  have w : ∀ (k : Nat) (d : Jvm.Cond), tables_1[k]? = some d → d.before a0 Z = true := fun k d h => hw d (List.mem_of_getElem? h)
  have N0 := Fr.nil n0
  have K0 := Keep.refl h0 [r0, r1, r5, r6]
  rw [ef_13s33]
  generalize hOWE : Owe s _ _ _ = OWE
  refine o_aloadN X0 hx (hb hby d13_0) (pc' := 1) rfl rfl rfl ?_
  refine o_iloadN X0 hx (hb hby d13_1) (pc' := 2) rfl rfl ?_
  refine o_callP X0 hx hZ 0 (argsL := [.int (2 : Int32)]) (rest := []) (a := r0) hown (w 41 _ rfl) (w 3 _ rfl) (w 43 _ rfl) (w 42 _ rfl) (w 4 _ rfl) (w 44 _ rfl) (by decide) (rm7s22 l Z a0 hw [] _ _ _ _ _ _ _ _ _ _ _ h0 n0 Z0 E_r0 F_elements_r0 E_r4 V_r1 O_r1 ne_r0_r1 ne_r0_r4 ne_r1_r4) E_r0 (by decide) (by decide) (cells' := 0) rfl (slots' := 0) rfl (by decide) (by decide) e0 (by rw [hml]; rfl) (lenOf pd_7 rfl) rfl rfl (hb hby d13_2) (pc' := 5) rfl ?_
  intro T1 v1 L1 X1 hQ1
  obtain ⟨rfl, Nq1, e1⟩ := hQ1
  have N1 := Fr.app N0 Nq1
  show Go p e below _ (T1.setTop (mkF m 5 _ [.ref r4]))
  refine o_astoreN X1 hx (hb hby d13_5) (pc' := 6) rfl (L' := #[.val (.ref r0), .val (.int (2 : Int32)), .val (.ref r4)]) rfl rfl ?_
  refine o_aloadN X1 hx (hb hby d13_6) (pc' := 7) rfl rfl rfl ?_
  refine o_dup X1 hx (hb hby d13_7) (pc' := 8) rfl rfl ?_
  refine o_getF X1 hx hZ hown (w 30 _ rfl) e1 F_size_r0 (hb hby d13_8) (pc' := 11) rfl ?_
  intro T2 X2 e2
  refine o_iconst X2 hx (1 : Int32) (hb hby d13_11) (pc' := 12) rfl (by decide) ?_
  refine o_isub X2 hx (hb hby d13_12) (pc' := 13) rfl ?_
  rw [show ((3 : Int32) - (1 : Int32)) = (2 : Int32) from by decide]
  refine o_putF X2 hx hZ hown (w 30 _ rfl) e2 F_size_r0 E_r0 (Or.inl (w 31 _ rfl)) (w 3 _ rfl) (ty := .int) (by decide) rfl rfl (hb hby d13_13) (pc' := 16) rfl ?_
  intro T3 h3 X3 e3 W3
  have Fw3 := Fld.same W3 F_size_r0
  have E4_r0 := Exa.wr W3 E_r0
  have F4_r0_elements := Fld.other W3 F_elements_r0 (Or.inr (slot_ne (C := cN0) (a0 := a0) (Or.inl (w 17 _ rfl)) (Or.inl (w 31 _ rfl)) (by decide) (t := (.array (.object "java/lang/Object"))) (t' := .int) (by decide) (by decide)))
  have F4_r0_ends := Fld.other W3 F_ends_r0 (Or.inr (slot_ne (C := cN0) (a0 := a0) (Or.inl (w 20 _ rfl)) (Or.inl (w 31 _ rfl)) (by decide) (t := (.array .long)) (t' := .int) (by decide) (by decide)))
  have F4_r0_orders := Fld.other W3 F_orders_r0 (Or.inr (slot_ne (C := cN0) (a0 := a0) (Or.inl (w 22 _ rfl)) (Or.inl (w 31 _ rfl)) (by decide) (t := (.array .long)) (t' := .int) (by decide) (by decide)))
  have F4_r0_placed := Fld.other W3 F_placed_r0 (Or.inr (slot_ne (C := cN0) (a0 := a0) (Or.inr (w 24 _ rfl)) (Or.inl (w 31 _ rfl)) (by decide) (t := (.object "java/util/function/ObjIntConsumer")) (t' := .int) (by decide) (by decide)))
  have E4_r2 := Exa.wr W3 E_r2
  have E4_r3 := Exa.wr W3 E_r3
  have E4_r4 := Exa.wr W3 E_r4
  have V4_r1 := Arv.other V_r1 W3 (Ne.symm ne_r0_r1)
  have V4_r5 := Arv.other V_r5 W3 (Ne.symm ne_r0_r5)
  have V4_r6 := Arv.other V_r6 W3 (Ne.symm ne_r0_r6)
  have N3 := Fr.snoc X3 N1 g_r0
  have Z3 : n0 ≤ h3.size := by rw [W3.size]; exact Z0
  have K3 := Keep.wr K0 W3 (Or.inl (List.mem_of_getElem? (i := 0) rfl))
  refine o_iloadN X3 hx (hb hby d13_16) (pc' := 17) rfl rfl ?_
  refine o_aloadN X3 hx (hb hby d13_17) (pc' := 18) rfl rfl rfl ?_
  refine o_getF X3 hx hZ hown (w 30 _ rfl) e3 Fw3 (hb hby d13_18) (pc' := 21) rfl ?_
  intro T5 X5 e5
  refine o_cmpY X5 hx (hb hby d13_21) (flt (by decide : ¬ ((2 : Int32) < (2 : Int32)))).2.1 (by decide) (pc' := 64) (by decide) ?_
  refine o_aloadN X5 hx (hb hby d13_64) (pc' := 65) rfl rfl rfl ?_
  refine o_getF X5 hx hZ hown (w 16 _ rfl) e5 F4_r0_elements (hb hby d13_65) (pc' := 68) rfl ?_
  intro T6 X6 e6
  refine o_aloadN X6 hx (hb hby d13_68) (pc' := 69) rfl rfl rfl ?_
  refine o_getF X6 hx hZ hown (w 30 _ rfl) e6 Fw3 (hb hby d13_69) (pc' := 72) rfl ?_
  intro T7 X7 e7
  refine o_aconst_null X7 hx (hb hby d13_72) (pc' := 73) rfl ?_
  refine o_aastore X7 hx hZ 2 e7 V4_r1 rfl (fun cl A q => Or.inl rfl) (by decide) (by decide) (by exact (by decide : 2 < 8)) rfl (vs' := [.ref r2, .ref r3, .null, .null, .null, .null, .null, .null]) rfl (hb hby d13_73) (pc' := 74) rfl ?_
  intro T8 h8 X8 e8 W8 V8_
  have E9_r0 := Exa.wr W8 E4_r0
  have F9_r0_elements := Fld.other W8 F4_r0_elements (Or.inl ne_r0_r1)
  have F9_r0_ends := Fld.other W8 F4_r0_ends (Or.inl ne_r0_r1)
  have F9_r0_orders := Fld.other W8 F4_r0_orders (Or.inl ne_r0_r1)
  have F9_r0_placed := Fld.other W8 F4_r0_placed (Or.inl ne_r0_r1)
  have F9_r0_size := Fld.other W8 Fw3 (Or.inl ne_r0_r1)
  have E9_r2 := Exa.wr W8 E4_r2
  have E9_r3 := Exa.wr W8 E4_r3
  have E9_r4 := Exa.wr W8 E4_r4
  have V9_r5 := Arv.other V4_r5 W8 (Ne.symm ne_r1_r5)
  have V9_r6 := Arv.other V4_r6 W8 (Ne.symm ne_r1_r6)
  have N8 := Fr.snoc X8 N3 g_r1
  have Z8 : n0 ≤ h8.size := by rw [W8.size]; exact Z3
  have K8 := Keep.wr K3 W8 (Or.inl (List.mem_of_getElem? (i := 1) rfl))
  refine o_aloadN X8 hx (hb hby d13_74) (pc' := 75) rfl rfl rfl ?_
  refine o_getF X8 hx hZ hown (w 23 _ rfl) e8 F9_r0_placed (hb hby d13_75) (pc' := 78) rfl ?_
  intro T10 X10 e10
  refine Go.via (fun t k => XS.ifnullYes X10.here hx rfl (pc0 := 78) (pc' := 92) rfl (hb hby d13_78) rfl (by decide) (by decide) k) ?_
  show Go p e below _ (T10.setTop (mkF m 92 _ []))
  rw [← hOWE]
  exact o_retV X10 hx hlk hrt (hb hby d13_92) (by decide) (by decide) (by rw [e10]; exact ⟨rfl, N8, K8, E9_r0, F9_r0_elements, F9_r0_ends, F9_r0_orders, F9_r0_placed, F9_r0_size, V8_, V9_r5, V9_r6⟩)
theorem ef_0 (m : MethodId) (x0 : Int64) (x1 : Int64) (x2 : Int64) (x3 : Int32) : entryFrame m #[(.long x0), (.long x1), (.long x2), (.int x3)] maxLocals = mkF m 0 #[.val (.long x0), .second, .val (.long x1), .second, .val (.long x2), .second, .val (.int x3), .unset, .unset, .unset, .unset, .unset, .unset, .unset, .unset, .unset, .unset, .unset, .unset, .unset, .unset, .unset, .unset, .unset, .unset, .unset, .unset, .unset] [] := by first | (simp [entryFrame, mkF, argsToLocals, Value.category, maxLocals]; done) | rfl
def o4 (q0 : Int64) (q1 : Int64) (q2 : Int64) (q3 : Int32) : Int32 := (((uI q3 (2 : Int32)) &&& (3 : Int32)) % (3 : Int32))
def o2 (q0 : Int64) (q1 : Int64) (q2 : Int64) (q3 : Int32) : Int32 := (if ((uI q3 (4 : Int32)) &&& (1 : Int32)) = (0 : Int32) then (0 : Int32) else (1 : Int32))
theorem o74 (q0 : Int64) (q1 : Int64) (q2 : Int64) (q3 : Int32) : (o2 q0 q1 q2 q3) = 0 ∨ (o2 q0 q1 q2 q3) = 1 := by
  unfold o2
  by_cases h0 : ((uI q3 (4 : Int32)) &&& (1 : Int32)) = (0 : Int32)
  · rw [if_pos h0]
    exact Or.inl rfl
  · rw [if_neg h0]
    exact Or.inr rfl
def o0 (q0 : Int64) (q1 : Int64) (q2 : Int64) (q3 : Int32) : Int64 := (if (o2 q0 q1 q2 q3) = (0 : Int32) then (0 : Int64) else (2 : Int64))
def o1 (q0 : Int64) (q1 : Int64) (q2 : Int64) (q3 : Int32) : Int64 := (if (o2 q0 q1 q2 q3) = (0 : Int32) then (2 : Int64) else (0 : Int64))
def o8 (q0 : Int64) (q1 : Int64) (q2 : Int64) (q3 : Int32) : Int32 := (if (q3 &&& (3 : Int32)) = (0 : Int32) then (if (o3 (0 : Int32) (0 : Int32) (0 : Int32) (-1 : Int32) (-1 : Int32) (-1 : Int32) q0 (o0 q0 q1 q2 q3) q1 (1 : Int64) q2 (o1 q0 q1 q2 q3)) = (0 : Int32) then (0 : Int32) else (if (o4 q0 q1 q2 q3) = (0 : Int32) then (1 : Int32) else (if (o4 q0 q1 q2 q3) = (1 : Int32) then (1 : Int32) else (1 : Int32)))) else (if (q3 &&& (3 : Int32)) = (1 : Int32) then (if (o3 (1 : Int32) (0 : Int32) (0 : Int32) (0 : Int32) (-1 : Int32) (-1 : Int32) q0 (o0 q0 q1 q2 q3) q1 (1 : Int64) q2 (o1 q0 q1 q2 q3)) = (0 : Int32) then (0 : Int32) else (if (o4 q0 q1 q2 q3) = (0 : Int32) then (o3 (0 : Int32) (0 : Int32) (0 : Int32) (-1 : Int32) (-1 : Int32) (-1 : Int32) q0 (o0 q0 q1 q2 q3) q1 (1 : Int64) q2 (o1 q0 q1 q2 q3)) else (if (o4 q0 q1 q2 q3) = (1 : Int32) then (1 : Int32) else (1 : Int32)))) else (if (q3 &&& (3 : Int32)) = (2 : Int32) then (if (o5 q1 (1 : Int64) q0 (o0 q0 q1 q2 q3)) = (0 : Int32) then (if (o3 (1 : Int32) (1 : Int32) (0 : Int32) (0 : Int32) (1 : Int32) (-1 : Int32) q0 (o0 q0 q1 q2 q3) q1 (1 : Int64) q2 (o1 q0 q1 q2 q3)) = (0 : Int32) then (0 : Int32) else (if (o4 q0 q1 q2 q3) = (0 : Int32) then (o3 (0 : Int32) (1 : Int32) (0 : Int32) (-1 : Int32) (0 : Int32) (-1 : Int32) q0 (o0 q0 q1 q2 q3) q1 (1 : Int64) q2 (o1 q0 q1 q2 q3)) else (if (o4 q0 q1 q2 q3) = (1 : Int32) then (o3 (1 : Int32) (0 : Int32) (0 : Int32) (0 : Int32) (-1 : Int32) (-1 : Int32) q0 (o0 q0 q1 q2 q3) q1 (1 : Int64) q2 (o1 q0 q1 q2 q3)) else (1 : Int32)))) else (if (o3 (1 : Int32) (1 : Int32) (0 : Int32) (1 : Int32) (0 : Int32) (-1 : Int32) q0 (o0 q0 q1 q2 q3) q1 (1 : Int64) q2 (o1 q0 q1 q2 q3)) = (0 : Int32) then (0 : Int32) else (if (o4 q0 q1 q2 q3) = (0 : Int32) then (o3 (0 : Int32) (1 : Int32) (0 : Int32) (-1 : Int32) (0 : Int32) (-1 : Int32) q0 (o0 q0 q1 q2 q3) q1 (1 : Int64) q2 (o1 q0 q1 q2 q3)) else (if (o4 q0 q1 q2 q3) = (1 : Int32) then (o3 (1 : Int32) (0 : Int32) (0 : Int32) (0 : Int32) (-1 : Int32) (-1 : Int32) q0 (o0 q0 q1 q2 q3) q1 (1 : Int64) q2 (o1 q0 q1 q2 q3)) else (1 : Int32))))) else (if (o5 q1 (1 : Int64) q0 (o0 q0 q1 q2 q3)) = (0 : Int32) then (if (o5 q2 (o1 q0 q1 q2 q3) q0 (o0 q0 q1 q2 q3)) = (0 : Int32) then (if (o3 (1 : Int32) (1 : Int32) (1 : Int32) (0 : Int32) (1 : Int32) (2 : Int32) q0 (o0 q0 q1 q2 q3) q1 (1 : Int64) q2 (o1 q0 q1 q2 q3)) = (0 : Int32) then (0 : Int32) else (if (o4 q0 q1 q2 q3) = (0 : Int32) then (if (o5 q1 (1 : Int64) q2 (o1 q0 q1 q2 q3)) = (0 : Int32) then (o3 (0 : Int32) (1 : Int32) (1 : Int32) (-1 : Int32) (1 : Int32) (0 : Int32) q0 (o0 q0 q1 q2 q3) q1 (1 : Int64) q2 (o1 q0 q1 q2 q3)) else (o3 (0 : Int32) (1 : Int32) (1 : Int32) (-1 : Int32) (0 : Int32) (1 : Int32) q0 (o0 q0 q1 q2 q3) q1 (1 : Int64) q2 (o1 q0 q1 q2 q3))) else (if (o4 q0 q1 q2 q3) = (1 : Int32) then (o3 (1 : Int32) (0 : Int32) (1 : Int32) (0 : Int32) (-1 : Int32) (1 : Int32) q0 (o0 q0 q1 q2 q3) q1 (1 : Int64) q2 (o1 q0 q1 q2 q3)) else (o3 (1 : Int32) (1 : Int32) (0 : Int32) (0 : Int32) (1 : Int32) (-1 : Int32) q0 (o0 q0 q1 q2 q3) q1 (1 : Int64) q2 (o1 q0 q1 q2 q3))))) else (if (o3 (1 : Int32) (1 : Int32) (1 : Int32) (2 : Int32) (1 : Int32) (0 : Int32) q0 (o0 q0 q1 q2 q3) q1 (1 : Int64) q2 (o1 q0 q1 q2 q3)) = (0 : Int32) then (0 : Int32) else (if (o4 q0 q1 q2 q3) = (0 : Int32) then (o3 (0 : Int32) (1 : Int32) (1 : Int32) (-1 : Int32) (1 : Int32) (0 : Int32) q0 (o0 q0 q1 q2 q3) q1 (1 : Int64) q2 (o1 q0 q1 q2 q3)) else (if (o4 q0 q1 q2 q3) = (1 : Int32) then (if (o5 q0 (o0 q0 q1 q2 q3) q2 (o1 q0 q1 q2 q3)) = (0 : Int32) then (o3 (1 : Int32) (0 : Int32) (1 : Int32) (1 : Int32) (-1 : Int32) (0 : Int32) q0 (o0 q0 q1 q2 q3) q1 (1 : Int64) q2 (o1 q0 q1 q2 q3)) else (o3 (1 : Int32) (0 : Int32) (1 : Int32) (1 : Int32) (-1 : Int32) (0 : Int32) q0 (o0 q0 q1 q2 q3) q1 (1 : Int64) q2 (o1 q0 q1 q2 q3))) else (o3 (1 : Int32) (1 : Int32) (0 : Int32) (0 : Int32) (1 : Int32) (-1 : Int32) q0 (o0 q0 q1 q2 q3) q1 (1 : Int64) q2 (o1 q0 q1 q2 q3)))))) else (if (o5 q2 (o1 q0 q1 q2 q3) q1 (1 : Int64)) = (0 : Int32) then (if (o3 (1 : Int32) (1 : Int32) (1 : Int32) (1 : Int32) (0 : Int32) (2 : Int32) q0 (o0 q0 q1 q2 q3) q1 (1 : Int64) q2 (o1 q0 q1 q2 q3)) = (0 : Int32) then (0 : Int32) else (if (o4 q0 q1 q2 q3) = (0 : Int32) then (o3 (0 : Int32) (1 : Int32) (1 : Int32) (-1 : Int32) (0 : Int32) (1 : Int32) q0 (o0 q0 q1 q2 q3) q1 (1 : Int64) q2 (o1 q0 q1 q2 q3)) else (if (o4 q0 q1 q2 q3) = (1 : Int32) then (if (o5 q0 (o0 q0 q1 q2 q3) q2 (o1 q0 q1 q2 q3)) = (0 : Int32) then (o3 (1 : Int32) (0 : Int32) (1 : Int32) (1 : Int32) (-1 : Int32) (0 : Int32) q0 (o0 q0 q1 q2 q3) q1 (1 : Int64) q2 (o1 q0 q1 q2 q3)) else (o3 (1 : Int32) (0 : Int32) (1 : Int32) (0 : Int32) (-1 : Int32) (1 : Int32) q0 (o0 q0 q1 q2 q3) q1 (1 : Int64) q2 (o1 q0 q1 q2 q3))) else (o3 (1 : Int32) (1 : Int32) (0 : Int32) (1 : Int32) (0 : Int32) (-1 : Int32) q0 (o0 q0 q1 q2 q3) q1 (1 : Int64) q2 (o1 q0 q1 q2 q3))))) else (if (o3 (1 : Int32) (1 : Int32) (1 : Int32) (1 : Int32) (2 : Int32) (0 : Int32) q0 (o0 q0 q1 q2 q3) q1 (1 : Int64) q2 (o1 q0 q1 q2 q3)) = (0 : Int32) then (0 : Int32) else (if (o4 q0 q1 q2 q3) = (0 : Int32) then (if (o5 q1 (1 : Int64) q2 (o1 q0 q1 q2 q3)) = (0 : Int32) then (o3 (0 : Int32) (1 : Int32) (1 : Int32) (-1 : Int32) (1 : Int32) (0 : Int32) q0 (o0 q0 q1 q2 q3) q1 (1 : Int64) q2 (o1 q0 q1 q2 q3)) else (o3 (0 : Int32) (1 : Int32) (1 : Int32) (-1 : Int32) (1 : Int32) (0 : Int32) q0 (o0 q0 q1 q2 q3) q1 (1 : Int64) q2 (o1 q0 q1 q2 q3))) else (if (o4 q0 q1 q2 q3) = (1 : Int32) then (o3 (1 : Int32) (0 : Int32) (1 : Int32) (1 : Int32) (-1 : Int32) (0 : Int32) q0 (o0 q0 q1 q2 q3) q1 (1 : Int64) q2 (o1 q0 q1 q2 q3)) else (if (o5 q0 (o0 q0 q1 q2 q3) q1 (1 : Int64)) = (0 : Int32) then (o3 (1 : Int32) (1 : Int32) (0 : Int32) (1 : Int32) (0 : Int32) (-1 : Int32) q0 (o0 q0 q1 q2 q3) q1 (1 : Int64) q2 (o1 q0 q1 q2 q3)) else (o3 (1 : Int32) (1 : Int32) (0 : Int32) (0 : Int32) (1 : Int32) (-1 : Int32) q0 (o0 q0 q1 q2 q3) q1 (1 : Int64) q2 (o1 q0 q1 q2 q3)))))))))))
def o9 (q0 : Int64) (q1 : Int64) (q2 : Int64) (q3 : Int32) : Int32 := (o8 q0 q1 q2 q3)
def o10 (q0 : Int64) (q1 : Int64) (q2 : Int64) (q3 : Int32) : Int32 := (o9 q0 q1 q2 q3)
def o7 (q0 : Int64) (q1 : Int64) (q2 : Int64) (q3 : Int32) : Int32 := (o10 q0 q1 q2 q3)
theorem o63 (q0 q1 q2 : Int64) (q3 : Int32) : (q3 &&& (3 : Int32)) = (0 : Int32) ∨ (q3 &&& (3 : Int32)) = (1 : Int32) ∨ (q3 &&& (3 : Int32)) = (2 : Int32) ∨ (q3 &&& (3 : Int32)) = (3 : Int32) := by
  have h1 := c_and q3 3 (by decide)
  rw [show (3 : Int32).toInt = 3 from rfl] at h1
  simp only [← Int32.toInt_inj, show (0 : Int32).toInt = 0 from rfl, show (1 : Int32).toInt = 1 from rfl, show (2 : Int32).toInt = 2 from rfl, show (3 : Int32).toInt = 3 from rfl]
  omega
theorem o46 (q0 q1 q2 : Int64) (q3 : Int32) : o4 q0 q1 q2 q3 = (0 : Int32) ∨ o4 q0 q1 q2 q3 = (1 : Int32) ∨ o4 q0 q1 q2 q3 = (2 : Int32) := by
  have h1 := c_and (uI q3 2) 3 (by decide)
  have h2 := (c_irem (uI q3 2 &&& 3) 3 3 (by decide)).1 h1.1
  unfold o4
  simp only [← Int32.toInt_inj, show (0 : Int32).toInt = 0 from rfl, show (1 : Int32).toInt = 1 from rfl, show (2 : Int32).toInt = 2 from rfl]
  omega
def Q0 (Z : State) (q0 : Int64) (q1 : Int64) (q2 : Int64) (q3 : Int32) (h0 : Heap) (n0 : Nat) (v : Option Value) (h : Heap) (L : List Loc) : Prop := v = some (.int (o7 q0 q1 q2 q3)) ∧ Fr n0 L
set_option maxRecDepth 65536 in
set_option maxHeartbeats 40000000 in
theorem rm0 (l : Launch) (Z : State) (a0 : Array Value) (hw : ∀ d ∈ tables_1, d.before a0 Z = true) (ws : List Jvm.Cond) (q0 : Int64) (q1 : Int64) (q2 : Int64) (q3 : Int32) (h0 : Heap) (n0 : Nat) (Z0 : n0 ≤ h0.size)  :
    Con l x code maxLocals ret ws room_1 #[(.long q0), (.long q1), (.long q2), (.int q3)] Z h0 (Q0 Z q0 q1 q2 q3 h0 n0) 8 33 := by
  refine own_body (plainFor_of_name pn_12) ?_
  intro p e s m below meth c s₁ hx hby hlk hml hown hnm hrt hZ X0 e0
  have w : ∀ (k : Nat) (d : Jvm.Cond), tables_1[k]? = some d → d.before a0 Z = true := fun k d h => hw d (List.mem_of_getElem? h)
  have N0 := Fr.nil n0
  have hml : c.maxLocals = 28 := hml
  rw [ef_0]
  generalize hOWE : Owe s _ _ _ = OWE
  refine o_iload X0 hx (hb hby at_0) (pc' := 2) rfl rfl ?_
  refine o_iconst X0 hx (3 : Int32) (hb hby at_2) (pc' := 3) rfl (by decide) ?_
  refine o_iand X0 hx (hb hby at_3) (pc' := 4) rfl ?_
  refine o_istore X0 hx (hb hby at_4) (pc' := 6) rfl (L' := #[.val (.long q0), .second, .val (.long q1), .second, .val (.long q2), .second, .val (.int q3), .val (.int (q3 &&& (3 : Int32))), .unset, .unset, .unset, .unset, .unset, .unset, .unset, .unset, .unset, .unset, .unset, .unset, .unset, .unset, .unset, .unset, .unset, .unset, .unset, .unset]) rfl ?_
  refine o_iload X0 hx (hb hby at_6) (pc' := 8) rfl rfl ?_
  refine o_iconst X0 hx (2 : Int32) (hb hby at_8) (pc' := 9) rfl (by decide) ?_
  refine o_iushr X0 hx (hb hby at_9) (pc' := 10) rfl ?_
  refine o_iconst X0 hx (3 : Int32) (hb hby at_10) (pc' := 11) rfl (by decide) ?_
  refine o_iand X0 hx (hb hby at_11) (pc' := 12) rfl ?_
  refine o_iconst X0 hx (3 : Int32) (hb hby at_12) (pc' := 13) rfl (by decide) ?_
  refine o_irem X0 hx (hb hby at_13) (pc' := 14) rfl (by decide) ?_
  refine o_istore (x := (o4 q0 q1 q2 q3)) X0 hx (hb hby at_14) (pc' := 16) rfl (L' := #[.val (.long q0), .second, .val (.long q1), .second, .val (.long q2), .second, .val (.int q3), .val (.int (q3 &&& (3 : Int32))), .val (.int (o4 q0 q1 q2 q3)), .unset, .unset, .unset, .unset, .unset, .unset, .unset, .unset, .unset, .unset, .unset, .unset, .unset, .unset, .unset, .unset, .unset, .unset, .unset]) rfl ?_
  refine o_iload X0 hx (hb hby at_16) (pc' := 18) rfl rfl ?_
  refine o_iconst X0 hx (4 : Int32) (hb hby at_18) (pc' := 19) rfl (by decide) ?_
  refine o_iushr X0 hx (hb hby at_19) (pc' := 20) rfl ?_
  refine o_iconst X0 hx (1 : Int32) (hb hby at_20) (pc' := 21) rfl (by decide) ?_
  refine o_iand X0 hx (hb hby at_21) (pc' := 22) rfl ?_
  have J30_1 : ∀ (z0 : Int32), z0 = (o2 q0 q1 q2 q3) → Go p e below OWE (s₁.setTop (mkF m 30 #[.val (.long q0), .second, .val (.long q1), .second, .val (.long q2), .second, .val (.int q3), .val (.int (q3 &&& (3 : Int32))), .val (.int (o4 q0 q1 q2 q3)), .unset, .unset, .unset, .unset, .unset, .unset, .unset, .unset, .unset, .unset, .unset, .unset, .unset, .unset, .unset, .unset, .unset, .unset, .unset] [.int z0])) := by
    intro z0 yy0
    subst yy0
    refine o_istore X0 hx (hb hby at_30) (pc' := 32) rfl (L' := #[.val (.long q0), .second, .val (.long q1), .second, .val (.long q2), .second, .val (.int q3), .val (.int (q3 &&& (3 : Int32))), .val (.int (o4 q0 q1 q2 q3)), .val (.int (o2 q0 q1 q2 q3)), .unset, .unset, .unset, .unset, .unset, .unset, .unset, .unset, .unset, .unset, .unset, .unset, .unset, .unset, .unset, .unset, .unset, .unset]) rfl ?_
    refine o_iload X0 hx (hb hby at_32) (pc' := 34) rfl rfl ?_
    have J44_2 : ∀ (z0 : Int64), z0 = (o0 q0 q1 q2 q3) → Go p e below OWE (s₁.setTop (mkF m 44 #[.val (.long q0), .second, .val (.long q1), .second, .val (.long q2), .second, .val (.int q3), .val (.int (q3 &&& (3 : Int32))), .val (.int (o4 q0 q1 q2 q3)), .val (.int (o2 q0 q1 q2 q3)), .unset, .unset, .unset, .unset, .unset, .unset, .unset, .unset, .unset, .unset, .unset, .unset, .unset, .unset, .unset, .unset, .unset, .unset] [.long z0])) := by
      intro z0 yy0
      subst yy0
      refine o_lstore X0 hx (hb hby at_44) (pc' := 46) rfl (L' := #[.val (.long q0), .second, .val (.long q1), .second, .val (.long q2), .second, .val (.int q3), .val (.int (q3 &&& (3 : Int32))), .val (.int (o4 q0 q1 q2 q3)), .val (.int (o2 q0 q1 q2 q3)), .val (.long (o0 q0 q1 q2 q3)), .second, .unset, .unset, .unset, .unset, .unset, .unset, .unset, .unset, .unset, .unset, .unset, .unset, .unset, .unset, .unset, .unset]) rfl ?_
      refine o_lconst X0 hx (1 : Int64) (hb hby at_46) (pc' := 47) rfl (by decide) ?_
      refine o_lstore X0 hx (hb hby at_47) (pc' := 49) rfl (L' := #[.val (.long q0), .second, .val (.long q1), .second, .val (.long q2), .second, .val (.int q3), .val (.int (q3 &&& (3 : Int32))), .val (.int (o4 q0 q1 q2 q3)), .val (.int (o2 q0 q1 q2 q3)), .val (.long (o0 q0 q1 q2 q3)), .second, .val (.long (1 : Int64)), .second, .unset, .unset, .unset, .unset, .unset, .unset, .unset, .unset, .unset, .unset, .unset, .unset, .unset, .unset]) rfl ?_
      refine o_iload X0 hx (hb hby at_49) (pc' := 51) rfl rfl ?_
      have J61_3 : ∀ (z0 : Int64), z0 = (o1 q0 q1 q2 q3) → Go p e below OWE (s₁.setTop (mkF m 61 #[.val (.long q0), .second, .val (.long q1), .second, .val (.long q2), .second, .val (.int q3), .val (.int (q3 &&& (3 : Int32))), .val (.int (o4 q0 q1 q2 q3)), .val (.int (o2 q0 q1 q2 q3)), .val (.long (o0 q0 q1 q2 q3)), .second, .val (.long (1 : Int64)), .second, .unset, .unset, .unset, .unset, .unset, .unset, .unset, .unset, .unset, .unset, .unset, .unset, .unset, .unset] [.long z0])) := by
        intro z0 yy0
        subst yy0
        refine o_lstore X0 hx (hb hby at_61) (pc' := 63) rfl (L' := #[.val (.long q0), .second, .val (.long q1), .second, .val (.long q2), .second, .val (.int q3), .val (.int (q3 &&& (3 : Int32))), .val (.int (o4 q0 q1 q2 q3)), .val (.int (o2 q0 q1 q2 q3)), .val (.long (o0 q0 q1 q2 q3)), .second, .val (.long (1 : Int64)), .second, .val (.long (o1 q0 q1 q2 q3)), .second, .unset, .unset, .unset, .unset, .unset, .unset, .unset, .unset, .unset, .unset, .unset, .unset]) rfl ?_
        refine o_iconst X0 hx (1 : Int32) (hb hby at_63) (pc' := 64) rfl (by decide) ?_
        refine o_newPE X0 hx hZ 1 (w 1 _ rfl) e0 (hb hby at_64) (pc' := 66) rfl (by decide) (by decide) (by decide) (cells' := 1) rfl (slots' := 1) rfl (by decide) (by decide) (ad := "[I") (by decide) ?_
        intro T4 h4 b4 k4 qa4 X4 e4 Ex4 A4 Ea4
        have g_b4 : n0 ≤ b4 := by rw [qa4]; exact Z0
        have Z4 : n0 ≤ h4.size := Nat.le_trans Z0 Ex4.1
        have V4_ : Arv Z h4 b4 k4 .int (1 : Int32) [.int (0 : Int32)] (.int (0 : Int32)) := own_fill 1 A4
        refine o_astore X4 hx (hb hby at_66) (pc' := 68) rfl (L' := #[.val (.long q0), .second, .val (.long q1), .second, .val (.long q2), .second, .val (.int q3), .val (.int (q3 &&& (3 : Int32))), .val (.int (o4 q0 q1 q2 q3)), .val (.int (o2 q0 q1 q2 q3)), .val (.long (o0 q0 q1 q2 q3)), .second, .val (.long (1 : Int64)), .second, .val (.long (o1 q0 q1 q2 q3)), .second, .val (.ref b4), .unset, .unset, .unset, .unset, .unset, .unset, .unset, .unset, .unset, .unset, .unset]) rfl rfl ?_
        refine o_iconst X4 hx (1 : Int32) (hb hby at_68) (pc' := 69) rfl (by decide) ?_
        refine o_newPE X4 hx hZ 1 (w 1 _ rfl) e4 (hb hby at_69) (pc' := 71) rfl (by decide) (by decide) (by decide) (cells' := 2) rfl (slots' := 2) rfl (by decide) (by decide) (ad := "[I") (by decide) ?_
        intro T6 h6 b6 k6 qa6 X6 e6 Ex6 A6 Ea6
        have g_b6 : n0 ≤ b6 := by rw [qa6]; exact Z4
        have ne_b4_b6 : b4 ≠ b6 := by rw [qa6]; exact Nat.ne_of_lt Ea4.lt
        have E7_b4 := Exa.ext Ex6 Ea4
        have Z6 : n0 ≤ h6.size := Nat.le_trans Z4 Ex6.1
        have V6_ : Arv Z h6 b6 k6 .int (1 : Int32) [.int (0 : Int32)] (.int (0 : Int32)) := own_fill 1 A6
        refine o_astore X6 hx (hb hby at_71) (pc' := 73) rfl (L' := #[.val (.long q0), .second, .val (.long q1), .second, .val (.long q2), .second, .val (.int q3), .val (.int (q3 &&& (3 : Int32))), .val (.int (o4 q0 q1 q2 q3)), .val (.int (o2 q0 q1 q2 q3)), .val (.long (o0 q0 q1 q2 q3)), .second, .val (.long (1 : Int64)), .second, .val (.long (o1 q0 q1 q2 q3)), .second, .val (.ref b4), .val (.ref b6), .unset, .unset, .unset, .unset, .unset, .unset, .unset, .unset, .unset, .unset]) rfl rfl ?_
        refine o_iconst X6 hx (1 : Int32) (hb hby at_73) (pc' := 74) rfl (by decide) ?_
        refine o_newPE X6 hx hZ 1 (w 1 _ rfl) e6 (hb hby at_74) (pc' := 76) rfl (by decide) (by decide) (by decide) (cells' := 3) rfl (slots' := 3) rfl (by decide) (by decide) (ad := "[I") (by decide) ?_
        intro T8 h8 b8 k8 qa8 X8 e8 Ex8 A8 Ea8
        have g_b8 : n0 ≤ b8 := by rw [qa8]; exact Z6
        have ne_b4_b8 : b4 ≠ b8 := by rw [qa8]; exact Nat.ne_of_lt E7_b4.lt
        have ne_b6_b8 : b6 ≠ b8 := by rw [qa8]; exact Nat.ne_of_lt Ea6.lt
        have E9_b4 := Exa.ext Ex8 E7_b4
        have E9_b6 := Exa.ext Ex8 Ea6
        have Z8 : n0 ≤ h8.size := Nat.le_trans Z6 Ex8.1
        have V8_ : Arv Z h8 b8 k8 .int (1 : Int32) [.int (0 : Int32)] (.int (0 : Int32)) := own_fill 1 A8
        refine o_astore X8 hx (hb hby at_76) (pc' := 78) rfl (L' := #[.val (.long q0), .second, .val (.long q1), .second, .val (.long q2), .second, .val (.int q3), .val (.int (q3 &&& (3 : Int32))), .val (.int (o4 q0 q1 q2 q3)), .val (.int (o2 q0 q1 q2 q3)), .val (.long (o0 q0 q1 q2 q3)), .second, .val (.long (1 : Int64)), .second, .val (.long (o1 q0 q1 q2 q3)), .second, .val (.ref b4), .val (.ref b6), .val (.ref b8), .unset, .unset, .unset, .unset, .unset, .unset, .unset, .unset, .unset]) rfl rfl ?_
        refine o_iconst X8 hx (1 : Int32) (hb hby at_78) (pc' := 79) rfl (by decide) ?_
        refine o_newPE X8 hx hZ 1 (w 1 _ rfl) e8 (hb hby at_79) (pc' := 81) rfl (by decide) (by decide) (by decide) (cells' := 4) rfl (slots' := 4) rfl (by decide) (by decide) (ad := "[I") (by decide) ?_
        intro T10 h10 b10 k10 qa10 X10 e10 Ex10 A10 Ea10
        have g_b10 : n0 ≤ b10 := by rw [qa10]; exact Z8
        have ne_b4_b10 : b4 ≠ b10 := by rw [qa10]; exact Nat.ne_of_lt E9_b4.lt
        have ne_b6_b10 : b6 ≠ b10 := by rw [qa10]; exact Nat.ne_of_lt E9_b6.lt
        have ne_b8_b10 : b8 ≠ b10 := by rw [qa10]; exact Nat.ne_of_lt Ea8.lt
        have E11_b4 := Exa.ext Ex10 E9_b4
        have E11_b6 := Exa.ext Ex10 E9_b6
        have E11_b8 := Exa.ext Ex10 Ea8
        have Z10 : n0 ≤ h10.size := Nat.le_trans Z8 Ex10.1
        have V10_ : Arv Z h10 b10 k10 .int (1 : Int32) [.int (0 : Int32)] (.int (0 : Int32)) := own_fill 1 A10
        refine o_astore X10 hx (hb hby at_81) (pc' := 83) rfl (L' := #[.val (.long q0), .second, .val (.long q1), .second, .val (.long q2), .second, .val (.int q3), .val (.int (q3 &&& (3 : Int32))), .val (.int (o4 q0 q1 q2 q3)), .val (.int (o2 q0 q1 q2 q3)), .val (.long (o0 q0 q1 q2 q3)), .second, .val (.long (1 : Int64)), .second, .val (.long (o1 q0 q1 q2 q3)), .second, .val (.ref b4), .val (.ref b6), .val (.ref b8), .val (.ref b10), .unset, .unset, .unset, .unset, .unset, .unset, .unset, .unset]) rfl rfl ?_
        refine o_new X10 hx hZ hown (w 2 _ rfl) (w 3 _ rfl) (w 4 _ rfl) e10 (hb hby at_83) (pc' := 86) rfl (cells' := 5) rfl (slots' := 9) rfl (by decide) (by decide) ?_
        intro T12 h12 b12 qa12 X12 e12 Ex12 A12 D12
        have g_b12 : n0 ≤ b12 := by rw [qa12]; exact Z10
        have ne_b4_b12 : b4 ≠ b12 := by rw [qa12]; exact Nat.ne_of_lt E11_b4.lt
        have ne_b6_b12 : b6 ≠ b12 := by rw [qa12]; exact Nat.ne_of_lt E11_b6.lt
        have ne_b8_b12 : b8 ≠ b12 := by rw [qa12]; exact Nat.ne_of_lt E11_b8.lt
        have ne_b10_b12 : b10 ≠ b12 := by rw [qa12]; exact Nat.ne_of_lt Ea10.lt
        have E13_b4 := Exa.ext Ex12 E11_b4
        have E13_b6 := Exa.ext Ex12 E11_b6
        have E13_b8 := Exa.ext Ex12 E11_b8
        have E13_b10 := Exa.ext Ex12 Ea10
        have Z12 : n0 ≤ h12.size := Nat.le_trans Z10 Ex12.1
        have D12_elements : Fld Z h12 b12 cN0 "elements" "[Ljava/lang/Object;" (.null) := D12 (Or.inl (w 17 _ rfl)) (ty := (.array (.object "java/lang/Object"))) (by decide)
        have D12_ends : Fld Z h12 b12 cN0 "ends" "[J" (.null) := D12 (Or.inl (w 20 _ rfl)) (ty := (.array .long)) (by decide)
        have D12_orders : Fld Z h12 b12 cN0 "orders" "[J" (.null) := D12 (Or.inl (w 22 _ rfl)) (ty := (.array .long)) (by decide)
        have D12_placed : Fld Z h12 b12 cN0 "placed" "Ljava/util/function/ObjIntConsumer;" (.null) := D12 (Or.inr (w 24 _ rfl)) (ty := (.object "java/util/function/ObjIntConsumer")) (by decide)
        have D12_size : Fld Z h12 b12 cN0 "size" "I" (.int (0 : Int32)) := D12 (Or.inl (w 31 _ rfl)) (ty := .int) (by decide)
        refine o_dup X12 hx (hb hby at_86) (pc' := 87) rfl rfl ?_
        refine o_callI X12 hx hZ 1 (argsL := []) (rest := [.ref b12]) (a := b12) rfl hown (w 5 _ rfl) (w 6 _ rfl) (w 4 _ rfl) (w 7 _ rfl) (by decide) (rm1 l Z a0 hw [] _ _ _ _ _ _ h12 n0 Z12 A12 D12_elements D12_ends D12_orders D12_placed D12_size g_b12) (by decide) (by decide) (cells' := 8) rfl (slots' := 33) rfl (by decide) (by decide) e12 (by rw [hml]; rfl) (lenOf pd_3 rfl) rfl rfl (hb hby at_87) (pc' := 90) rfl ?_
        intro T14 v14 L14 X14 hQ14
        obtain ⟨rfl, Nq14, Kq14, P14_0, P14_1, P14_2, bn14_0, kn14_0, bn14_1, kn14_1, bn14_2, kn14_2, gn14_0, zn14_0, Fn14_0, Vn14_0, On14_0, gn14_1, zn14_1, Fn14_1, Vn14_1, nn14_0_1, gn14_2, zn14_2, Fn14_2, Vn14_2, nn14_0_2, nn14_1_2⟩ := hQ14
        have N14 := Fr.app N0 Nq14
        have E15_b4 := Exa.keep E13_b4 Kq14
        have E15_b6 := Exa.keep E13_b6 Kq14
        have E15_b8 := Exa.keep E13_b8 Kq14
        have E15_b10 := Exa.keep E13_b10 Kq14
        have ne_b4_bn14_0 : b4 ≠ bn14_0 := Nat.ne_of_lt (Nat.lt_of_lt_of_le E13_b4.lt zn14_0)
        have ne_b6_bn14_0 : b6 ≠ bn14_0 := Nat.ne_of_lt (Nat.lt_of_lt_of_le E13_b6.lt zn14_0)
        have ne_b8_bn14_0 : b8 ≠ bn14_0 := Nat.ne_of_lt (Nat.lt_of_lt_of_le E13_b8.lt zn14_0)
        have ne_b10_bn14_0 : b10 ≠ bn14_0 := Nat.ne_of_lt (Nat.lt_of_lt_of_le E13_b10.lt zn14_0)
        have ne_b12_bn14_0 : b12 ≠ bn14_0 := Nat.ne_of_lt (Nat.lt_of_lt_of_le A12.lt zn14_0)
        have ne_b4_bn14_1 : b4 ≠ bn14_1 := Nat.ne_of_lt (Nat.lt_of_lt_of_le E13_b4.lt zn14_1)
        have ne_b6_bn14_1 : b6 ≠ bn14_1 := Nat.ne_of_lt (Nat.lt_of_lt_of_le E13_b6.lt zn14_1)
        have ne_b8_bn14_1 : b8 ≠ bn14_1 := Nat.ne_of_lt (Nat.lt_of_lt_of_le E13_b8.lt zn14_1)
        have ne_b10_bn14_1 : b10 ≠ bn14_1 := Nat.ne_of_lt (Nat.lt_of_lt_of_le E13_b10.lt zn14_1)
        have ne_b12_bn14_1 : b12 ≠ bn14_1 := Nat.ne_of_lt (Nat.lt_of_lt_of_le A12.lt zn14_1)
        have ne_b4_bn14_2 : b4 ≠ bn14_2 := Nat.ne_of_lt (Nat.lt_of_lt_of_le E13_b4.lt zn14_2)
        have ne_b6_bn14_2 : b6 ≠ bn14_2 := Nat.ne_of_lt (Nat.lt_of_lt_of_le E13_b6.lt zn14_2)
        have ne_b8_bn14_2 : b8 ≠ bn14_2 := Nat.ne_of_lt (Nat.lt_of_lt_of_le E13_b8.lt zn14_2)
        have ne_b10_bn14_2 : b10 ≠ bn14_2 := Nat.ne_of_lt (Nat.lt_of_lt_of_le E13_b10.lt zn14_2)
        have ne_b12_bn14_2 : b12 ≠ bn14_2 := Nat.ne_of_lt (Nat.lt_of_lt_of_le A12.lt zn14_2)
        have Z14 : n0 ≤ T14.heap.size := Nat.le_trans Z12 Kq14.1
        show Go p e below _ (T14.setTop (mkF m 90 _ [.ref b12]))
        refine o_astore X14 hx (hb hby at_90) (pc' := 92) rfl (L' := #[.val (.long q0), .second, .val (.long q1), .second, .val (.long q2), .second, .val (.int q3), .val (.int (q3 &&& (3 : Int32))), .val (.int (o4 q0 q1 q2 q3)), .val (.int (o2 q0 q1 q2 q3)), .val (.long (o0 q0 q1 q2 q3)), .second, .val (.long (1 : Int64)), .second, .val (.long (o1 q0 q1 q2 q3)), .second, .val (.ref b4), .val (.ref b6), .val (.ref b8), .val (.ref b10), .val (.ref b12), .unset, .unset, .unset, .unset, .unset, .unset, .unset]) rfl rfl ?_
        by_cases hs16 : (q3 &&& (3 : Int32)) = (0 : Int32)
        · rw [hs16]
          refine o_iload X14 hx (hb hby at_92) (pc' := 94) rfl rfl ?_
          refine o_ifY X14 hx (hb hby at_94) (flt (by decide : ¬ ((0 : Int32) < (0 : Int32)))).2.2.2 (by decide) (pc' := 107) (by decide) ?_
          refine o_iload X14 hx (hb hby at_107) (pc' := 109) rfl rfl ?_
          refine o_iconst X14 hx (1 : Int32) (hb hby at_109) (pc' := 110) rfl (by decide) ?_
          refine o_cmpY X14 hx (hb hby at_110) (flt (by decide : ¬ ((1 : Int32) < (0 : Int32)))).2.2.2 (by decide) (pc' := 123) (by decide) ?_
          refine o_iload X14 hx (hb hby at_123) (pc' := 125) rfl rfl ?_
          refine o_iconst X14 hx (2 : Int32) (hb hby at_125) (pc' := 126) rfl (by decide) ?_
          refine o_cmpY X14 hx (hb hby at_126) (flt (by decide : ¬ ((2 : Int32) < (0 : Int32)))).2.2.2 (by decide) (pc' := 140) (by decide) ?_
          refine o_aload X14 hx (hb hby at_140) (pc' := 142) rfl rfl rfl ?_
          refine o_aload X14 hx (hb hby at_142) (pc' := 144) rfl rfl rfl ?_
          refine o_callV X14 hx hZ 0 (argsL := [.ref b4]) (rest := []) (a := b12) hown (w 48 _ rfl) (w 49 _ rfl) (w 51 _ rfl) (w 50 _ rfl) (w 4 _ rfl) (w 52 _ rfl) (by decide) (rm9s0 l Z a0 hw [] _ _ _ _ T14.heap n0 Z14 P14_0 Fn14_0 P14_2 E15_b4 Vn14_0 On14_0 ne_b12_bn14_0 (Ne.symm ne_b4_b12) (Ne.symm ne_b4_bn14_0)) P14_0 (by decide) (by decide) (cells' := 8) rfl (slots' := 33) rfl (by decide) (by decide) rfl (by rw [hml]; rfl) (lenOf pd_4 rfl) rfl rfl (hb hby at_144) (pc' := 147) rfl ?_
          intro T17 v17 L17 X17 hQ17
          obtain ⟨rfl, Nq17, e17⟩ := hQ17
          have N17 := Fr.app N14 Nq17
          show Go p e below _ (T17.setTop (mkF m 147 _ [.int (-1 : Int32)]))
          refine o_istore X17 hx (hb hby at_147) (pc' := 149) rfl (L' := #[.val (.long q0), .second, .val (.long q1), .second, .val (.long q2), .second, .val (.int q3), .val (.int (0 : Int32)), .val (.int (o4 q0 q1 q2 q3)), .val (.int (o2 q0 q1 q2 q3)), .val (.long (o0 q0 q1 q2 q3)), .second, .val (.long (1 : Int64)), .second, .val (.long (o1 q0 q1 q2 q3)), .second, .val (.ref b4), .val (.ref b6), .val (.ref b8), .val (.ref b10), .val (.ref b12), .val (.int (-1 : Int32)), .unset, .unset, .unset, .unset, .unset, .unset]) rfl ?_
          refine o_aload X17 hx (hb hby at_149) (pc' := 151) rfl rfl rfl ?_
          refine o_aload X17 hx (hb hby at_151) (pc' := 153) rfl rfl rfl ?_
          refine o_callV X17 hx hZ 0 (argsL := [.ref b6]) (rest := []) (a := b12) hown (w 48 _ rfl) (w 49 _ rfl) (w 51 _ rfl) (w 50 _ rfl) (w 4 _ rfl) (w 52 _ rfl) (by decide) (rm9s0 l Z a0 hw [] _ _ _ _ T14.heap n0 Z14 P14_0 Fn14_0 P14_2 E15_b6 Vn14_0 On14_0 ne_b12_bn14_0 (Ne.symm ne_b6_b12) (Ne.symm ne_b6_bn14_0)) P14_0 (by decide) (by decide) (cells' := 8) rfl (slots' := 33) rfl (by decide) (by decide) e17 (by rw [hml]; rfl) (lenOf pd_4 rfl) rfl rfl (hb hby at_153) (pc' := 156) rfl ?_
          intro T18 v18 L18 X18 hQ18
          obtain ⟨rfl, Nq18, e18⟩ := hQ18
          have N18 := Fr.app N17 Nq18
          show Go p e below _ (T18.setTop (mkF m 156 _ [.int (-1 : Int32)]))
          refine o_istore X18 hx (hb hby at_156) (pc' := 158) rfl (L' := #[.val (.long q0), .second, .val (.long q1), .second, .val (.long q2), .second, .val (.int q3), .val (.int (0 : Int32)), .val (.int (o4 q0 q1 q2 q3)), .val (.int (o2 q0 q1 q2 q3)), .val (.long (o0 q0 q1 q2 q3)), .second, .val (.long (1 : Int64)), .second, .val (.long (o1 q0 q1 q2 q3)), .second, .val (.ref b4), .val (.ref b6), .val (.ref b8), .val (.ref b10), .val (.ref b12), .val (.int (-1 : Int32)), .val (.int (-1 : Int32)), .unset, .unset, .unset, .unset, .unset]) rfl ?_
          refine o_aload X18 hx (hb hby at_158) (pc' := 160) rfl rfl rfl ?_
          refine o_aload X18 hx (hb hby at_160) (pc' := 162) rfl rfl rfl ?_
          refine o_callV X18 hx hZ 0 (argsL := [.ref b8]) (rest := []) (a := b12) hown (w 48 _ rfl) (w 49 _ rfl) (w 51 _ rfl) (w 50 _ rfl) (w 4 _ rfl) (w 52 _ rfl) (by decide) (rm9s0 l Z a0 hw [] _ _ _ _ T14.heap n0 Z14 P14_0 Fn14_0 P14_2 E15_b8 Vn14_0 On14_0 ne_b12_bn14_0 (Ne.symm ne_b8_b12) (Ne.symm ne_b8_bn14_0)) P14_0 (by decide) (by decide) (cells' := 8) rfl (slots' := 33) rfl (by decide) (by decide) e18 (by rw [hml]; rfl) (lenOf pd_4 rfl) rfl rfl (hb hby at_162) (pc' := 165) rfl ?_
          intro T19 v19 L19 X19 hQ19
          obtain ⟨rfl, Nq19, e19⟩ := hQ19
          have N19 := Fr.app N18 Nq19
          show Go p e below _ (T19.setTop (mkF m 165 _ [.int (-1 : Int32)]))
          refine o_istore X19 hx (hb hby at_165) (pc' := 167) rfl (L' := #[.val (.long q0), .second, .val (.long q1), .second, .val (.long q2), .second, .val (.int q3), .val (.int (0 : Int32)), .val (.int (o4 q0 q1 q2 q3)), .val (.int (o2 q0 q1 q2 q3)), .val (.long (o0 q0 q1 q2 q3)), .second, .val (.long (1 : Int64)), .second, .val (.long (o1 q0 q1 q2 q3)), .second, .val (.ref b4), .val (.ref b6), .val (.ref b8), .val (.ref b10), .val (.ref b12), .val (.int (-1 : Int32)), .val (.int (-1 : Int32)), .val (.int (-1 : Int32)), .unset, .unset, .unset, .unset]) rfl ?_
          refine o_aload X19 hx (hb hby at_167) (pc' := 169) rfl rfl rfl ?_
          refine o_aload X19 hx (hb hby at_169) (pc' := 171) rfl rfl rfl ?_
          refine o_callV X19 hx hZ 0 (argsL := [.ref b10]) (rest := []) (a := b12) hown (w 48 _ rfl) (w 49 _ rfl) (w 51 _ rfl) (w 50 _ rfl) (w 4 _ rfl) (w 52 _ rfl) (by decide) (rm9s0 l Z a0 hw [] _ _ _ _ T14.heap n0 Z14 P14_0 Fn14_0 P14_2 E15_b10 Vn14_0 On14_0 ne_b12_bn14_0 (Ne.symm ne_b10_b12) (Ne.symm ne_b10_bn14_0)) P14_0 (by decide) (by decide) (cells' := 8) rfl (slots' := 33) rfl (by decide) (by decide) e19 (by rw [hml]; rfl) (lenOf pd_4 rfl) rfl rfl (hb hby at_171) (pc' := 174) rfl ?_
          intro T20 v20 L20 X20 hQ20
          obtain ⟨rfl, Nq20, e20⟩ := hQ20
          have N20 := Fr.app N19 Nq20
          show Go p e below _ (T20.setTop (mkF m 174 _ [.int (-1 : Int32)]))
          refine o_iconst X20 hx (-1 : Int32) (hb hby at_174) (pc' := 175) rfl (by decide) ?_
          refine o_cmpY X20 hx (hb hby at_175) (teq (by decide : (-1 : Int32) = (-1 : Int32))).1 (by decide) (pc' := 180) (by decide) ?_
          refine o_iload X20 hx (hb hby at_180) (pc' := 182) rfl rfl ?_
          refine o_ifY X20 hx (hb hby at_182) (flt (by decide : ¬ ((0 : Int32) < (0 : Int32)))).2.2.2 (by decide) (pc' := 189) (by decide) ?_
          refine o_iconst X20 hx (0 : Int32) (hb hby at_189) (pc' := 190) rfl (by decide) ?_
          refine o_iload X20 hx (hb hby at_190) (pc' := 192) rfl rfl ?_
          refine o_iconst X20 hx (1 : Int32) (hb hby at_192) (pc' := 193) rfl (by decide) ?_
          refine o_cmpY X20 hx (hb hby at_193) (flt (by decide : ¬ ((1 : Int32) < (0 : Int32)))).2.2.2 (by decide) (pc' := 200) (by decide) ?_
          refine o_iconst X20 hx (0 : Int32) (hb hby at_200) (pc' := 201) rfl (by decide) ?_
          refine o_iload X20 hx (hb hby at_201) (pc' := 203) rfl rfl ?_
          refine o_iconst X20 hx (2 : Int32) (hb hby at_203) (pc' := 204) rfl (by decide) ?_
          refine o_cmpY X20 hx (hb hby at_204) (flt (by decide : ¬ ((2 : Int32) < (0 : Int32)))).2.2.2 (by decide) (pc' := 211) (by decide) ?_
          refine o_iconst X20 hx (0 : Int32) (hb hby at_211) (pc' := 212) rfl (by decide) ?_
          refine o_iload X20 hx (hb hby at_212) (pc' := 214) rfl rfl ?_
          refine o_iload X20 hx (hb hby at_214) (pc' := 216) rfl rfl ?_
          refine o_iload X20 hx (hb hby at_216) (pc' := 218) rfl rfl ?_
          refine o_lloadN X20 hx (hb hby at_218) (pc' := 219) rfl rfl ?_
          refine o_lload X20 hx (hb hby at_219) (pc' := 221) rfl rfl ?_
          refine o_lloadN X20 hx (hb hby at_221) (pc' := 222) rfl rfl ?_
          refine o_lload X20 hx (hb hby at_222) (pc' := 224) rfl rfl ?_
          refine o_lload X20 hx (hb hby at_224) (pc' := 226) rfl rfl ?_
          refine o_lload X20 hx (hb hby at_226) (pc' := 228) rfl rfl ?_
          refine o_callS X20 hx hZ 0 (argsL := [.int (0 : Int32), .int (0 : Int32), .int (0 : Int32), .int (-1 : Int32), .int (-1 : Int32), .int (-1 : Int32), .long q0, .long (o0 q0 q1 q2 q3), .long q1, .long (1 : Int64), .long q2, .long (o1 q0 q1 q2 q3)]) (rest := []) hown (w 53 _ rfl) (w 54 _ rfl) (w 55 _ rfl) (w 56 _ rfl) (by decide) (rm10 l Z a0 hw [] (0 : Int32) (0 : Int32) (0 : Int32) (-1 : Int32) (-1 : Int32) (-1 : Int32) q0 (o0 q0 q1 q2 q3) q1 (1 : Int64) q2 (o1 q0 q1 q2 q3) T14.heap n0 Z14 ) (by decide) (by decide) (cells' := 8) rfl (slots' := 33) rfl (by decide) (by decide) e20 (by rw [hml]; rfl) (lenOf pd_5 rfl) rfl rfl (hb hby at_228) (pc' := 231) rfl ?_
          intro T21 v21 L21 X21 hQ21
          obtain ⟨rfl, Nq21, e21⟩ := hQ21
          have N21 := Fr.app N20 Nq21
          show Go p e below _ (T21.setTop (mkF m 231 _ [.int (o3 (0 : Int32) (0 : Int32) (0 : Int32) (-1 : Int32) (-1 : Int32) (-1 : Int32) q0 (o0 q0 q1 q2 q3) q1 (1 : Int64) q2 (o1 q0 q1 q2 q3))]))
          by_cases hc231_22 : (o3 (0 : Int32) (0 : Int32) (0 : Int32) (-1 : Int32) (-1 : Int32) (-1 : Int32) q0 (o0 q0 q1 q2 q3) q1 (1 : Int64) q2 (o1 q0 q1 q2 q3)) = (0 : Int32)
          · refine o_ifN X21 hx (hb hby at_231) (teq hc231_22).2 (pc' := 234) rfl ?_
            refine o_iconst X21 hx (0 : Int32) (hb hby at_234) (pc' := 235) rfl (by decide) ?_
            rw [← hOWE]
            exact o_retZ X21 hx rfl hlk hrt (hb hby at_235) (by decide) (by decide) (by rw [e21]; exact ⟨(by rw [o7, o10, o9, o8, if_pos hs16, if_pos hc231_22]), N21⟩)
          · refine o_ifY X21 hx (hb hby at_231) (feq hc231_22).2 (by decide) (pc' := 236) (by decide) ?_
            by_cases hs23 : (o4 q0 q1 q2 q3) = (0 : Int32)
            · rw [hs23]
              refine o_iload X21 hx (hb hby at_236) (pc' := 238) rfl rfl ?_
              refine o_iload X21 hx (hb hby at_238) (pc' := 240) rfl rfl ?_
              refine o_cmpN X21 hx (hb hby at_240) (flt (by decide : ¬ ((0 : Int32) < (0 : Int32)))).1 (pc' := 243) rfl ?_
              refine o_iconst X21 hx (1 : Int32) (hb hby at_243) (pc' := 244) rfl (by decide) ?_
              rw [← hOWE]
              exact o_retZ X21 hx rfl hlk hrt (hb hby at_244) (by decide) (by decide) (by rw [e21]; exact ⟨(by rw [o7, o10, o9, o8, if_pos hs16, if_neg hc231_22, if_pos hs23]), N21⟩)
            · by_cases hs24 : (o4 q0 q1 q2 q3) = (1 : Int32)
              · rw [hs24]
                refine o_iload X21 hx (hb hby at_236) (pc' := 238) rfl rfl ?_
                refine o_iload X21 hx (hb hby at_238) (pc' := 240) rfl rfl ?_
                refine o_cmpN X21 hx (hb hby at_240) (flt (by decide : ¬ ((1 : Int32) < (0 : Int32)))).1 (pc' := 243) rfl ?_
                refine o_iconst X21 hx (1 : Int32) (hb hby at_243) (pc' := 244) rfl (by decide) ?_
                rw [← hOWE]
                exact o_retZ X21 hx rfl hlk hrt (hb hby at_244) (by decide) (by decide) (by rw [e21]; exact ⟨(by rw [o7, o10, o9, o8, if_pos hs16, if_neg hc231_22, if_neg hs23, if_pos hs24]), N21⟩)
              · have hs25 : (o4 q0 q1 q2 q3) = (2 : Int32) := (((o46 q0 q1 q2 q3)).resolve_left hs23).resolve_left hs24
                rw [hs25]
                refine o_iload X21 hx (hb hby at_236) (pc' := 238) rfl rfl ?_
                refine o_iload X21 hx (hb hby at_238) (pc' := 240) rfl rfl ?_
                refine o_cmpN X21 hx (hb hby at_240) (flt (by decide : ¬ ((2 : Int32) < (0 : Int32)))).1 (pc' := 243) rfl ?_
                refine o_iconst X21 hx (1 : Int32) (hb hby at_243) (pc' := 244) rfl (by decide) ?_
                rw [← hOWE]
                exact o_retZ X21 hx rfl hlk hrt (hb hby at_244) (by decide) (by decide) (by rw [e21]; exact ⟨(by rw [o7, o10, o9, o8, if_pos hs16, if_neg hc231_22, if_neg hs23, if_neg hs24]), N21⟩)
        · by_cases hs26 : (q3 &&& (3 : Int32)) = (1 : Int32)
          · rw [hs26]
            refine o_iload X14 hx (hb hby at_92) (pc' := 94) rfl rfl ?_
            refine o_ifN X14 hx (hb hby at_94) (tlt (by decide : (0 : Int32) < (1 : Int32))).2.2.2 (pc' := 97) rfl ?_
            refine o_aload X14 hx (hb hby at_97) (pc' := 99) rfl rfl rfl ?_
            refine o_aload X14 hx (hb hby at_99) (pc' := 101) rfl rfl rfl ?_
            refine o_lloadN X14 hx (hb hby at_101) (pc' := 102) rfl rfl ?_
            refine o_lload X14 hx (hb hby at_102) (pc' := 104) rfl rfl ?_
            refine o_callV X14 hx hZ 0 (argsL := [.ref b4, .long q0, .long (o0 q0 q1 q2 q3)]) (rest := []) (a := b12) hown (w 25 _ rfl) (w 26 _ rfl) (w 28 _ rfl) (w 27 _ rfl) (w 4 _ rfl) (w 29 _ rfl) (by decide) (rm4s1 l Z a0 hw [] _ _ _ _ _ _ _ _ _ _ _ _ _ _ _ _ _ _ _ _ _ q0 (o0 q0 q1 q2 q3) _ _ _ T14.heap n0 Z14 P14_0 Fn14_0 Fn14_1 Fn14_2 P14_1 P14_2 g_b12 E15_b4 Vn14_0 On14_0 gn14_0 Vn14_1 gn14_1 Vn14_2 gn14_2 ne_b12_bn14_0 ne_b12_bn14_1 nn14_0_1 ne_b12_bn14_2 nn14_0_2 nn14_1_2 (Ne.symm ne_b4_b12) (Ne.symm ne_b4_bn14_0) (Ne.symm ne_b4_bn14_1) (Ne.symm ne_b4_bn14_2)) P14_0 (by decide) (by decide) (cells' := 8) rfl (slots' := 33) rfl (by decide) (by decide) rfl (by rw [hml]; rfl) (lenOf pd_9 rfl) rfl rfl (hb hby at_104) (pc' := 107) rfl ?_
            intro T27 v27 L27 X27 hQ27
            obtain ⟨rfl, Nq27, Kq27, P27_0, P27_1, P27_2, P27_3, P27_4, P27_5, P27_6, P27_7, P27_8⟩ := hQ27
            have N27 := Fr.app N14 Nq27
            have E28_b4 := Exa.keep E15_b4 Kq27
            have E28_b6 := Exa.keep E15_b6 Kq27
            have E28_b8 := Exa.keep E15_b8 Kq27
            have E28_b10 := Exa.keep E15_b10 Kq27
            have Z27 : n0 ≤ T27.heap.size := Nat.le_trans Z14 Kq27.1
            show Go p e below _ (T27.setTop (mkF m 107 _ []))
            refine o_iload X27 hx (hb hby at_107) (pc' := 109) rfl rfl ?_
            refine o_iconst X27 hx (1 : Int32) (hb hby at_109) (pc' := 110) rfl (by decide) ?_
            refine o_cmpY X27 hx (hb hby at_110) (flt (by decide : ¬ ((1 : Int32) < (1 : Int32)))).2.2.2 (by decide) (pc' := 123) (by decide) ?_
            refine o_iload X27 hx (hb hby at_123) (pc' := 125) rfl rfl ?_
            refine o_iconst X27 hx (2 : Int32) (hb hby at_125) (pc' := 126) rfl (by decide) ?_
            refine o_cmpY X27 hx (hb hby at_126) (flt (by decide : ¬ ((2 : Int32) < (1 : Int32)))).2.2.2 (by decide) (pc' := 140) (by decide) ?_
            refine o_aload X27 hx (hb hby at_140) (pc' := 142) rfl rfl rfl ?_
            refine o_aload X27 hx (hb hby at_142) (pc' := 144) rfl rfl rfl ?_
            refine o_callV X27 hx hZ 0 (argsL := [.ref b4]) (rest := []) (a := b12) hown (w 48 _ rfl) (w 49 _ rfl) (w 51 _ rfl) (w 50 _ rfl) (w 4 _ rfl) (w 52 _ rfl) (by decide) (rm9s5 l Z a0 hw [] _ _ _ _ T27.heap n0 Z27 P27_0 P27_1 P27_5 E28_b4 P27_6 On14_0 ne_b12_bn14_0 (Ne.symm ne_b4_b12) (Ne.symm ne_b4_bn14_0)) P27_0 (by decide) (by decide) (cells' := 8) rfl (slots' := 33) rfl (by decide) (by decide) rfl (by rw [hml]; rfl) (lenOf pd_4 rfl) rfl rfl (hb hby at_144) (pc' := 147) rfl ?_
            intro T29 v29 L29 X29 hQ29
            obtain ⟨rfl, Nq29, e29⟩ := hQ29
            have N29 := Fr.app N27 Nq29
            show Go p e below _ (T29.setTop (mkF m 147 _ [.int (0 : Int32)]))
            refine o_istore X29 hx (hb hby at_147) (pc' := 149) rfl (L' := #[.val (.long q0), .second, .val (.long q1), .second, .val (.long q2), .second, .val (.int q3), .val (.int (1 : Int32)), .val (.int (o4 q0 q1 q2 q3)), .val (.int (o2 q0 q1 q2 q3)), .val (.long (o0 q0 q1 q2 q3)), .second, .val (.long (1 : Int64)), .second, .val (.long (o1 q0 q1 q2 q3)), .second, .val (.ref b4), .val (.ref b6), .val (.ref b8), .val (.ref b10), .val (.ref b12), .val (.int (0 : Int32)), .unset, .unset, .unset, .unset, .unset, .unset]) rfl ?_
            refine o_aload X29 hx (hb hby at_149) (pc' := 151) rfl rfl rfl ?_
            refine o_aload X29 hx (hb hby at_151) (pc' := 153) rfl rfl rfl ?_
            refine o_callV X29 hx hZ 0 (argsL := [.ref b6]) (rest := []) (a := b12) hown (w 48 _ rfl) (w 49 _ rfl) (w 51 _ rfl) (w 50 _ rfl) (w 4 _ rfl) (w 52 _ rfl) (by decide) (rm9s6 l Z a0 hw [] _ _ _ _ _ T27.heap n0 Z27 P27_0 P27_1 P27_5 E28_b4 E28_b6 P27_6 On14_0 ne_b12_bn14_0 (Ne.symm ne_b4_b12) (Ne.symm ne_b4_bn14_0) (Ne.symm ne_b6_b12) (Ne.symm ne_b6_bn14_0) ne_b4_b6) P27_0 (by decide) (by decide) (cells' := 8) rfl (slots' := 33) rfl (by decide) (by decide) e29 (by rw [hml]; rfl) (lenOf pd_4 rfl) rfl rfl (hb hby at_153) (pc' := 156) rfl ?_
            intro T30 v30 L30 X30 hQ30
            obtain ⟨rfl, Nq30, e30⟩ := hQ30
            have N30 := Fr.app N29 Nq30
            show Go p e below _ (T30.setTop (mkF m 156 _ [.int (-1 : Int32)]))
            refine o_istore X30 hx (hb hby at_156) (pc' := 158) rfl (L' := #[.val (.long q0), .second, .val (.long q1), .second, .val (.long q2), .second, .val (.int q3), .val (.int (1 : Int32)), .val (.int (o4 q0 q1 q2 q3)), .val (.int (o2 q0 q1 q2 q3)), .val (.long (o0 q0 q1 q2 q3)), .second, .val (.long (1 : Int64)), .second, .val (.long (o1 q0 q1 q2 q3)), .second, .val (.ref b4), .val (.ref b6), .val (.ref b8), .val (.ref b10), .val (.ref b12), .val (.int (0 : Int32)), .val (.int (-1 : Int32)), .unset, .unset, .unset, .unset, .unset]) rfl ?_
            refine o_aload X30 hx (hb hby at_158) (pc' := 160) rfl rfl rfl ?_
            refine o_aload X30 hx (hb hby at_160) (pc' := 162) rfl rfl rfl ?_
            refine o_callV X30 hx hZ 0 (argsL := [.ref b8]) (rest := []) (a := b12) hown (w 48 _ rfl) (w 49 _ rfl) (w 51 _ rfl) (w 50 _ rfl) (w 4 _ rfl) (w 52 _ rfl) (by decide) (rm9s6 l Z a0 hw [] _ _ _ _ _ T27.heap n0 Z27 P27_0 P27_1 P27_5 E28_b4 E28_b8 P27_6 On14_0 ne_b12_bn14_0 (Ne.symm ne_b4_b12) (Ne.symm ne_b4_bn14_0) (Ne.symm ne_b8_b12) (Ne.symm ne_b8_bn14_0) ne_b4_b8) P27_0 (by decide) (by decide) (cells' := 8) rfl (slots' := 33) rfl (by decide) (by decide) e30 (by rw [hml]; rfl) (lenOf pd_4 rfl) rfl rfl (hb hby at_162) (pc' := 165) rfl ?_
            intro T31 v31 L31 X31 hQ31
            obtain ⟨rfl, Nq31, e31⟩ := hQ31
            have N31 := Fr.app N30 Nq31
            show Go p e below _ (T31.setTop (mkF m 165 _ [.int (-1 : Int32)]))
            refine o_istore X31 hx (hb hby at_165) (pc' := 167) rfl (L' := #[.val (.long q0), .second, .val (.long q1), .second, .val (.long q2), .second, .val (.int q3), .val (.int (1 : Int32)), .val (.int (o4 q0 q1 q2 q3)), .val (.int (o2 q0 q1 q2 q3)), .val (.long (o0 q0 q1 q2 q3)), .second, .val (.long (1 : Int64)), .second, .val (.long (o1 q0 q1 q2 q3)), .second, .val (.ref b4), .val (.ref b6), .val (.ref b8), .val (.ref b10), .val (.ref b12), .val (.int (0 : Int32)), .val (.int (-1 : Int32)), .val (.int (-1 : Int32)), .unset, .unset, .unset, .unset]) rfl ?_
            refine o_aload X31 hx (hb hby at_167) (pc' := 169) rfl rfl rfl ?_
            refine o_aload X31 hx (hb hby at_169) (pc' := 171) rfl rfl rfl ?_
            refine o_callV X31 hx hZ 0 (argsL := [.ref b10]) (rest := []) (a := b12) hown (w 48 _ rfl) (w 49 _ rfl) (w 51 _ rfl) (w 50 _ rfl) (w 4 _ rfl) (w 52 _ rfl) (by decide) (rm9s6 l Z a0 hw [] _ _ _ _ _ T27.heap n0 Z27 P27_0 P27_1 P27_5 E28_b4 E28_b10 P27_6 On14_0 ne_b12_bn14_0 (Ne.symm ne_b4_b12) (Ne.symm ne_b4_bn14_0) (Ne.symm ne_b10_b12) (Ne.symm ne_b10_bn14_0) ne_b4_b10) P27_0 (by decide) (by decide) (cells' := 8) rfl (slots' := 33) rfl (by decide) (by decide) e31 (by rw [hml]; rfl) (lenOf pd_4 rfl) rfl rfl (hb hby at_171) (pc' := 174) rfl ?_
            intro T32 v32 L32 X32 hQ32
            obtain ⟨rfl, Nq32, e32⟩ := hQ32
            have N32 := Fr.app N31 Nq32
            show Go p e below _ (T32.setTop (mkF m 174 _ [.int (-1 : Int32)]))
            refine o_iconst X32 hx (-1 : Int32) (hb hby at_174) (pc' := 175) rfl (by decide) ?_
            refine o_cmpY X32 hx (hb hby at_175) (teq (by decide : (-1 : Int32) = (-1 : Int32))).1 (by decide) (pc' := 180) (by decide) ?_
            refine o_iload X32 hx (hb hby at_180) (pc' := 182) rfl rfl ?_
            refine o_ifN X32 hx (hb hby at_182) (tlt (by decide : (0 : Int32) < (1 : Int32))).2.2.2 (pc' := 185) rfl ?_
            refine o_iconst X32 hx (1 : Int32) (hb hby at_185) (pc' := 186) rfl (by decide) ?_
            refine o_goto X32 hx (hb hby at_186) (by decide) (pc' := 190) (by decide) ?_
            refine o_iload X32 hx (hb hby at_190) (pc' := 192) rfl rfl ?_
            refine o_iconst X32 hx (1 : Int32) (hb hby at_192) (pc' := 193) rfl (by decide) ?_
            refine o_cmpY X32 hx (hb hby at_193) (flt (by decide : ¬ ((1 : Int32) < (1 : Int32)))).2.2.2 (by decide) (pc' := 200) (by decide) ?_
            refine o_iconst X32 hx (0 : Int32) (hb hby at_200) (pc' := 201) rfl (by decide) ?_
            refine o_iload X32 hx (hb hby at_201) (pc' := 203) rfl rfl ?_
            refine o_iconst X32 hx (2 : Int32) (hb hby at_203) (pc' := 204) rfl (by decide) ?_
            refine o_cmpY X32 hx (hb hby at_204) (flt (by decide : ¬ ((2 : Int32) < (1 : Int32)))).2.2.2 (by decide) (pc' := 211) (by decide) ?_
            refine o_iconst X32 hx (0 : Int32) (hb hby at_211) (pc' := 212) rfl (by decide) ?_
            refine o_iload X32 hx (hb hby at_212) (pc' := 214) rfl rfl ?_
            refine o_iload X32 hx (hb hby at_214) (pc' := 216) rfl rfl ?_
            refine o_iload X32 hx (hb hby at_216) (pc' := 218) rfl rfl ?_
            refine o_lloadN X32 hx (hb hby at_218) (pc' := 219) rfl rfl ?_
            refine o_lload X32 hx (hb hby at_219) (pc' := 221) rfl rfl ?_
            refine o_lloadN X32 hx (hb hby at_221) (pc' := 222) rfl rfl ?_
            refine o_lload X32 hx (hb hby at_222) (pc' := 224) rfl rfl ?_
            refine o_lload X32 hx (hb hby at_224) (pc' := 226) rfl rfl ?_
            refine o_lload X32 hx (hb hby at_226) (pc' := 228) rfl rfl ?_
            refine o_callS X32 hx hZ 0 (argsL := [.int (1 : Int32), .int (0 : Int32), .int (0 : Int32), .int (0 : Int32), .int (-1 : Int32), .int (-1 : Int32), .long q0, .long (o0 q0 q1 q2 q3), .long q1, .long (1 : Int64), .long q2, .long (o1 q0 q1 q2 q3)]) (rest := []) hown (w 53 _ rfl) (w 54 _ rfl) (w 55 _ rfl) (w 56 _ rfl) (by decide) (rm10 l Z a0 hw [] (1 : Int32) (0 : Int32) (0 : Int32) (0 : Int32) (-1 : Int32) (-1 : Int32) q0 (o0 q0 q1 q2 q3) q1 (1 : Int64) q2 (o1 q0 q1 q2 q3) T27.heap n0 Z27 ) (by decide) (by decide) (cells' := 8) rfl (slots' := 33) rfl (by decide) (by decide) e32 (by rw [hml]; rfl) (lenOf pd_5 rfl) rfl rfl (hb hby at_228) (pc' := 231) rfl ?_
            intro T33 v33 L33 X33 hQ33
            obtain ⟨rfl, Nq33, e33⟩ := hQ33
            have N33 := Fr.app N32 Nq33
            show Go p e below _ (T33.setTop (mkF m 231 _ [.int (o3 (1 : Int32) (0 : Int32) (0 : Int32) (0 : Int32) (-1 : Int32) (-1 : Int32) q0 (o0 q0 q1 q2 q3) q1 (1 : Int64) q2 (o1 q0 q1 q2 q3))]))
            by_cases hc231_34 : (o3 (1 : Int32) (0 : Int32) (0 : Int32) (0 : Int32) (-1 : Int32) (-1 : Int32) q0 (o0 q0 q1 q2 q3) q1 (1 : Int64) q2 (o1 q0 q1 q2 q3)) = (0 : Int32)
            · refine o_ifN X33 hx (hb hby at_231) (teq hc231_34).2 (pc' := 234) rfl ?_
              refine o_iconst X33 hx (0 : Int32) (hb hby at_234) (pc' := 235) rfl (by decide) ?_
              rw [← hOWE]
              exact o_retZ X33 hx rfl hlk hrt (hb hby at_235) (by decide) (by decide) (by rw [e33]; exact ⟨(by rw [o7, o10, o9, o8, if_neg hs16, if_pos hs26, if_pos hc231_34]), N33⟩)
            · refine o_ifY X33 hx (hb hby at_231) (feq hc231_34).2 (by decide) (pc' := 236) (by decide) ?_
              by_cases hs35 : (o4 q0 q1 q2 q3) = (0 : Int32)
              · rw [hs35]
                refine o_iload X33 hx (hb hby at_236) (pc' := 238) rfl rfl ?_
                refine o_iload X33 hx (hb hby at_238) (pc' := 240) rfl rfl ?_
                refine o_cmpY X33 hx (hb hby at_240) (tlt (by decide : (0 : Int32) < (1 : Int32))).1 (by decide) (pc' := 245) (by decide) ?_
                refine o_iload X33 hx (hb hby at_245) (pc' := 247) rfl rfl ?_
                refine o_ifN X33 hx (hb hby at_247) (teq (by decide : (0 : Int32) = (0 : Int32))).2 (pc' := 250) rfl ?_
                refine o_iload X33 hx (hb hby at_250) (pc' := 252) rfl rfl ?_
                refine o_goto X33 hx (hb hby at_252) (by decide) (pc' := 268) (by decide) ?_
                refine o_istore X33 hx (hb hby at_268) (pc' := 270) rfl (L' := #[.val (.long q0), .second, .val (.long q1), .second, .val (.long q2), .second, .val (.int q3), .val (.int (1 : Int32)), .val (.int (0 : Int32)), .val (.int (o2 q0 q1 q2 q3)), .val (.long (o0 q0 q1 q2 q3)), .second, .val (.long (1 : Int64)), .second, .val (.long (o1 q0 q1 q2 q3)), .second, .val (.ref b4), .val (.ref b6), .val (.ref b8), .val (.ref b10), .val (.ref b12), .val (.int (0 : Int32)), .val (.int (-1 : Int32)), .val (.int (-1 : Int32)), .val (.int (0 : Int32)), .unset, .unset, .unset]) rfl ?_
                refine o_aload X33 hx (hb hby at_270) (pc' := 272) rfl rfl rfl ?_
                refine o_iload X33 hx (hb hby at_272) (pc' := 274) rfl rfl ?_
                refine o_callV X33 hx hZ 0 (argsL := [.int (0 : Int32)]) (rest := []) (a := b12) hown (w 63 _ rfl) (w 64 _ rfl) (w 66 _ rfl) (w 65 _ rfl) (w 4 _ rfl) (w 67 _ rfl) (by decide) (rm13s7 l Z a0 hw [] _ _ _ _ _ _ _ _ _ _ _ _ _ _ _ _ _ _ _ _ _ _ _ _ T27.heap n0 Z27 P27_0 P27_1 P27_2 P27_3 P27_4 P27_5 g_b12 E28_b4 P27_6 On14_0 gn14_0 P27_7 gn14_1 P27_8 gn14_2 ne_b12_bn14_0 (Ne.symm ne_b4_b12) (Ne.symm ne_b4_bn14_0) ne_b12_bn14_1 nn14_0_1 ne_b4_bn14_1 ne_b12_bn14_2 nn14_0_2 ne_b4_bn14_2 nn14_1_2) P27_0 (by decide) (by decide) (cells' := 8) rfl (slots' := 33) rfl (by decide) (by decide) e33 (by rw [hml]; rfl) (lenOf pd_10 rfl) rfl rfl (hb hby at_274) (pc' := 277) rfl ?_
                intro T36 v36 L36 X36 hQ36
                obtain ⟨rfl, Nq36, Kq36, P36_0, P36_1, P36_2, P36_3, P36_4, P36_5, P36_6, P36_7, P36_8⟩ := hQ36
                have N36 := Fr.app N33 Nq36
                have E37_b4 := Exa.keep E28_b4 Kq36
                have E37_b6 := Exa.keep E28_b6 Kq36
                have E37_b8 := Exa.keep E28_b8 Kq36
                have E37_b10 := Exa.keep E28_b10 Kq36
                have Z36 : n0 ≤ T36.heap.size := Nat.le_trans Z27 Kq36.1
                show Go p e below _ (T36.setTop (mkF m 277 _ []))
                refine o_aload X36 hx (hb hby at_277) (pc' := 279) rfl rfl rfl ?_
                refine o_aload X36 hx (hb hby at_279) (pc' := 281) rfl rfl rfl ?_
                refine o_callV X36 hx hZ 0 (argsL := [.ref b4]) (rest := []) (a := b12) hown (w 48 _ rfl) (w 49 _ rfl) (w 51 _ rfl) (w 50 _ rfl) (w 4 _ rfl) (w 52 _ rfl) (by decide) (rm9s0 l Z a0 hw [] _ _ _ _ T36.heap n0 Z36 P36_0 P36_1 P36_5 E37_b4 P36_6 On14_0 ne_b12_bn14_0 (Ne.symm ne_b4_b12) (Ne.symm ne_b4_bn14_0)) P36_0 (by decide) (by decide) (cells' := 8) rfl (slots' := 33) rfl (by decide) (by decide) rfl (by rw [hml]; rfl) (lenOf pd_4 rfl) rfl rfl (hb hby at_281) (pc' := 284) rfl ?_
                intro T38 v38 L38 X38 hQ38
                obtain ⟨rfl, Nq38, e38⟩ := hQ38
                have N38 := Fr.app N36 Nq38
                show Go p e below _ (T38.setTop (mkF m 284 _ [.int (-1 : Int32)]))
                refine o_istore X38 hx (hb hby at_284) (pc' := 286) rfl (L' := #[.val (.long q0), .second, .val (.long q1), .second, .val (.long q2), .second, .val (.int q3), .val (.int (1 : Int32)), .val (.int (0 : Int32)), .val (.int (o2 q0 q1 q2 q3)), .val (.long (o0 q0 q1 q2 q3)), .second, .val (.long (1 : Int64)), .second, .val (.long (o1 q0 q1 q2 q3)), .second, .val (.ref b4), .val (.ref b6), .val (.ref b8), .val (.ref b10), .val (.ref b12), .val (.int (0 : Int32)), .val (.int (-1 : Int32)), .val (.int (-1 : Int32)), .val (.int (0 : Int32)), .val (.int (-1 : Int32)), .unset, .unset]) rfl ?_
                refine o_aload X38 hx (hb hby at_286) (pc' := 288) rfl rfl rfl ?_
                refine o_aload X38 hx (hb hby at_288) (pc' := 290) rfl rfl rfl ?_
                refine o_callV X38 hx hZ 0 (argsL := [.ref b6]) (rest := []) (a := b12) hown (w 48 _ rfl) (w 49 _ rfl) (w 51 _ rfl) (w 50 _ rfl) (w 4 _ rfl) (w 52 _ rfl) (by decide) (rm9s0 l Z a0 hw [] _ _ _ _ T36.heap n0 Z36 P36_0 P36_1 P36_5 E37_b6 P36_6 On14_0 ne_b12_bn14_0 (Ne.symm ne_b6_b12) (Ne.symm ne_b6_bn14_0)) P36_0 (by decide) (by decide) (cells' := 8) rfl (slots' := 33) rfl (by decide) (by decide) e38 (by rw [hml]; rfl) (lenOf pd_4 rfl) rfl rfl (hb hby at_290) (pc' := 293) rfl ?_
                intro T39 v39 L39 X39 hQ39
                obtain ⟨rfl, Nq39, e39⟩ := hQ39
                have N39 := Fr.app N38 Nq39
                show Go p e below _ (T39.setTop (mkF m 293 _ [.int (-1 : Int32)]))
                refine o_istore X39 hx (hb hby at_293) (pc' := 295) rfl (L' := #[.val (.long q0), .second, .val (.long q1), .second, .val (.long q2), .second, .val (.int q3), .val (.int (1 : Int32)), .val (.int (0 : Int32)), .val (.int (o2 q0 q1 q2 q3)), .val (.long (o0 q0 q1 q2 q3)), .second, .val (.long (1 : Int64)), .second, .val (.long (o1 q0 q1 q2 q3)), .second, .val (.ref b4), .val (.ref b6), .val (.ref b8), .val (.ref b10), .val (.ref b12), .val (.int (0 : Int32)), .val (.int (-1 : Int32)), .val (.int (-1 : Int32)), .val (.int (0 : Int32)), .val (.int (-1 : Int32)), .val (.int (-1 : Int32)), .unset]) rfl ?_
                refine o_aload X39 hx (hb hby at_295) (pc' := 297) rfl rfl rfl ?_
                refine o_aload X39 hx (hb hby at_297) (pc' := 299) rfl rfl rfl ?_
                refine o_callV X39 hx hZ 0 (argsL := [.ref b8]) (rest := []) (a := b12) hown (w 48 _ rfl) (w 49 _ rfl) (w 51 _ rfl) (w 50 _ rfl) (w 4 _ rfl) (w 52 _ rfl) (by decide) (rm9s0 l Z a0 hw [] _ _ _ _ T36.heap n0 Z36 P36_0 P36_1 P36_5 E37_b8 P36_6 On14_0 ne_b12_bn14_0 (Ne.symm ne_b8_b12) (Ne.symm ne_b8_bn14_0)) P36_0 (by decide) (by decide) (cells' := 8) rfl (slots' := 33) rfl (by decide) (by decide) e39 (by rw [hml]; rfl) (lenOf pd_4 rfl) rfl rfl (hb hby at_299) (pc' := 302) rfl ?_
                intro T40 v40 L40 X40 hQ40
                obtain ⟨rfl, Nq40, e40⟩ := hQ40
                have N40 := Fr.app N39 Nq40
                show Go p e below _ (T40.setTop (mkF m 302 _ [.int (-1 : Int32)]))
                refine o_istore X40 hx (hb hby at_302) (pc' := 304) rfl (L' := #[.val (.long q0), .second, .val (.long q1), .second, .val (.long q2), .second, .val (.int q3), .val (.int (1 : Int32)), .val (.int (0 : Int32)), .val (.int (o2 q0 q1 q2 q3)), .val (.long (o0 q0 q1 q2 q3)), .second, .val (.long (1 : Int64)), .second, .val (.long (o1 q0 q1 q2 q3)), .second, .val (.ref b4), .val (.ref b6), .val (.ref b8), .val (.ref b10), .val (.ref b12), .val (.int (0 : Int32)), .val (.int (-1 : Int32)), .val (.int (-1 : Int32)), .val (.int (0 : Int32)), .val (.int (-1 : Int32)), .val (.int (-1 : Int32)), .val (.int (-1 : Int32))]) rfl ?_
                refine o_aload X40 hx (hb hby at_304) (pc' := 306) rfl rfl rfl ?_
                refine o_aload X40 hx (hb hby at_306) (pc' := 308) rfl rfl rfl ?_
                refine o_callV X40 hx hZ 0 (argsL := [.ref b10]) (rest := []) (a := b12) hown (w 48 _ rfl) (w 49 _ rfl) (w 51 _ rfl) (w 50 _ rfl) (w 4 _ rfl) (w 52 _ rfl) (by decide) (rm9s0 l Z a0 hw [] _ _ _ _ T36.heap n0 Z36 P36_0 P36_1 P36_5 E37_b10 P36_6 On14_0 ne_b12_bn14_0 (Ne.symm ne_b10_b12) (Ne.symm ne_b10_bn14_0)) P36_0 (by decide) (by decide) (cells' := 8) rfl (slots' := 33) rfl (by decide) (by decide) e40 (by rw [hml]; rfl) (lenOf pd_4 rfl) rfl rfl (hb hby at_308) (pc' := 311) rfl ?_
                intro T41 v41 L41 X41 hQ41
                obtain ⟨rfl, Nq41, e41⟩ := hQ41
                have N41 := Fr.app N40 Nq41
                show Go p e below _ (T41.setTop (mkF m 311 _ [.int (-1 : Int32)]))
                refine o_iconst X41 hx (-1 : Int32) (hb hby at_311) (pc' := 312) rfl (by decide) ?_
                refine o_cmpY X41 hx (hb hby at_312) (teq (by decide : (-1 : Int32) = (-1 : Int32))).1 (by decide) (pc' := 317) (by decide) ?_
                refine o_iload X41 hx (hb hby at_317) (pc' := 319) rfl rfl ?_
                refine o_ifN X41 hx (hb hby at_319) (tlt (by decide : (0 : Int32) < (1 : Int32))).2.2.2 (pc' := 322) rfl ?_
                refine o_iload X41 hx (hb hby at_322) (pc' := 324) rfl rfl ?_
                refine o_ifY X41 hx (hb hby at_324) (teq (by decide : (0 : Int32) = (0 : Int32))).1 (by decide) (pc' := 331) (by decide) ?_
                refine o_iconst X41 hx (0 : Int32) (hb hby at_331) (pc' := 332) rfl (by decide) ?_
                refine o_iload X41 hx (hb hby at_332) (pc' := 334) rfl rfl ?_
                refine o_iconst X41 hx (1 : Int32) (hb hby at_334) (pc' := 335) rfl (by decide) ?_
                refine o_cmpY X41 hx (hb hby at_335) (flt (by decide : ¬ ((1 : Int32) < (1 : Int32)))).2.2.2 (by decide) (pc' := 348) (by decide) ?_
                refine o_iconst X41 hx (0 : Int32) (hb hby at_348) (pc' := 349) rfl (by decide) ?_
                refine o_iload X41 hx (hb hby at_349) (pc' := 351) rfl rfl ?_
                refine o_iconst X41 hx (2 : Int32) (hb hby at_351) (pc' := 352) rfl (by decide) ?_
                refine o_cmpY X41 hx (hb hby at_352) (flt (by decide : ¬ ((2 : Int32) < (1 : Int32)))).2.2.2 (by decide) (pc' := 365) (by decide) ?_
                refine o_iconst X41 hx (0 : Int32) (hb hby at_365) (pc' := 366) rfl (by decide) ?_
                refine o_iload X41 hx (hb hby at_366) (pc' := 368) rfl rfl ?_
                refine o_iload X41 hx (hb hby at_368) (pc' := 370) rfl rfl ?_
                refine o_iload X41 hx (hb hby at_370) (pc' := 372) rfl rfl ?_
                refine o_lloadN X41 hx (hb hby at_372) (pc' := 373) rfl rfl ?_
                refine o_lload X41 hx (hb hby at_373) (pc' := 375) rfl rfl ?_
                refine o_lloadN X41 hx (hb hby at_375) (pc' := 376) rfl rfl ?_
                refine o_lload X41 hx (hb hby at_376) (pc' := 378) rfl rfl ?_
                refine o_lload X41 hx (hb hby at_378) (pc' := 380) rfl rfl ?_
                refine o_lload X41 hx (hb hby at_380) (pc' := 382) rfl rfl ?_
                refine o_callS X41 hx hZ 0 (argsL := [.int (0 : Int32), .int (0 : Int32), .int (0 : Int32), .int (-1 : Int32), .int (-1 : Int32), .int (-1 : Int32), .long q0, .long (o0 q0 q1 q2 q3), .long q1, .long (1 : Int64), .long q2, .long (o1 q0 q1 q2 q3)]) (rest := []) hown (w 53 _ rfl) (w 54 _ rfl) (w 55 _ rfl) (w 56 _ rfl) (by decide) (rm10 l Z a0 hw [] (0 : Int32) (0 : Int32) (0 : Int32) (-1 : Int32) (-1 : Int32) (-1 : Int32) q0 (o0 q0 q1 q2 q3) q1 (1 : Int64) q2 (o1 q0 q1 q2 q3) T36.heap n0 Z36 ) (by decide) (by decide) (cells' := 8) rfl (slots' := 33) rfl (by decide) (by decide) e41 (by rw [hml]; rfl) (lenOf pd_5 rfl) rfl rfl (hb hby at_382) (pc' := 385) rfl ?_
                intro T42 v42 L42 X42 hQ42
                obtain ⟨rfl, Nq42, e42⟩ := hQ42
                have N42 := Fr.app N41 Nq42
                show Go p e below _ (T42.setTop (mkF m 385 _ [.int (o3 (0 : Int32) (0 : Int32) (0 : Int32) (-1 : Int32) (-1 : Int32) (-1 : Int32) q0 (o0 q0 q1 q2 q3) q1 (1 : Int64) q2 (o1 q0 q1 q2 q3))]))
                rw [← hOWE]
                exact o_retZ X42 hx (own_narZ (o24 (0 : Int32) (0 : Int32) (0 : Int32) (-1 : Int32) (-1 : Int32) (-1 : Int32) q0 (o0 q0 q1 q2 q3) q1 (1 : Int64) q2 (o1 q0 q1 q2 q3))) hlk hrt (hb hby at_385) (by decide) (by decide) (by rw [e42]; exact ⟨(by rw [o7, o10, o9, o8, if_neg hs16, if_pos hs26, if_neg hc231_34, if_pos hs35]), N42⟩)
              · by_cases hs43 : (o4 q0 q1 q2 q3) = (1 : Int32)
                · rw [hs43]
                  refine o_iload X33 hx (hb hby at_236) (pc' := 238) rfl rfl ?_
                  refine o_iload X33 hx (hb hby at_238) (pc' := 240) rfl rfl ?_
                  refine o_cmpN X33 hx (hb hby at_240) (flt (by decide : ¬ ((1 : Int32) < (1 : Int32)))).1 (pc' := 243) rfl ?_
                  refine o_iconst X33 hx (1 : Int32) (hb hby at_243) (pc' := 244) rfl (by decide) ?_
                  rw [← hOWE]
                  exact o_retZ X33 hx rfl hlk hrt (hb hby at_244) (by decide) (by decide) (by rw [e33]; exact ⟨(by rw [o7, o10, o9, o8, if_neg hs16, if_pos hs26, if_neg hc231_34, if_neg hs35, if_pos hs43]), N33⟩)
                · have hs44 : (o4 q0 q1 q2 q3) = (2 : Int32) := (((o46 q0 q1 q2 q3)).resolve_left hs35).resolve_left hs43
                  rw [hs44]
                  refine o_iload X33 hx (hb hby at_236) (pc' := 238) rfl rfl ?_
                  refine o_iload X33 hx (hb hby at_238) (pc' := 240) rfl rfl ?_
                  refine o_cmpN X33 hx (hb hby at_240) (flt (by decide : ¬ ((2 : Int32) < (1 : Int32)))).1 (pc' := 243) rfl ?_
                  refine o_iconst X33 hx (1 : Int32) (hb hby at_243) (pc' := 244) rfl (by decide) ?_
                  rw [← hOWE]
                  exact o_retZ X33 hx rfl hlk hrt (hb hby at_244) (by decide) (by decide) (by rw [e33]; exact ⟨(by rw [o7, o10, o9, o8, if_neg hs16, if_pos hs26, if_neg hc231_34, if_neg hs35, if_neg hs43]), N33⟩)
          · by_cases hs45 : (q3 &&& (3 : Int32)) = (2 : Int32)
            · rw [hs45]
              refine o_iload X14 hx (hb hby at_92) (pc' := 94) rfl rfl ?_
              refine o_ifN X14 hx (hb hby at_94) (tlt (by decide : (0 : Int32) < (2 : Int32))).2.2.2 (pc' := 97) rfl ?_
              refine o_aload X14 hx (hb hby at_97) (pc' := 99) rfl rfl rfl ?_
              refine o_aload X14 hx (hb hby at_99) (pc' := 101) rfl rfl rfl ?_
              refine o_lloadN X14 hx (hb hby at_101) (pc' := 102) rfl rfl ?_
              refine o_lload X14 hx (hb hby at_102) (pc' := 104) rfl rfl ?_
              refine o_callV X14 hx hZ 0 (argsL := [.ref b4, .long q0, .long (o0 q0 q1 q2 q3)]) (rest := []) (a := b12) hown (w 25 _ rfl) (w 26 _ rfl) (w 28 _ rfl) (w 27 _ rfl) (w 4 _ rfl) (w 29 _ rfl) (by decide) (rm4s1 l Z a0 hw [] _ _ _ _ _ _ _ _ _ _ _ _ _ _ _ _ _ _ _ _ _ q0 (o0 q0 q1 q2 q3) _ _ _ T14.heap n0 Z14 P14_0 Fn14_0 Fn14_1 Fn14_2 P14_1 P14_2 g_b12 E15_b4 Vn14_0 On14_0 gn14_0 Vn14_1 gn14_1 Vn14_2 gn14_2 ne_b12_bn14_0 ne_b12_bn14_1 nn14_0_1 ne_b12_bn14_2 nn14_0_2 nn14_1_2 (Ne.symm ne_b4_b12) (Ne.symm ne_b4_bn14_0) (Ne.symm ne_b4_bn14_1) (Ne.symm ne_b4_bn14_2)) P14_0 (by decide) (by decide) (cells' := 8) rfl (slots' := 33) rfl (by decide) (by decide) rfl (by rw [hml]; rfl) (lenOf pd_9 rfl) rfl rfl (hb hby at_104) (pc' := 107) rfl ?_
              intro T46 v46 L46 X46 hQ46
              obtain ⟨rfl, Nq46, Kq46, P46_0, P46_1, P46_2, P46_3, P46_4, P46_5, P46_6, P46_7, P46_8⟩ := hQ46
              have N46 := Fr.app N14 Nq46
              have E47_b4 := Exa.keep E15_b4 Kq46
              have E47_b6 := Exa.keep E15_b6 Kq46
              have E47_b8 := Exa.keep E15_b8 Kq46
              have E47_b10 := Exa.keep E15_b10 Kq46
              have Z46 : n0 ≤ T46.heap.size := Nat.le_trans Z14 Kq46.1
              show Go p e below _ (T46.setTop (mkF m 107 _ []))
              refine o_iload X46 hx (hb hby at_107) (pc' := 109) rfl rfl ?_
              refine o_iconst X46 hx (1 : Int32) (hb hby at_109) (pc' := 110) rfl (by decide) ?_
              refine o_cmpN X46 hx (hb hby at_110) (tlt (by decide : (1 : Int32) < (2 : Int32))).2.2.2 (pc' := 113) rfl ?_
              refine o_aload X46 hx (hb hby at_113) (pc' := 115) rfl rfl rfl ?_
              refine o_aload X46 hx (hb hby at_115) (pc' := 117) rfl rfl rfl ?_
              refine o_lloadN X46 hx (hb hby at_117) (pc' := 118) rfl rfl ?_
              refine o_lload X46 hx (hb hby at_118) (pc' := 120) rfl rfl ?_
              refine o_callV X46 hx hZ 0 (argsL := [.ref b6, .long q1, .long (1 : Int64)]) (rest := []) (a := b12) hown (w 25 _ rfl) (w 26 _ rfl) (w 28 _ rfl) (w 27 _ rfl) (w 4 _ rfl) (w 29 _ rfl) (by decide) (rm4s8 l Z a0 hw [] _ _ _ _ _ _ _ _ _ _ _ _ _ _ _ _ _ _ _ _ _ _ q1 (1 : Int64) _ _ _ T46.heap n0 Z46 P46_0 P46_1 P46_2 P46_3 P46_4 P46_5 g_b12 E47_b4 E47_b6 P46_6 On14_0 gn14_0 P46_7 gn14_1 P46_8 gn14_2 ne_b12_bn14_0 (Ne.symm ne_b4_b12) (Ne.symm ne_b4_bn14_0) ne_b12_bn14_1 nn14_0_1 ne_b4_bn14_1 ne_b12_bn14_2 nn14_0_2 ne_b4_bn14_2 nn14_1_2 (Ne.symm ne_b6_b12) (Ne.symm ne_b6_bn14_0) ne_b4_b6 (Ne.symm ne_b6_bn14_1) (Ne.symm ne_b6_bn14_2)) P46_0 (by decide) (by decide) (cells' := 8) rfl (slots' := 33) rfl (by decide) (by decide) rfl (by rw [hml]; rfl) (lenOf pd_9 rfl) rfl rfl (hb hby at_120) (pc' := 123) rfl ?_
              intro T48 v48 L48 X48 hQ48
              rcases hQ48 with ⟨hm120_49, hQ48⟩ | ⟨hm120_49, hQ48⟩
              · obtain ⟨rfl, Nq48, Kq48, P48_0, P48_1, P48_2, P48_3, P48_4, P48_5, P48_6, P48_7, P48_8⟩ := hQ48
                have N48 := Fr.app N46 Nq48
                have E50_b4 := Exa.keep E47_b4 Kq48
                have E50_b6 := Exa.keep E47_b6 Kq48
                have E50_b8 := Exa.keep E47_b8 Kq48
                have E50_b10 := Exa.keep E47_b10 Kq48
                have Z48 : n0 ≤ T48.heap.size := Nat.le_trans Z46 Kq48.1
                show Go p e below _ (T48.setTop (mkF m 123 _ []))
                refine o_iload X48 hx (hb hby at_123) (pc' := 125) rfl rfl ?_
                refine o_iconst X48 hx (2 : Int32) (hb hby at_125) (pc' := 126) rfl (by decide) ?_
                refine o_cmpY X48 hx (hb hby at_126) (flt (by decide : ¬ ((2 : Int32) < (2 : Int32)))).2.2.2 (by decide) (pc' := 140) (by decide) ?_
                refine o_aload X48 hx (hb hby at_140) (pc' := 142) rfl rfl rfl ?_
                refine o_aload X48 hx (hb hby at_142) (pc' := 144) rfl rfl rfl ?_
                refine o_callV X48 hx hZ 0 (argsL := [.ref b4]) (rest := []) (a := b12) hown (w 48 _ rfl) (w 49 _ rfl) (w 51 _ rfl) (w 50 _ rfl) (w 4 _ rfl) (w 52 _ rfl) (by decide) (rm9s12 l Z a0 hw [] _ _ _ _ _ T48.heap n0 Z48 P48_0 P48_1 P48_5 E50_b4 E50_b6 P48_6 On14_0 ne_b12_bn14_0 (Ne.symm ne_b4_b12) (Ne.symm ne_b4_bn14_0) (Ne.symm ne_b6_b12) (Ne.symm ne_b6_bn14_0) ne_b4_b6) P48_0 (by decide) (by decide) (cells' := 8) rfl (slots' := 33) rfl (by decide) (by decide) rfl (by rw [hml]; rfl) (lenOf pd_4 rfl) rfl rfl (hb hby at_144) (pc' := 147) rfl ?_
                intro T51 v51 L51 X51 hQ51
                obtain ⟨rfl, Nq51, e51⟩ := hQ51
                have N51 := Fr.app N48 Nq51
                show Go p e below _ (T51.setTop (mkF m 147 _ [.int (0 : Int32)]))
                refine o_istore X51 hx (hb hby at_147) (pc' := 149) rfl (L' := #[.val (.long q0), .second, .val (.long q1), .second, .val (.long q2), .second, .val (.int q3), .val (.int (2 : Int32)), .val (.int (o4 q0 q1 q2 q3)), .val (.int (o2 q0 q1 q2 q3)), .val (.long (o0 q0 q1 q2 q3)), .second, .val (.long (1 : Int64)), .second, .val (.long (o1 q0 q1 q2 q3)), .second, .val (.ref b4), .val (.ref b6), .val (.ref b8), .val (.ref b10), .val (.ref b12), .val (.int (0 : Int32)), .unset, .unset, .unset, .unset, .unset, .unset]) rfl ?_
                refine o_aload X51 hx (hb hby at_149) (pc' := 151) rfl rfl rfl ?_
                refine o_aload X51 hx (hb hby at_151) (pc' := 153) rfl rfl rfl ?_
                refine o_callV X51 hx hZ 0 (argsL := [.ref b6]) (rest := []) (a := b12) hown (w 48 _ rfl) (w 49 _ rfl) (w 51 _ rfl) (w 50 _ rfl) (w 4 _ rfl) (w 52 _ rfl) (by decide) (rm9s13 l Z a0 hw [] _ _ _ _ _ T48.heap n0 Z48 P48_0 P48_1 P48_5 E50_b4 E50_b6 P48_6 On14_0 ne_b12_bn14_0 (Ne.symm ne_b4_b12) (Ne.symm ne_b4_bn14_0) (Ne.symm ne_b6_b12) (Ne.symm ne_b6_bn14_0) ne_b4_b6) P48_0 (by decide) (by decide) (cells' := 8) rfl (slots' := 33) rfl (by decide) (by decide) e51 (by rw [hml]; rfl) (lenOf pd_4 rfl) rfl rfl (hb hby at_153) (pc' := 156) rfl ?_
                intro T52 v52 L52 X52 hQ52
                obtain ⟨rfl, Nq52, e52⟩ := hQ52
                have N52 := Fr.app N51 Nq52
                show Go p e below _ (T52.setTop (mkF m 156 _ [.int (1 : Int32)]))
                refine o_istore X52 hx (hb hby at_156) (pc' := 158) rfl (L' := #[.val (.long q0), .second, .val (.long q1), .second, .val (.long q2), .second, .val (.int q3), .val (.int (2 : Int32)), .val (.int (o4 q0 q1 q2 q3)), .val (.int (o2 q0 q1 q2 q3)), .val (.long (o0 q0 q1 q2 q3)), .second, .val (.long (1 : Int64)), .second, .val (.long (o1 q0 q1 q2 q3)), .second, .val (.ref b4), .val (.ref b6), .val (.ref b8), .val (.ref b10), .val (.ref b12), .val (.int (0 : Int32)), .val (.int (1 : Int32)), .unset, .unset, .unset, .unset, .unset]) rfl ?_
                refine o_aload X52 hx (hb hby at_158) (pc' := 160) rfl rfl rfl ?_
                refine o_aload X52 hx (hb hby at_160) (pc' := 162) rfl rfl rfl ?_
                refine o_callV X52 hx hZ 0 (argsL := [.ref b8]) (rest := []) (a := b12) hown (w 48 _ rfl) (w 49 _ rfl) (w 51 _ rfl) (w 50 _ rfl) (w 4 _ rfl) (w 52 _ rfl) (by decide) (rm9s14 l Z a0 hw [] _ _ _ _ _ _ T48.heap n0 Z48 P48_0 P48_1 P48_5 E50_b4 E50_b6 E50_b8 P48_6 On14_0 ne_b12_bn14_0 (Ne.symm ne_b4_b12) (Ne.symm ne_b4_bn14_0) (Ne.symm ne_b6_b12) (Ne.symm ne_b6_bn14_0) ne_b4_b6 (Ne.symm ne_b8_b12) (Ne.symm ne_b8_bn14_0) ne_b4_b8 ne_b6_b8) P48_0 (by decide) (by decide) (cells' := 8) rfl (slots' := 33) rfl (by decide) (by decide) e52 (by rw [hml]; rfl) (lenOf pd_4 rfl) rfl rfl (hb hby at_162) (pc' := 165) rfl ?_
                intro T53 v53 L53 X53 hQ53
                obtain ⟨rfl, Nq53, e53⟩ := hQ53
                have N53 := Fr.app N52 Nq53
                show Go p e below _ (T53.setTop (mkF m 165 _ [.int (-1 : Int32)]))
                refine o_istore X53 hx (hb hby at_165) (pc' := 167) rfl (L' := #[.val (.long q0), .second, .val (.long q1), .second, .val (.long q2), .second, .val (.int q3), .val (.int (2 : Int32)), .val (.int (o4 q0 q1 q2 q3)), .val (.int (o2 q0 q1 q2 q3)), .val (.long (o0 q0 q1 q2 q3)), .second, .val (.long (1 : Int64)), .second, .val (.long (o1 q0 q1 q2 q3)), .second, .val (.ref b4), .val (.ref b6), .val (.ref b8), .val (.ref b10), .val (.ref b12), .val (.int (0 : Int32)), .val (.int (1 : Int32)), .val (.int (-1 : Int32)), .unset, .unset, .unset, .unset]) rfl ?_
                refine o_aload X53 hx (hb hby at_167) (pc' := 169) rfl rfl rfl ?_
                refine o_aload X53 hx (hb hby at_169) (pc' := 171) rfl rfl rfl ?_
                refine o_callV X53 hx hZ 0 (argsL := [.ref b10]) (rest := []) (a := b12) hown (w 48 _ rfl) (w 49 _ rfl) (w 51 _ rfl) (w 50 _ rfl) (w 4 _ rfl) (w 52 _ rfl) (by decide) (rm9s14 l Z a0 hw [] _ _ _ _ _ _ T48.heap n0 Z48 P48_0 P48_1 P48_5 E50_b4 E50_b6 E50_b10 P48_6 On14_0 ne_b12_bn14_0 (Ne.symm ne_b4_b12) (Ne.symm ne_b4_bn14_0) (Ne.symm ne_b6_b12) (Ne.symm ne_b6_bn14_0) ne_b4_b6 (Ne.symm ne_b10_b12) (Ne.symm ne_b10_bn14_0) ne_b4_b10 ne_b6_b10) P48_0 (by decide) (by decide) (cells' := 8) rfl (slots' := 33) rfl (by decide) (by decide) e53 (by rw [hml]; rfl) (lenOf pd_4 rfl) rfl rfl (hb hby at_171) (pc' := 174) rfl ?_
                intro T54 v54 L54 X54 hQ54
                obtain ⟨rfl, Nq54, e54⟩ := hQ54
                have N54 := Fr.app N53 Nq54
                show Go p e below _ (T54.setTop (mkF m 174 _ [.int (-1 : Int32)]))
                refine o_iconst X54 hx (-1 : Int32) (hb hby at_174) (pc' := 175) rfl (by decide) ?_
                refine o_cmpY X54 hx (hb hby at_175) (teq (by decide : (-1 : Int32) = (-1 : Int32))).1 (by decide) (pc' := 180) (by decide) ?_
                refine o_iload X54 hx (hb hby at_180) (pc' := 182) rfl rfl ?_
                refine o_ifN X54 hx (hb hby at_182) (tlt (by decide : (0 : Int32) < (2 : Int32))).2.2.2 (pc' := 185) rfl ?_
                refine o_iconst X54 hx (1 : Int32) (hb hby at_185) (pc' := 186) rfl (by decide) ?_
                refine o_goto X54 hx (hb hby at_186) (by decide) (pc' := 190) (by decide) ?_
                refine o_iload X54 hx (hb hby at_190) (pc' := 192) rfl rfl ?_
                refine o_iconst X54 hx (1 : Int32) (hb hby at_192) (pc' := 193) rfl (by decide) ?_
                refine o_cmpN X54 hx (hb hby at_193) (tlt (by decide : (1 : Int32) < (2 : Int32))).2.2.2 (pc' := 196) rfl ?_
                refine o_iconst X54 hx (1 : Int32) (hb hby at_196) (pc' := 197) rfl (by decide) ?_
                refine o_goto X54 hx (hb hby at_197) (by decide) (pc' := 201) (by decide) ?_
                refine o_iload X54 hx (hb hby at_201) (pc' := 203) rfl rfl ?_
                refine o_iconst X54 hx (2 : Int32) (hb hby at_203) (pc' := 204) rfl (by decide) ?_
                refine o_cmpY X54 hx (hb hby at_204) (flt (by decide : ¬ ((2 : Int32) < (2 : Int32)))).2.2.2 (by decide) (pc' := 211) (by decide) ?_
                refine o_iconst X54 hx (0 : Int32) (hb hby at_211) (pc' := 212) rfl (by decide) ?_
                refine o_iload X54 hx (hb hby at_212) (pc' := 214) rfl rfl ?_
                refine o_iload X54 hx (hb hby at_214) (pc' := 216) rfl rfl ?_
                refine o_iload X54 hx (hb hby at_216) (pc' := 218) rfl rfl ?_
                refine o_lloadN X54 hx (hb hby at_218) (pc' := 219) rfl rfl ?_
                refine o_lload X54 hx (hb hby at_219) (pc' := 221) rfl rfl ?_
                refine o_lloadN X54 hx (hb hby at_221) (pc' := 222) rfl rfl ?_
                refine o_lload X54 hx (hb hby at_222) (pc' := 224) rfl rfl ?_
                refine o_lload X54 hx (hb hby at_224) (pc' := 226) rfl rfl ?_
                refine o_lload X54 hx (hb hby at_226) (pc' := 228) rfl rfl ?_
                refine o_callS X54 hx hZ 0 (argsL := [.int (1 : Int32), .int (1 : Int32), .int (0 : Int32), .int (0 : Int32), .int (1 : Int32), .int (-1 : Int32), .long q0, .long (o0 q0 q1 q2 q3), .long q1, .long (1 : Int64), .long q2, .long (o1 q0 q1 q2 q3)]) (rest := []) hown (w 53 _ rfl) (w 54 _ rfl) (w 55 _ rfl) (w 56 _ rfl) (by decide) (rm10 l Z a0 hw [] (1 : Int32) (1 : Int32) (0 : Int32) (0 : Int32) (1 : Int32) (-1 : Int32) q0 (o0 q0 q1 q2 q3) q1 (1 : Int64) q2 (o1 q0 q1 q2 q3) T48.heap n0 Z48 ) (by decide) (by decide) (cells' := 8) rfl (slots' := 33) rfl (by decide) (by decide) e54 (by rw [hml]; rfl) (lenOf pd_5 rfl) rfl rfl (hb hby at_228) (pc' := 231) rfl ?_
                intro T55 v55 L55 X55 hQ55
                obtain ⟨rfl, Nq55, e55⟩ := hQ55
                have N55 := Fr.app N54 Nq55
                show Go p e below _ (T55.setTop (mkF m 231 _ [.int (o3 (1 : Int32) (1 : Int32) (0 : Int32) (0 : Int32) (1 : Int32) (-1 : Int32) q0 (o0 q0 q1 q2 q3) q1 (1 : Int64) q2 (o1 q0 q1 q2 q3))]))
                by_cases hc231_56 : (o3 (1 : Int32) (1 : Int32) (0 : Int32) (0 : Int32) (1 : Int32) (-1 : Int32) q0 (o0 q0 q1 q2 q3) q1 (1 : Int64) q2 (o1 q0 q1 q2 q3)) = (0 : Int32)
                · refine o_ifN X55 hx (hb hby at_231) (teq hc231_56).2 (pc' := 234) rfl ?_
                  refine o_iconst X55 hx (0 : Int32) (hb hby at_234) (pc' := 235) rfl (by decide) ?_
                  rw [← hOWE]
                  exact o_retZ X55 hx rfl hlk hrt (hb hby at_235) (by decide) (by decide) (by rw [e55]; exact ⟨(by rw [o7, o10, o9, o8, if_neg hs16, if_neg hs26, if_pos hs45, if_pos hm120_49, if_pos hc231_56]), N55⟩)
                · refine o_ifY X55 hx (hb hby at_231) (feq hc231_56).2 (by decide) (pc' := 236) (by decide) ?_
                  by_cases hs57 : (o4 q0 q1 q2 q3) = (0 : Int32)
                  · rw [hs57]
                    refine o_iload X55 hx (hb hby at_236) (pc' := 238) rfl rfl ?_
                    refine o_iload X55 hx (hb hby at_238) (pc' := 240) rfl rfl ?_
                    refine o_cmpY X55 hx (hb hby at_240) (tlt (by decide : (0 : Int32) < (2 : Int32))).1 (by decide) (pc' := 245) (by decide) ?_
                    refine o_iload X55 hx (hb hby at_245) (pc' := 247) rfl rfl ?_
                    refine o_ifN X55 hx (hb hby at_247) (teq (by decide : (0 : Int32) = (0 : Int32))).2 (pc' := 250) rfl ?_
                    refine o_iload X55 hx (hb hby at_250) (pc' := 252) rfl rfl ?_
                    refine o_goto X55 hx (hb hby at_252) (by decide) (pc' := 268) (by decide) ?_
                    refine o_istore X55 hx (hb hby at_268) (pc' := 270) rfl (L' := #[.val (.long q0), .second, .val (.long q1), .second, .val (.long q2), .second, .val (.int q3), .val (.int (2 : Int32)), .val (.int (0 : Int32)), .val (.int (o2 q0 q1 q2 q3)), .val (.long (o0 q0 q1 q2 q3)), .second, .val (.long (1 : Int64)), .second, .val (.long (o1 q0 q1 q2 q3)), .second, .val (.ref b4), .val (.ref b6), .val (.ref b8), .val (.ref b10), .val (.ref b12), .val (.int (0 : Int32)), .val (.int (1 : Int32)), .val (.int (-1 : Int32)), .val (.int (0 : Int32)), .unset, .unset, .unset]) rfl ?_
                    refine o_aload X55 hx (hb hby at_270) (pc' := 272) rfl rfl rfl ?_
                    refine o_iload X55 hx (hb hby at_272) (pc' := 274) rfl rfl ?_
                    refine o_callV X55 hx hZ 0 (argsL := [.int (0 : Int32)]) (rest := []) (a := b12) hown (w 63 _ rfl) (w 64 _ rfl) (w 66 _ rfl) (w 65 _ rfl) (w 4 _ rfl) (w 67 _ rfl) (by decide) (rm13s15 l Z a0 hw [] _ _ _ _ _ _ _ _ _ _ _ _ _ _ _ _ _ _ _ _ _ _ _ _ _ T48.heap n0 Z48 P48_0 P48_1 P48_2 P48_3 P48_4 P48_5 g_b12 E50_b4 E50_b6 P48_6 On14_0 gn14_0 P48_7 gn14_1 P48_8 gn14_2 ne_b12_bn14_0 (Ne.symm ne_b4_b12) (Ne.symm ne_b4_bn14_0) (Ne.symm ne_b6_b12) (Ne.symm ne_b6_bn14_0) ne_b4_b6 ne_b12_bn14_1 nn14_0_1 ne_b4_bn14_1 ne_b6_bn14_1 ne_b12_bn14_2 nn14_0_2 ne_b4_bn14_2 ne_b6_bn14_2 nn14_1_2) P48_0 (by decide) (by decide) (cells' := 8) rfl (slots' := 33) rfl (by decide) (by decide) e55 (by rw [hml]; rfl) (lenOf pd_10 rfl) rfl rfl (hb hby at_274) (pc' := 277) rfl ?_
                    intro T58 v58 L58 X58 hQ58
                    obtain ⟨rfl, Nq58, Kq58, P58_0, P58_1, P58_2, P58_3, P58_4, P58_5, P58_6, P58_7, P58_8⟩ := hQ58
                    have N58 := Fr.app N55 Nq58
                    have E59_b4 := Exa.keep E50_b4 Kq58
                    have E59_b6 := Exa.keep E50_b6 Kq58
                    have E59_b8 := Exa.keep E50_b8 Kq58
                    have E59_b10 := Exa.keep E50_b10 Kq58
                    have Z58 : n0 ≤ T58.heap.size := Nat.le_trans Z48 Kq58.1
                    show Go p e below _ (T58.setTop (mkF m 277 _ []))
                    refine o_aload X58 hx (hb hby at_277) (pc' := 279) rfl rfl rfl ?_
                    refine o_aload X58 hx (hb hby at_279) (pc' := 281) rfl rfl rfl ?_
                    refine o_callV X58 hx hZ 0 (argsL := [.ref b4]) (rest := []) (a := b12) hown (w 48 _ rfl) (w 49 _ rfl) (w 51 _ rfl) (w 50 _ rfl) (w 4 _ rfl) (w 52 _ rfl) (by decide) (rm9s6 l Z a0 hw [] _ _ _ _ _ T58.heap n0 Z58 P58_0 P58_1 P58_5 E59_b6 E59_b4 P58_6 On14_0 ne_b12_bn14_0 (Ne.symm ne_b6_b12) (Ne.symm ne_b6_bn14_0) (Ne.symm ne_b4_b12) (Ne.symm ne_b4_bn14_0) (Ne.symm ne_b4_b6)) P58_0 (by decide) (by decide) (cells' := 8) rfl (slots' := 33) rfl (by decide) (by decide) rfl (by rw [hml]; rfl) (lenOf pd_4 rfl) rfl rfl (hb hby at_281) (pc' := 284) rfl ?_
                    intro T60 v60 L60 X60 hQ60
                    obtain ⟨rfl, Nq60, e60⟩ := hQ60
                    have N60 := Fr.app N58 Nq60
                    show Go p e below _ (T60.setTop (mkF m 284 _ [.int (-1 : Int32)]))
                    refine o_istore X60 hx (hb hby at_284) (pc' := 286) rfl (L' := #[.val (.long q0), .second, .val (.long q1), .second, .val (.long q2), .second, .val (.int q3), .val (.int (2 : Int32)), .val (.int (0 : Int32)), .val (.int (o2 q0 q1 q2 q3)), .val (.long (o0 q0 q1 q2 q3)), .second, .val (.long (1 : Int64)), .second, .val (.long (o1 q0 q1 q2 q3)), .second, .val (.ref b4), .val (.ref b6), .val (.ref b8), .val (.ref b10), .val (.ref b12), .val (.int (0 : Int32)), .val (.int (1 : Int32)), .val (.int (-1 : Int32)), .val (.int (0 : Int32)), .val (.int (-1 : Int32)), .unset, .unset]) rfl ?_
                    refine o_aload X60 hx (hb hby at_286) (pc' := 288) rfl rfl rfl ?_
                    refine o_aload X60 hx (hb hby at_288) (pc' := 290) rfl rfl rfl ?_
                    refine o_callV X60 hx hZ 0 (argsL := [.ref b6]) (rest := []) (a := b12) hown (w 48 _ rfl) (w 49 _ rfl) (w 51 _ rfl) (w 50 _ rfl) (w 4 _ rfl) (w 52 _ rfl) (by decide) (rm9s5 l Z a0 hw [] _ _ _ _ T58.heap n0 Z58 P58_0 P58_1 P58_5 E59_b6 P58_6 On14_0 ne_b12_bn14_0 (Ne.symm ne_b6_b12) (Ne.symm ne_b6_bn14_0)) P58_0 (by decide) (by decide) (cells' := 8) rfl (slots' := 33) rfl (by decide) (by decide) e60 (by rw [hml]; rfl) (lenOf pd_4 rfl) rfl rfl (hb hby at_290) (pc' := 293) rfl ?_
                    intro T61 v61 L61 X61 hQ61
                    obtain ⟨rfl, Nq61, e61⟩ := hQ61
                    have N61 := Fr.app N60 Nq61
                    show Go p e below _ (T61.setTop (mkF m 293 _ [.int (0 : Int32)]))
                    refine o_istore X61 hx (hb hby at_293) (pc' := 295) rfl (L' := #[.val (.long q0), .second, .val (.long q1), .second, .val (.long q2), .second, .val (.int q3), .val (.int (2 : Int32)), .val (.int (0 : Int32)), .val (.int (o2 q0 q1 q2 q3)), .val (.long (o0 q0 q1 q2 q3)), .second, .val (.long (1 : Int64)), .second, .val (.long (o1 q0 q1 q2 q3)), .second, .val (.ref b4), .val (.ref b6), .val (.ref b8), .val (.ref b10), .val (.ref b12), .val (.int (0 : Int32)), .val (.int (1 : Int32)), .val (.int (-1 : Int32)), .val (.int (0 : Int32)), .val (.int (-1 : Int32)), .val (.int (0 : Int32)), .unset]) rfl ?_
                    refine o_aload X61 hx (hb hby at_295) (pc' := 297) rfl rfl rfl ?_
                    refine o_aload X61 hx (hb hby at_297) (pc' := 299) rfl rfl rfl ?_
                    refine o_callV X61 hx hZ 0 (argsL := [.ref b8]) (rest := []) (a := b12) hown (w 48 _ rfl) (w 49 _ rfl) (w 51 _ rfl) (w 50 _ rfl) (w 4 _ rfl) (w 52 _ rfl) (by decide) (rm9s6 l Z a0 hw [] _ _ _ _ _ T58.heap n0 Z58 P58_0 P58_1 P58_5 E59_b6 E59_b8 P58_6 On14_0 ne_b12_bn14_0 (Ne.symm ne_b6_b12) (Ne.symm ne_b6_bn14_0) (Ne.symm ne_b8_b12) (Ne.symm ne_b8_bn14_0) ne_b6_b8) P58_0 (by decide) (by decide) (cells' := 8) rfl (slots' := 33) rfl (by decide) (by decide) e61 (by rw [hml]; rfl) (lenOf pd_4 rfl) rfl rfl (hb hby at_299) (pc' := 302) rfl ?_
                    intro T62 v62 L62 X62 hQ62
                    obtain ⟨rfl, Nq62, e62⟩ := hQ62
                    have N62 := Fr.app N61 Nq62
                    show Go p e below _ (T62.setTop (mkF m 302 _ [.int (-1 : Int32)]))
                    refine o_istore X62 hx (hb hby at_302) (pc' := 304) rfl (L' := #[.val (.long q0), .second, .val (.long q1), .second, .val (.long q2), .second, .val (.int q3), .val (.int (2 : Int32)), .val (.int (0 : Int32)), .val (.int (o2 q0 q1 q2 q3)), .val (.long (o0 q0 q1 q2 q3)), .second, .val (.long (1 : Int64)), .second, .val (.long (o1 q0 q1 q2 q3)), .second, .val (.ref b4), .val (.ref b6), .val (.ref b8), .val (.ref b10), .val (.ref b12), .val (.int (0 : Int32)), .val (.int (1 : Int32)), .val (.int (-1 : Int32)), .val (.int (0 : Int32)), .val (.int (-1 : Int32)), .val (.int (0 : Int32)), .val (.int (-1 : Int32))]) rfl ?_
                    refine o_aload X62 hx (hb hby at_304) (pc' := 306) rfl rfl rfl ?_
                    refine o_aload X62 hx (hb hby at_306) (pc' := 308) rfl rfl rfl ?_
                    refine o_callV X62 hx hZ 0 (argsL := [.ref b10]) (rest := []) (a := b12) hown (w 48 _ rfl) (w 49 _ rfl) (w 51 _ rfl) (w 50 _ rfl) (w 4 _ rfl) (w 52 _ rfl) (by decide) (rm9s6 l Z a0 hw [] _ _ _ _ _ T58.heap n0 Z58 P58_0 P58_1 P58_5 E59_b6 E59_b10 P58_6 On14_0 ne_b12_bn14_0 (Ne.symm ne_b6_b12) (Ne.symm ne_b6_bn14_0) (Ne.symm ne_b10_b12) (Ne.symm ne_b10_bn14_0) ne_b6_b10) P58_0 (by decide) (by decide) (cells' := 8) rfl (slots' := 33) rfl (by decide) (by decide) e62 (by rw [hml]; rfl) (lenOf pd_4 rfl) rfl rfl (hb hby at_308) (pc' := 311) rfl ?_
                    intro T63 v63 L63 X63 hQ63
                    obtain ⟨rfl, Nq63, e63⟩ := hQ63
                    have N63 := Fr.app N62 Nq63
                    show Go p e below _ (T63.setTop (mkF m 311 _ [.int (-1 : Int32)]))
                    refine o_iconst X63 hx (-1 : Int32) (hb hby at_311) (pc' := 312) rfl (by decide) ?_
                    refine o_cmpY X63 hx (hb hby at_312) (teq (by decide : (-1 : Int32) = (-1 : Int32))).1 (by decide) (pc' := 317) (by decide) ?_
                    refine o_iload X63 hx (hb hby at_317) (pc' := 319) rfl rfl ?_
                    refine o_ifN X63 hx (hb hby at_319) (tlt (by decide : (0 : Int32) < (2 : Int32))).2.2.2 (pc' := 322) rfl ?_
                    refine o_iload X63 hx (hb hby at_322) (pc' := 324) rfl rfl ?_
                    refine o_ifY X63 hx (hb hby at_324) (teq (by decide : (0 : Int32) = (0 : Int32))).1 (by decide) (pc' := 331) (by decide) ?_
                    refine o_iconst X63 hx (0 : Int32) (hb hby at_331) (pc' := 332) rfl (by decide) ?_
                    refine o_iload X63 hx (hb hby at_332) (pc' := 334) rfl rfl ?_
                    refine o_iconst X63 hx (1 : Int32) (hb hby at_334) (pc' := 335) rfl (by decide) ?_
                    refine o_cmpN X63 hx (hb hby at_335) (tlt (by decide : (1 : Int32) < (2 : Int32))).2.2.2 (pc' := 338) rfl ?_
                    refine o_iload X63 hx (hb hby at_338) (pc' := 340) rfl rfl ?_
                    refine o_iconst X63 hx (1 : Int32) (hb hby at_340) (pc' := 341) rfl (by decide) ?_
                    refine o_cmpN X63 hx (hb hby at_341) (feq (by decide : ¬ ((0 : Int32) = (1 : Int32)))).1 (pc' := 344) rfl ?_
                    refine o_iconst X63 hx (1 : Int32) (hb hby at_344) (pc' := 345) rfl (by decide) ?_
                    refine o_goto X63 hx (hb hby at_345) (by decide) (pc' := 349) (by decide) ?_
                    refine o_iload X63 hx (hb hby at_349) (pc' := 351) rfl rfl ?_
                    refine o_iconst X63 hx (2 : Int32) (hb hby at_351) (pc' := 352) rfl (by decide) ?_
                    refine o_cmpY X63 hx (hb hby at_352) (flt (by decide : ¬ ((2 : Int32) < (2 : Int32)))).2.2.2 (by decide) (pc' := 365) (by decide) ?_
                    refine o_iconst X63 hx (0 : Int32) (hb hby at_365) (pc' := 366) rfl (by decide) ?_
                    refine o_iload X63 hx (hb hby at_366) (pc' := 368) rfl rfl ?_
                    refine o_iload X63 hx (hb hby at_368) (pc' := 370) rfl rfl ?_
                    refine o_iload X63 hx (hb hby at_370) (pc' := 372) rfl rfl ?_
                    refine o_lloadN X63 hx (hb hby at_372) (pc' := 373) rfl rfl ?_
                    refine o_lload X63 hx (hb hby at_373) (pc' := 375) rfl rfl ?_
                    refine o_lloadN X63 hx (hb hby at_375) (pc' := 376) rfl rfl ?_
                    refine o_lload X63 hx (hb hby at_376) (pc' := 378) rfl rfl ?_
                    refine o_lload X63 hx (hb hby at_378) (pc' := 380) rfl rfl ?_
                    refine o_lload X63 hx (hb hby at_380) (pc' := 382) rfl rfl ?_
                    refine o_callS X63 hx hZ 0 (argsL := [.int (0 : Int32), .int (1 : Int32), .int (0 : Int32), .int (-1 : Int32), .int (0 : Int32), .int (-1 : Int32), .long q0, .long (o0 q0 q1 q2 q3), .long q1, .long (1 : Int64), .long q2, .long (o1 q0 q1 q2 q3)]) (rest := []) hown (w 53 _ rfl) (w 54 _ rfl) (w 55 _ rfl) (w 56 _ rfl) (by decide) (rm10 l Z a0 hw [] (0 : Int32) (1 : Int32) (0 : Int32) (-1 : Int32) (0 : Int32) (-1 : Int32) q0 (o0 q0 q1 q2 q3) q1 (1 : Int64) q2 (o1 q0 q1 q2 q3) T58.heap n0 Z58 ) (by decide) (by decide) (cells' := 8) rfl (slots' := 33) rfl (by decide) (by decide) e63 (by rw [hml]; rfl) (lenOf pd_5 rfl) rfl rfl (hb hby at_382) (pc' := 385) rfl ?_
                    intro T64 v64 L64 X64 hQ64
                    obtain ⟨rfl, Nq64, e64⟩ := hQ64
                    have N64 := Fr.app N63 Nq64
                    show Go p e below _ (T64.setTop (mkF m 385 _ [.int (o3 (0 : Int32) (1 : Int32) (0 : Int32) (-1 : Int32) (0 : Int32) (-1 : Int32) q0 (o0 q0 q1 q2 q3) q1 (1 : Int64) q2 (o1 q0 q1 q2 q3))]))
                    rw [← hOWE]
                    exact o_retZ X64 hx (own_narZ (o24 (0 : Int32) (1 : Int32) (0 : Int32) (-1 : Int32) (0 : Int32) (-1 : Int32) q0 (o0 q0 q1 q2 q3) q1 (1 : Int64) q2 (o1 q0 q1 q2 q3))) hlk hrt (hb hby at_385) (by decide) (by decide) (by rw [e64]; exact ⟨(by rw [o7, o10, o9, o8, if_neg hs16, if_neg hs26, if_pos hs45, if_pos hm120_49, if_neg hc231_56, if_pos hs57]), N64⟩)
                  · by_cases hs65 : (o4 q0 q1 q2 q3) = (1 : Int32)
                    · rw [hs65]
                      refine o_iload X55 hx (hb hby at_236) (pc' := 238) rfl rfl ?_
                      refine o_iload X55 hx (hb hby at_238) (pc' := 240) rfl rfl ?_
                      refine o_cmpY X55 hx (hb hby at_240) (tlt (by decide : (1 : Int32) < (2 : Int32))).1 (by decide) (pc' := 245) (by decide) ?_
                      refine o_iload X55 hx (hb hby at_245) (pc' := 247) rfl rfl ?_
                      refine o_ifY X55 hx (hb hby at_247) (feq (by decide : ¬ ((1 : Int32) = (0 : Int32)))).2 (by decide) (pc' := 255) (by decide) ?_
                      refine o_iload X55 hx (hb hby at_255) (pc' := 257) rfl rfl ?_
                      refine o_iconst X55 hx (1 : Int32) (hb hby at_257) (pc' := 258) rfl (by decide) ?_
                      refine o_cmpN X55 hx (hb hby at_258) (teq (by decide : (1 : Int32) = (1 : Int32))).2 (pc' := 261) rfl ?_
                      refine o_iload X55 hx (hb hby at_261) (pc' := 263) rfl rfl ?_
                      refine o_goto X55 hx (hb hby at_263) (by decide) (pc' := 268) (by decide) ?_
                      refine o_istore X55 hx (hb hby at_268) (pc' := 270) rfl (L' := #[.val (.long q0), .second, .val (.long q1), .second, .val (.long q2), .second, .val (.int q3), .val (.int (2 : Int32)), .val (.int (1 : Int32)), .val (.int (o2 q0 q1 q2 q3)), .val (.long (o0 q0 q1 q2 q3)), .second, .val (.long (1 : Int64)), .second, .val (.long (o1 q0 q1 q2 q3)), .second, .val (.ref b4), .val (.ref b6), .val (.ref b8), .val (.ref b10), .val (.ref b12), .val (.int (0 : Int32)), .val (.int (1 : Int32)), .val (.int (-1 : Int32)), .val (.int (1 : Int32)), .unset, .unset, .unset]) rfl ?_
                      refine o_aload X55 hx (hb hby at_270) (pc' := 272) rfl rfl rfl ?_
                      refine o_iload X55 hx (hb hby at_272) (pc' := 274) rfl rfl ?_
                      refine o_callV X55 hx hZ 0 (argsL := [.int (1 : Int32)]) (rest := []) (a := b12) hown (w 63 _ rfl) (w 64 _ rfl) (w 66 _ rfl) (w 65 _ rfl) (w 4 _ rfl) (w 67 _ rfl) (by decide) (rm13s18 l Z a0 hw [] _ _ _ _ _ _ _ _ _ _ _ _ _ _ _ _ _ _ _ _ _ _ _ _ _ T48.heap n0 Z48 P48_0 P48_1 P48_2 P48_3 P48_4 P48_5 g_b12 E50_b4 E50_b6 P48_6 On14_0 gn14_0 P48_7 gn14_1 P48_8 gn14_2 ne_b12_bn14_0 (Ne.symm ne_b4_b12) (Ne.symm ne_b4_bn14_0) (Ne.symm ne_b6_b12) (Ne.symm ne_b6_bn14_0) ne_b4_b6 ne_b12_bn14_1 nn14_0_1 ne_b4_bn14_1 ne_b6_bn14_1 ne_b12_bn14_2 nn14_0_2 ne_b4_bn14_2 ne_b6_bn14_2 nn14_1_2) P48_0 (by decide) (by decide) (cells' := 8) rfl (slots' := 33) rfl (by decide) (by decide) e55 (by rw [hml]; rfl) (lenOf pd_10 rfl) rfl rfl (hb hby at_274) (pc' := 277) rfl ?_
                      intro T66 v66 L66 X66 hQ66
                      obtain ⟨rfl, Nq66, Kq66, P66_0, P66_1, P66_2, P66_3, P66_4, P66_5, P66_6, P66_7, P66_8⟩ := hQ66
                      have N66 := Fr.app N55 Nq66
                      have E67_b4 := Exa.keep E50_b4 Kq66
                      have E67_b6 := Exa.keep E50_b6 Kq66
                      have E67_b8 := Exa.keep E50_b8 Kq66
                      have E67_b10 := Exa.keep E50_b10 Kq66
                      have Z66 : n0 ≤ T66.heap.size := Nat.le_trans Z48 Kq66.1
                      show Go p e below _ (T66.setTop (mkF m 277 _ []))
                      refine o_aload X66 hx (hb hby at_277) (pc' := 279) rfl rfl rfl ?_
                      refine o_aload X66 hx (hb hby at_279) (pc' := 281) rfl rfl rfl ?_
                      refine o_callV X66 hx hZ 0 (argsL := [.ref b4]) (rest := []) (a := b12) hown (w 48 _ rfl) (w 49 _ rfl) (w 51 _ rfl) (w 50 _ rfl) (w 4 _ rfl) (w 52 _ rfl) (by decide) (rm9s5 l Z a0 hw [] _ _ _ _ T66.heap n0 Z66 P66_0 P66_1 P66_5 E67_b4 P66_6 On14_0 ne_b12_bn14_0 (Ne.symm ne_b4_b12) (Ne.symm ne_b4_bn14_0)) P66_0 (by decide) (by decide) (cells' := 8) rfl (slots' := 33) rfl (by decide) (by decide) rfl (by rw [hml]; rfl) (lenOf pd_4 rfl) rfl rfl (hb hby at_281) (pc' := 284) rfl ?_
                      intro T68 v68 L68 X68 hQ68
                      obtain ⟨rfl, Nq68, e68⟩ := hQ68
                      have N68 := Fr.app N66 Nq68
                      show Go p e below _ (T68.setTop (mkF m 284 _ [.int (0 : Int32)]))
                      refine o_istore X68 hx (hb hby at_284) (pc' := 286) rfl (L' := #[.val (.long q0), .second, .val (.long q1), .second, .val (.long q2), .second, .val (.int q3), .val (.int (2 : Int32)), .val (.int (1 : Int32)), .val (.int (o2 q0 q1 q2 q3)), .val (.long (o0 q0 q1 q2 q3)), .second, .val (.long (1 : Int64)), .second, .val (.long (o1 q0 q1 q2 q3)), .second, .val (.ref b4), .val (.ref b6), .val (.ref b8), .val (.ref b10), .val (.ref b12), .val (.int (0 : Int32)), .val (.int (1 : Int32)), .val (.int (-1 : Int32)), .val (.int (1 : Int32)), .val (.int (0 : Int32)), .unset, .unset]) rfl ?_
                      refine o_aload X68 hx (hb hby at_286) (pc' := 288) rfl rfl rfl ?_
                      refine o_aload X68 hx (hb hby at_288) (pc' := 290) rfl rfl rfl ?_
                      refine o_callV X68 hx hZ 0 (argsL := [.ref b6]) (rest := []) (a := b12) hown (w 48 _ rfl) (w 49 _ rfl) (w 51 _ rfl) (w 50 _ rfl) (w 4 _ rfl) (w 52 _ rfl) (by decide) (rm9s6 l Z a0 hw [] _ _ _ _ _ T66.heap n0 Z66 P66_0 P66_1 P66_5 E67_b4 E67_b6 P66_6 On14_0 ne_b12_bn14_0 (Ne.symm ne_b4_b12) (Ne.symm ne_b4_bn14_0) (Ne.symm ne_b6_b12) (Ne.symm ne_b6_bn14_0) ne_b4_b6) P66_0 (by decide) (by decide) (cells' := 8) rfl (slots' := 33) rfl (by decide) (by decide) e68 (by rw [hml]; rfl) (lenOf pd_4 rfl) rfl rfl (hb hby at_290) (pc' := 293) rfl ?_
                      intro T69 v69 L69 X69 hQ69
                      obtain ⟨rfl, Nq69, e69⟩ := hQ69
                      have N69 := Fr.app N68 Nq69
                      show Go p e below _ (T69.setTop (mkF m 293 _ [.int (-1 : Int32)]))
                      refine o_istore X69 hx (hb hby at_293) (pc' := 295) rfl (L' := #[.val (.long q0), .second, .val (.long q1), .second, .val (.long q2), .second, .val (.int q3), .val (.int (2 : Int32)), .val (.int (1 : Int32)), .val (.int (o2 q0 q1 q2 q3)), .val (.long (o0 q0 q1 q2 q3)), .second, .val (.long (1 : Int64)), .second, .val (.long (o1 q0 q1 q2 q3)), .second, .val (.ref b4), .val (.ref b6), .val (.ref b8), .val (.ref b10), .val (.ref b12), .val (.int (0 : Int32)), .val (.int (1 : Int32)), .val (.int (-1 : Int32)), .val (.int (1 : Int32)), .val (.int (0 : Int32)), .val (.int (-1 : Int32)), .unset]) rfl ?_
                      refine o_aload X69 hx (hb hby at_295) (pc' := 297) rfl rfl rfl ?_
                      refine o_aload X69 hx (hb hby at_297) (pc' := 299) rfl rfl rfl ?_
                      refine o_callV X69 hx hZ 0 (argsL := [.ref b8]) (rest := []) (a := b12) hown (w 48 _ rfl) (w 49 _ rfl) (w 51 _ rfl) (w 50 _ rfl) (w 4 _ rfl) (w 52 _ rfl) (by decide) (rm9s6 l Z a0 hw [] _ _ _ _ _ T66.heap n0 Z66 P66_0 P66_1 P66_5 E67_b4 E67_b8 P66_6 On14_0 ne_b12_bn14_0 (Ne.symm ne_b4_b12) (Ne.symm ne_b4_bn14_0) (Ne.symm ne_b8_b12) (Ne.symm ne_b8_bn14_0) ne_b4_b8) P66_0 (by decide) (by decide) (cells' := 8) rfl (slots' := 33) rfl (by decide) (by decide) e69 (by rw [hml]; rfl) (lenOf pd_4 rfl) rfl rfl (hb hby at_299) (pc' := 302) rfl ?_
                      intro T70 v70 L70 X70 hQ70
                      obtain ⟨rfl, Nq70, e70⟩ := hQ70
                      have N70 := Fr.app N69 Nq70
                      show Go p e below _ (T70.setTop (mkF m 302 _ [.int (-1 : Int32)]))
                      refine o_istore X70 hx (hb hby at_302) (pc' := 304) rfl (L' := #[.val (.long q0), .second, .val (.long q1), .second, .val (.long q2), .second, .val (.int q3), .val (.int (2 : Int32)), .val (.int (1 : Int32)), .val (.int (o2 q0 q1 q2 q3)), .val (.long (o0 q0 q1 q2 q3)), .second, .val (.long (1 : Int64)), .second, .val (.long (o1 q0 q1 q2 q3)), .second, .val (.ref b4), .val (.ref b6), .val (.ref b8), .val (.ref b10), .val (.ref b12), .val (.int (0 : Int32)), .val (.int (1 : Int32)), .val (.int (-1 : Int32)), .val (.int (1 : Int32)), .val (.int (0 : Int32)), .val (.int (-1 : Int32)), .val (.int (-1 : Int32))]) rfl ?_
                      refine o_aload X70 hx (hb hby at_304) (pc' := 306) rfl rfl rfl ?_
                      refine o_aload X70 hx (hb hby at_306) (pc' := 308) rfl rfl rfl ?_
                      refine o_callV X70 hx hZ 0 (argsL := [.ref b10]) (rest := []) (a := b12) hown (w 48 _ rfl) (w 49 _ rfl) (w 51 _ rfl) (w 50 _ rfl) (w 4 _ rfl) (w 52 _ rfl) (by decide) (rm9s6 l Z a0 hw [] _ _ _ _ _ T66.heap n0 Z66 P66_0 P66_1 P66_5 E67_b4 E67_b10 P66_6 On14_0 ne_b12_bn14_0 (Ne.symm ne_b4_b12) (Ne.symm ne_b4_bn14_0) (Ne.symm ne_b10_b12) (Ne.symm ne_b10_bn14_0) ne_b4_b10) P66_0 (by decide) (by decide) (cells' := 8) rfl (slots' := 33) rfl (by decide) (by decide) e70 (by rw [hml]; rfl) (lenOf pd_4 rfl) rfl rfl (hb hby at_308) (pc' := 311) rfl ?_
                      intro T71 v71 L71 X71 hQ71
                      obtain ⟨rfl, Nq71, e71⟩ := hQ71
                      have N71 := Fr.app N70 Nq71
                      show Go p e below _ (T71.setTop (mkF m 311 _ [.int (-1 : Int32)]))
                      refine o_iconst X71 hx (-1 : Int32) (hb hby at_311) (pc' := 312) rfl (by decide) ?_
                      refine o_cmpY X71 hx (hb hby at_312) (teq (by decide : (-1 : Int32) = (-1 : Int32))).1 (by decide) (pc' := 317) (by decide) ?_
                      refine o_iload X71 hx (hb hby at_317) (pc' := 319) rfl rfl ?_
                      refine o_ifN X71 hx (hb hby at_319) (tlt (by decide : (0 : Int32) < (2 : Int32))).2.2.2 (pc' := 322) rfl ?_
                      refine o_iload X71 hx (hb hby at_322) (pc' := 324) rfl rfl ?_
                      refine o_ifN X71 hx (hb hby at_324) (feq (by decide : ¬ ((1 : Int32) = (0 : Int32)))).1 (pc' := 327) rfl ?_
                      refine o_iconst X71 hx (1 : Int32) (hb hby at_327) (pc' := 328) rfl (by decide) ?_
                      refine o_goto X71 hx (hb hby at_328) (by decide) (pc' := 332) (by decide) ?_
                      refine o_iload X71 hx (hb hby at_332) (pc' := 334) rfl rfl ?_
                      refine o_iconst X71 hx (1 : Int32) (hb hby at_334) (pc' := 335) rfl (by decide) ?_
                      refine o_cmpN X71 hx (hb hby at_335) (tlt (by decide : (1 : Int32) < (2 : Int32))).2.2.2 (pc' := 338) rfl ?_
                      refine o_iload X71 hx (hb hby at_338) (pc' := 340) rfl rfl ?_
                      refine o_iconst X71 hx (1 : Int32) (hb hby at_340) (pc' := 341) rfl (by decide) ?_
                      refine o_cmpY X71 hx (hb hby at_341) (teq (by decide : (1 : Int32) = (1 : Int32))).1 (by decide) (pc' := 348) (by decide) ?_
                      refine o_iconst X71 hx (0 : Int32) (hb hby at_348) (pc' := 349) rfl (by decide) ?_
                      refine o_iload X71 hx (hb hby at_349) (pc' := 351) rfl rfl ?_
                      refine o_iconst X71 hx (2 : Int32) (hb hby at_351) (pc' := 352) rfl (by decide) ?_
                      refine o_cmpY X71 hx (hb hby at_352) (flt (by decide : ¬ ((2 : Int32) < (2 : Int32)))).2.2.2 (by decide) (pc' := 365) (by decide) ?_
                      refine o_iconst X71 hx (0 : Int32) (hb hby at_365) (pc' := 366) rfl (by decide) ?_
                      refine o_iload X71 hx (hb hby at_366) (pc' := 368) rfl rfl ?_
                      refine o_iload X71 hx (hb hby at_368) (pc' := 370) rfl rfl ?_
                      refine o_iload X71 hx (hb hby at_370) (pc' := 372) rfl rfl ?_
                      refine o_lloadN X71 hx (hb hby at_372) (pc' := 373) rfl rfl ?_
                      refine o_lload X71 hx (hb hby at_373) (pc' := 375) rfl rfl ?_
                      refine o_lloadN X71 hx (hb hby at_375) (pc' := 376) rfl rfl ?_
                      refine o_lload X71 hx (hb hby at_376) (pc' := 378) rfl rfl ?_
                      refine o_lload X71 hx (hb hby at_378) (pc' := 380) rfl rfl ?_
                      refine o_lload X71 hx (hb hby at_380) (pc' := 382) rfl rfl ?_
                      refine o_callS X71 hx hZ 0 (argsL := [.int (1 : Int32), .int (0 : Int32), .int (0 : Int32), .int (0 : Int32), .int (-1 : Int32), .int (-1 : Int32), .long q0, .long (o0 q0 q1 q2 q3), .long q1, .long (1 : Int64), .long q2, .long (o1 q0 q1 q2 q3)]) (rest := []) hown (w 53 _ rfl) (w 54 _ rfl) (w 55 _ rfl) (w 56 _ rfl) (by decide) (rm10 l Z a0 hw [] (1 : Int32) (0 : Int32) (0 : Int32) (0 : Int32) (-1 : Int32) (-1 : Int32) q0 (o0 q0 q1 q2 q3) q1 (1 : Int64) q2 (o1 q0 q1 q2 q3) T66.heap n0 Z66 ) (by decide) (by decide) (cells' := 8) rfl (slots' := 33) rfl (by decide) (by decide) e71 (by rw [hml]; rfl) (lenOf pd_5 rfl) rfl rfl (hb hby at_382) (pc' := 385) rfl ?_
                      intro T72 v72 L72 X72 hQ72
                      obtain ⟨rfl, Nq72, e72⟩ := hQ72
                      have N72 := Fr.app N71 Nq72
                      show Go p e below _ (T72.setTop (mkF m 385 _ [.int (o3 (1 : Int32) (0 : Int32) (0 : Int32) (0 : Int32) (-1 : Int32) (-1 : Int32) q0 (o0 q0 q1 q2 q3) q1 (1 : Int64) q2 (o1 q0 q1 q2 q3))]))
                      rw [← hOWE]
                      exact o_retZ X72 hx (own_narZ (o24 (1 : Int32) (0 : Int32) (0 : Int32) (0 : Int32) (-1 : Int32) (-1 : Int32) q0 (o0 q0 q1 q2 q3) q1 (1 : Int64) q2 (o1 q0 q1 q2 q3))) hlk hrt (hb hby at_385) (by decide) (by decide) (by rw [e72]; exact ⟨(by rw [o7, o10, o9, o8, if_neg hs16, if_neg hs26, if_pos hs45, if_pos hm120_49, if_neg hc231_56, if_neg hs57, if_pos hs65]), N72⟩)
                    · have hs73 : (o4 q0 q1 q2 q3) = (2 : Int32) := (((o46 q0 q1 q2 q3)).resolve_left hs57).resolve_left hs65
                      rw [hs73]
                      refine o_iload X55 hx (hb hby at_236) (pc' := 238) rfl rfl ?_
                      refine o_iload X55 hx (hb hby at_238) (pc' := 240) rfl rfl ?_
                      refine o_cmpN X55 hx (hb hby at_240) (flt (by decide : ¬ ((2 : Int32) < (2 : Int32)))).1 (pc' := 243) rfl ?_
                      refine o_iconst X55 hx (1 : Int32) (hb hby at_243) (pc' := 244) rfl (by decide) ?_
                      rw [← hOWE]
                      exact o_retZ X55 hx rfl hlk hrt (hb hby at_244) (by decide) (by decide) (by rw [e55]; exact ⟨(by rw [o7, o10, o9, o8, if_neg hs16, if_neg hs26, if_pos hs45, if_pos hm120_49, if_neg hc231_56, if_neg hs57, if_neg hs65]), N55⟩)
              · obtain ⟨rfl, Nq48, Kq48, P48_0, P48_1, P48_2, P48_3, P48_4, P48_5, P48_6, P48_7, P48_8⟩ := hQ48
                have N48 := Fr.app N46 Nq48
                have E74_b4 := Exa.keep E47_b4 Kq48
                have E74_b6 := Exa.keep E47_b6 Kq48
                have E74_b8 := Exa.keep E47_b8 Kq48
                have E74_b10 := Exa.keep E47_b10 Kq48
                have Z48 : n0 ≤ T48.heap.size := Nat.le_trans Z46 Kq48.1
                show Go p e below _ (T48.setTop (mkF m 123 _ []))
                refine o_iload X48 hx (hb hby at_123) (pc' := 125) rfl rfl ?_
                refine o_iconst X48 hx (2 : Int32) (hb hby at_125) (pc' := 126) rfl (by decide) ?_
                refine o_cmpY X48 hx (hb hby at_126) (flt (by decide : ¬ ((2 : Int32) < (2 : Int32)))).2.2.2 (by decide) (pc' := 140) (by decide) ?_
                refine o_aload X48 hx (hb hby at_140) (pc' := 142) rfl rfl rfl ?_
                refine o_aload X48 hx (hb hby at_142) (pc' := 144) rfl rfl rfl ?_
                refine o_callV X48 hx hZ 0 (argsL := [.ref b4]) (rest := []) (a := b12) hown (w 48 _ rfl) (w 49 _ rfl) (w 51 _ rfl) (w 50 _ rfl) (w 4 _ rfl) (w 52 _ rfl) (by decide) (rm9s13 l Z a0 hw [] _ _ _ _ _ T48.heap n0 Z48 P48_0 P48_1 P48_5 E74_b6 E74_b4 P48_6 On14_0 ne_b12_bn14_0 (Ne.symm ne_b6_b12) (Ne.symm ne_b6_bn14_0) (Ne.symm ne_b4_b12) (Ne.symm ne_b4_bn14_0) (Ne.symm ne_b4_b6)) P48_0 (by decide) (by decide) (cells' := 8) rfl (slots' := 33) rfl (by decide) (by decide) rfl (by rw [hml]; rfl) (lenOf pd_4 rfl) rfl rfl (hb hby at_144) (pc' := 147) rfl ?_
                intro T75 v75 L75 X75 hQ75
                obtain ⟨rfl, Nq75, e75⟩ := hQ75
                have N75 := Fr.app N48 Nq75
                show Go p e below _ (T75.setTop (mkF m 147 _ [.int (1 : Int32)]))
                refine o_istore X75 hx (hb hby at_147) (pc' := 149) rfl (L' := #[.val (.long q0), .second, .val (.long q1), .second, .val (.long q2), .second, .val (.int q3), .val (.int (2 : Int32)), .val (.int (o4 q0 q1 q2 q3)), .val (.int (o2 q0 q1 q2 q3)), .val (.long (o0 q0 q1 q2 q3)), .second, .val (.long (1 : Int64)), .second, .val (.long (o1 q0 q1 q2 q3)), .second, .val (.ref b4), .val (.ref b6), .val (.ref b8), .val (.ref b10), .val (.ref b12), .val (.int (1 : Int32)), .unset, .unset, .unset, .unset, .unset, .unset]) rfl ?_
                refine o_aload X75 hx (hb hby at_149) (pc' := 151) rfl rfl rfl ?_
                refine o_aload X75 hx (hb hby at_151) (pc' := 153) rfl rfl rfl ?_
                refine o_callV X75 hx hZ 0 (argsL := [.ref b6]) (rest := []) (a := b12) hown (w 48 _ rfl) (w 49 _ rfl) (w 51 _ rfl) (w 50 _ rfl) (w 4 _ rfl) (w 52 _ rfl) (by decide) (rm9s12 l Z a0 hw [] _ _ _ _ _ T48.heap n0 Z48 P48_0 P48_1 P48_5 E74_b6 E74_b4 P48_6 On14_0 ne_b12_bn14_0 (Ne.symm ne_b6_b12) (Ne.symm ne_b6_bn14_0) (Ne.symm ne_b4_b12) (Ne.symm ne_b4_bn14_0) (Ne.symm ne_b4_b6)) P48_0 (by decide) (by decide) (cells' := 8) rfl (slots' := 33) rfl (by decide) (by decide) e75 (by rw [hml]; rfl) (lenOf pd_4 rfl) rfl rfl (hb hby at_153) (pc' := 156) rfl ?_
                intro T76 v76 L76 X76 hQ76
                obtain ⟨rfl, Nq76, e76⟩ := hQ76
                have N76 := Fr.app N75 Nq76
                show Go p e below _ (T76.setTop (mkF m 156 _ [.int (0 : Int32)]))
                refine o_istore X76 hx (hb hby at_156) (pc' := 158) rfl (L' := #[.val (.long q0), .second, .val (.long q1), .second, .val (.long q2), .second, .val (.int q3), .val (.int (2 : Int32)), .val (.int (o4 q0 q1 q2 q3)), .val (.int (o2 q0 q1 q2 q3)), .val (.long (o0 q0 q1 q2 q3)), .second, .val (.long (1 : Int64)), .second, .val (.long (o1 q0 q1 q2 q3)), .second, .val (.ref b4), .val (.ref b6), .val (.ref b8), .val (.ref b10), .val (.ref b12), .val (.int (1 : Int32)), .val (.int (0 : Int32)), .unset, .unset, .unset, .unset, .unset]) rfl ?_
                refine o_aload X76 hx (hb hby at_158) (pc' := 160) rfl rfl rfl ?_
                refine o_aload X76 hx (hb hby at_160) (pc' := 162) rfl rfl rfl ?_
                refine o_callV X76 hx hZ 0 (argsL := [.ref b8]) (rest := []) (a := b12) hown (w 48 _ rfl) (w 49 _ rfl) (w 51 _ rfl) (w 50 _ rfl) (w 4 _ rfl) (w 52 _ rfl) (by decide) (rm9s14 l Z a0 hw [] _ _ _ _ _ _ T48.heap n0 Z48 P48_0 P48_1 P48_5 E74_b6 E74_b4 E74_b8 P48_6 On14_0 ne_b12_bn14_0 (Ne.symm ne_b6_b12) (Ne.symm ne_b6_bn14_0) (Ne.symm ne_b4_b12) (Ne.symm ne_b4_bn14_0) (Ne.symm ne_b4_b6) (Ne.symm ne_b8_b12) (Ne.symm ne_b8_bn14_0) ne_b6_b8 ne_b4_b8) P48_0 (by decide) (by decide) (cells' := 8) rfl (slots' := 33) rfl (by decide) (by decide) e76 (by rw [hml]; rfl) (lenOf pd_4 rfl) rfl rfl (hb hby at_162) (pc' := 165) rfl ?_
                intro T77 v77 L77 X77 hQ77
                obtain ⟨rfl, Nq77, e77⟩ := hQ77
                have N77 := Fr.app N76 Nq77
                show Go p e below _ (T77.setTop (mkF m 165 _ [.int (-1 : Int32)]))
                refine o_istore X77 hx (hb hby at_165) (pc' := 167) rfl (L' := #[.val (.long q0), .second, .val (.long q1), .second, .val (.long q2), .second, .val (.int q3), .val (.int (2 : Int32)), .val (.int (o4 q0 q1 q2 q3)), .val (.int (o2 q0 q1 q2 q3)), .val (.long (o0 q0 q1 q2 q3)), .second, .val (.long (1 : Int64)), .second, .val (.long (o1 q0 q1 q2 q3)), .second, .val (.ref b4), .val (.ref b6), .val (.ref b8), .val (.ref b10), .val (.ref b12), .val (.int (1 : Int32)), .val (.int (0 : Int32)), .val (.int (-1 : Int32)), .unset, .unset, .unset, .unset]) rfl ?_
                refine o_aload X77 hx (hb hby at_167) (pc' := 169) rfl rfl rfl ?_
                refine o_aload X77 hx (hb hby at_169) (pc' := 171) rfl rfl rfl ?_
                refine o_callV X77 hx hZ 0 (argsL := [.ref b10]) (rest := []) (a := b12) hown (w 48 _ rfl) (w 49 _ rfl) (w 51 _ rfl) (w 50 _ rfl) (w 4 _ rfl) (w 52 _ rfl) (by decide) (rm9s14 l Z a0 hw [] _ _ _ _ _ _ T48.heap n0 Z48 P48_0 P48_1 P48_5 E74_b6 E74_b4 E74_b10 P48_6 On14_0 ne_b12_bn14_0 (Ne.symm ne_b6_b12) (Ne.symm ne_b6_bn14_0) (Ne.symm ne_b4_b12) (Ne.symm ne_b4_bn14_0) (Ne.symm ne_b4_b6) (Ne.symm ne_b10_b12) (Ne.symm ne_b10_bn14_0) ne_b6_b10 ne_b4_b10) P48_0 (by decide) (by decide) (cells' := 8) rfl (slots' := 33) rfl (by decide) (by decide) e77 (by rw [hml]; rfl) (lenOf pd_4 rfl) rfl rfl (hb hby at_171) (pc' := 174) rfl ?_
                intro T78 v78 L78 X78 hQ78
                obtain ⟨rfl, Nq78, e78⟩ := hQ78
                have N78 := Fr.app N77 Nq78
                show Go p e below _ (T78.setTop (mkF m 174 _ [.int (-1 : Int32)]))
                refine o_iconst X78 hx (-1 : Int32) (hb hby at_174) (pc' := 175) rfl (by decide) ?_
                refine o_cmpY X78 hx (hb hby at_175) (teq (by decide : (-1 : Int32) = (-1 : Int32))).1 (by decide) (pc' := 180) (by decide) ?_
                refine o_iload X78 hx (hb hby at_180) (pc' := 182) rfl rfl ?_
                refine o_ifN X78 hx (hb hby at_182) (tlt (by decide : (0 : Int32) < (2 : Int32))).2.2.2 (pc' := 185) rfl ?_
                refine o_iconst X78 hx (1 : Int32) (hb hby at_185) (pc' := 186) rfl (by decide) ?_
                refine o_goto X78 hx (hb hby at_186) (by decide) (pc' := 190) (by decide) ?_
                refine o_iload X78 hx (hb hby at_190) (pc' := 192) rfl rfl ?_
                refine o_iconst X78 hx (1 : Int32) (hb hby at_192) (pc' := 193) rfl (by decide) ?_
                refine o_cmpN X78 hx (hb hby at_193) (tlt (by decide : (1 : Int32) < (2 : Int32))).2.2.2 (pc' := 196) rfl ?_
                refine o_iconst X78 hx (1 : Int32) (hb hby at_196) (pc' := 197) rfl (by decide) ?_
                refine o_goto X78 hx (hb hby at_197) (by decide) (pc' := 201) (by decide) ?_
                refine o_iload X78 hx (hb hby at_201) (pc' := 203) rfl rfl ?_
                refine o_iconst X78 hx (2 : Int32) (hb hby at_203) (pc' := 204) rfl (by decide) ?_
                refine o_cmpY X78 hx (hb hby at_204) (flt (by decide : ¬ ((2 : Int32) < (2 : Int32)))).2.2.2 (by decide) (pc' := 211) (by decide) ?_
                refine o_iconst X78 hx (0 : Int32) (hb hby at_211) (pc' := 212) rfl (by decide) ?_
                refine o_iload X78 hx (hb hby at_212) (pc' := 214) rfl rfl ?_
                refine o_iload X78 hx (hb hby at_214) (pc' := 216) rfl rfl ?_
                refine o_iload X78 hx (hb hby at_216) (pc' := 218) rfl rfl ?_
                refine o_lloadN X78 hx (hb hby at_218) (pc' := 219) rfl rfl ?_
                refine o_lload X78 hx (hb hby at_219) (pc' := 221) rfl rfl ?_
                refine o_lloadN X78 hx (hb hby at_221) (pc' := 222) rfl rfl ?_
                refine o_lload X78 hx (hb hby at_222) (pc' := 224) rfl rfl ?_
                refine o_lload X78 hx (hb hby at_224) (pc' := 226) rfl rfl ?_
                refine o_lload X78 hx (hb hby at_226) (pc' := 228) rfl rfl ?_
                refine o_callS X78 hx hZ 0 (argsL := [.int (1 : Int32), .int (1 : Int32), .int (0 : Int32), .int (1 : Int32), .int (0 : Int32), .int (-1 : Int32), .long q0, .long (o0 q0 q1 q2 q3), .long q1, .long (1 : Int64), .long q2, .long (o1 q0 q1 q2 q3)]) (rest := []) hown (w 53 _ rfl) (w 54 _ rfl) (w 55 _ rfl) (w 56 _ rfl) (by decide) (rm10 l Z a0 hw [] (1 : Int32) (1 : Int32) (0 : Int32) (1 : Int32) (0 : Int32) (-1 : Int32) q0 (o0 q0 q1 q2 q3) q1 (1 : Int64) q2 (o1 q0 q1 q2 q3) T48.heap n0 Z48 ) (by decide) (by decide) (cells' := 8) rfl (slots' := 33) rfl (by decide) (by decide) e78 (by rw [hml]; rfl) (lenOf pd_5 rfl) rfl rfl (hb hby at_228) (pc' := 231) rfl ?_
                intro T79 v79 L79 X79 hQ79
                obtain ⟨rfl, Nq79, e79⟩ := hQ79
                have N79 := Fr.app N78 Nq79
                show Go p e below _ (T79.setTop (mkF m 231 _ [.int (o3 (1 : Int32) (1 : Int32) (0 : Int32) (1 : Int32) (0 : Int32) (-1 : Int32) q0 (o0 q0 q1 q2 q3) q1 (1 : Int64) q2 (o1 q0 q1 q2 q3))]))
                by_cases hc231_80 : (o3 (1 : Int32) (1 : Int32) (0 : Int32) (1 : Int32) (0 : Int32) (-1 : Int32) q0 (o0 q0 q1 q2 q3) q1 (1 : Int64) q2 (o1 q0 q1 q2 q3)) = (0 : Int32)
                · refine o_ifN X79 hx (hb hby at_231) (teq hc231_80).2 (pc' := 234) rfl ?_
                  refine o_iconst X79 hx (0 : Int32) (hb hby at_234) (pc' := 235) rfl (by decide) ?_
                  rw [← hOWE]
                  exact o_retZ X79 hx rfl hlk hrt (hb hby at_235) (by decide) (by decide) (by rw [e79]; exact ⟨(by rw [o7, o10, o9, o8, if_neg hs16, if_neg hs26, if_pos hs45, if_neg hm120_49, if_pos hc231_80]), N79⟩)
                · refine o_ifY X79 hx (hb hby at_231) (feq hc231_80).2 (by decide) (pc' := 236) (by decide) ?_
                  by_cases hs81 : (o4 q0 q1 q2 q3) = (0 : Int32)
                  · rw [hs81]
                    refine o_iload X79 hx (hb hby at_236) (pc' := 238) rfl rfl ?_
                    refine o_iload X79 hx (hb hby at_238) (pc' := 240) rfl rfl ?_
                    refine o_cmpY X79 hx (hb hby at_240) (tlt (by decide : (0 : Int32) < (2 : Int32))).1 (by decide) (pc' := 245) (by decide) ?_
                    refine o_iload X79 hx (hb hby at_245) (pc' := 247) rfl rfl ?_
                    refine o_ifN X79 hx (hb hby at_247) (teq (by decide : (0 : Int32) = (0 : Int32))).2 (pc' := 250) rfl ?_
                    refine o_iload X79 hx (hb hby at_250) (pc' := 252) rfl rfl ?_
                    refine o_goto X79 hx (hb hby at_252) (by decide) (pc' := 268) (by decide) ?_
                    refine o_istore X79 hx (hb hby at_268) (pc' := 270) rfl (L' := #[.val (.long q0), .second, .val (.long q1), .second, .val (.long q2), .second, .val (.int q3), .val (.int (2 : Int32)), .val (.int (0 : Int32)), .val (.int (o2 q0 q1 q2 q3)), .val (.long (o0 q0 q1 q2 q3)), .second, .val (.long (1 : Int64)), .second, .val (.long (o1 q0 q1 q2 q3)), .second, .val (.ref b4), .val (.ref b6), .val (.ref b8), .val (.ref b10), .val (.ref b12), .val (.int (1 : Int32)), .val (.int (0 : Int32)), .val (.int (-1 : Int32)), .val (.int (1 : Int32)), .unset, .unset, .unset]) rfl ?_
                    refine o_aload X79 hx (hb hby at_270) (pc' := 272) rfl rfl rfl ?_
                    refine o_iload X79 hx (hb hby at_272) (pc' := 274) rfl rfl ?_
                    refine o_callV X79 hx hZ 0 (argsL := [.int (1 : Int32)]) (rest := []) (a := b12) hown (w 63 _ rfl) (w 64 _ rfl) (w 66 _ rfl) (w 65 _ rfl) (w 4 _ rfl) (w 67 _ rfl) (by decide) (rm13s18 l Z a0 hw [] _ _ _ _ _ _ _ _ _ _ _ _ _ _ _ _ _ _ _ _ _ _ _ _ _ T48.heap n0 Z48 P48_0 P48_1 P48_2 P48_3 P48_4 P48_5 g_b12 E74_b6 E74_b4 P48_6 On14_0 gn14_0 P48_7 gn14_1 P48_8 gn14_2 ne_b12_bn14_0 (Ne.symm ne_b6_b12) (Ne.symm ne_b6_bn14_0) (Ne.symm ne_b4_b12) (Ne.symm ne_b4_bn14_0) (Ne.symm ne_b4_b6) ne_b12_bn14_1 nn14_0_1 ne_b6_bn14_1 ne_b4_bn14_1 ne_b12_bn14_2 nn14_0_2 ne_b6_bn14_2 ne_b4_bn14_2 nn14_1_2) P48_0 (by decide) (by decide) (cells' := 8) rfl (slots' := 33) rfl (by decide) (by decide) e79 (by rw [hml]; rfl) (lenOf pd_10 rfl) rfl rfl (hb hby at_274) (pc' := 277) rfl ?_
                    intro T82 v82 L82 X82 hQ82
                    obtain ⟨rfl, Nq82, Kq82, P82_0, P82_1, P82_2, P82_3, P82_4, P82_5, P82_6, P82_7, P82_8⟩ := hQ82
                    have N82 := Fr.app N79 Nq82
                    have E83_b4 := Exa.keep E74_b4 Kq82
                    have E83_b6 := Exa.keep E74_b6 Kq82
                    have E83_b8 := Exa.keep E74_b8 Kq82
                    have E83_b10 := Exa.keep E74_b10 Kq82
                    have Z82 : n0 ≤ T82.heap.size := Nat.le_trans Z48 Kq82.1
                    show Go p e below _ (T82.setTop (mkF m 277 _ []))
                    refine o_aload X82 hx (hb hby at_277) (pc' := 279) rfl rfl rfl ?_
                    refine o_aload X82 hx (hb hby at_279) (pc' := 281) rfl rfl rfl ?_
                    refine o_callV X82 hx hZ 0 (argsL := [.ref b4]) (rest := []) (a := b12) hown (w 48 _ rfl) (w 49 _ rfl) (w 51 _ rfl) (w 50 _ rfl) (w 4 _ rfl) (w 52 _ rfl) (by decide) (rm9s6 l Z a0 hw [] _ _ _ _ _ T82.heap n0 Z82 P82_0 P82_1 P82_5 E83_b6 E83_b4 P82_6 On14_0 ne_b12_bn14_0 (Ne.symm ne_b6_b12) (Ne.symm ne_b6_bn14_0) (Ne.symm ne_b4_b12) (Ne.symm ne_b4_bn14_0) (Ne.symm ne_b4_b6)) P82_0 (by decide) (by decide) (cells' := 8) rfl (slots' := 33) rfl (by decide) (by decide) rfl (by rw [hml]; rfl) (lenOf pd_4 rfl) rfl rfl (hb hby at_281) (pc' := 284) rfl ?_
                    intro T84 v84 L84 X84 hQ84
                    obtain ⟨rfl, Nq84, e84⟩ := hQ84
                    have N84 := Fr.app N82 Nq84
                    show Go p e below _ (T84.setTop (mkF m 284 _ [.int (-1 : Int32)]))
                    refine o_istore X84 hx (hb hby at_284) (pc' := 286) rfl (L' := #[.val (.long q0), .second, .val (.long q1), .second, .val (.long q2), .second, .val (.int q3), .val (.int (2 : Int32)), .val (.int (0 : Int32)), .val (.int (o2 q0 q1 q2 q3)), .val (.long (o0 q0 q1 q2 q3)), .second, .val (.long (1 : Int64)), .second, .val (.long (o1 q0 q1 q2 q3)), .second, .val (.ref b4), .val (.ref b6), .val (.ref b8), .val (.ref b10), .val (.ref b12), .val (.int (1 : Int32)), .val (.int (0 : Int32)), .val (.int (-1 : Int32)), .val (.int (1 : Int32)), .val (.int (-1 : Int32)), .unset, .unset]) rfl ?_
                    refine o_aload X84 hx (hb hby at_286) (pc' := 288) rfl rfl rfl ?_
                    refine o_aload X84 hx (hb hby at_288) (pc' := 290) rfl rfl rfl ?_
                    refine o_callV X84 hx hZ 0 (argsL := [.ref b6]) (rest := []) (a := b12) hown (w 48 _ rfl) (w 49 _ rfl) (w 51 _ rfl) (w 50 _ rfl) (w 4 _ rfl) (w 52 _ rfl) (by decide) (rm9s5 l Z a0 hw [] _ _ _ _ T82.heap n0 Z82 P82_0 P82_1 P82_5 E83_b6 P82_6 On14_0 ne_b12_bn14_0 (Ne.symm ne_b6_b12) (Ne.symm ne_b6_bn14_0)) P82_0 (by decide) (by decide) (cells' := 8) rfl (slots' := 33) rfl (by decide) (by decide) e84 (by rw [hml]; rfl) (lenOf pd_4 rfl) rfl rfl (hb hby at_290) (pc' := 293) rfl ?_
                    intro T85 v85 L85 X85 hQ85
                    obtain ⟨rfl, Nq85, e85⟩ := hQ85
                    have N85 := Fr.app N84 Nq85
                    show Go p e below _ (T85.setTop (mkF m 293 _ [.int (0 : Int32)]))
                    refine o_istore X85 hx (hb hby at_293) (pc' := 295) rfl (L' := #[.val (.long q0), .second, .val (.long q1), .second, .val (.long q2), .second, .val (.int q3), .val (.int (2 : Int32)), .val (.int (0 : Int32)), .val (.int (o2 q0 q1 q2 q3)), .val (.long (o0 q0 q1 q2 q3)), .second, .val (.long (1 : Int64)), .second, .val (.long (o1 q0 q1 q2 q3)), .second, .val (.ref b4), .val (.ref b6), .val (.ref b8), .val (.ref b10), .val (.ref b12), .val (.int (1 : Int32)), .val (.int (0 : Int32)), .val (.int (-1 : Int32)), .val (.int (1 : Int32)), .val (.int (-1 : Int32)), .val (.int (0 : Int32)), .unset]) rfl ?_
                    refine o_aload X85 hx (hb hby at_295) (pc' := 297) rfl rfl rfl ?_
                    refine o_aload X85 hx (hb hby at_297) (pc' := 299) rfl rfl rfl ?_
                    refine o_callV X85 hx hZ 0 (argsL := [.ref b8]) (rest := []) (a := b12) hown (w 48 _ rfl) (w 49 _ rfl) (w 51 _ rfl) (w 50 _ rfl) (w 4 _ rfl) (w 52 _ rfl) (by decide) (rm9s6 l Z a0 hw [] _ _ _ _ _ T82.heap n0 Z82 P82_0 P82_1 P82_5 E83_b6 E83_b8 P82_6 On14_0 ne_b12_bn14_0 (Ne.symm ne_b6_b12) (Ne.symm ne_b6_bn14_0) (Ne.symm ne_b8_b12) (Ne.symm ne_b8_bn14_0) ne_b6_b8) P82_0 (by decide) (by decide) (cells' := 8) rfl (slots' := 33) rfl (by decide) (by decide) e85 (by rw [hml]; rfl) (lenOf pd_4 rfl) rfl rfl (hb hby at_299) (pc' := 302) rfl ?_
                    intro T86 v86 L86 X86 hQ86
                    obtain ⟨rfl, Nq86, e86⟩ := hQ86
                    have N86 := Fr.app N85 Nq86
                    show Go p e below _ (T86.setTop (mkF m 302 _ [.int (-1 : Int32)]))
                    refine o_istore X86 hx (hb hby at_302) (pc' := 304) rfl (L' := #[.val (.long q0), .second, .val (.long q1), .second, .val (.long q2), .second, .val (.int q3), .val (.int (2 : Int32)), .val (.int (0 : Int32)), .val (.int (o2 q0 q1 q2 q3)), .val (.long (o0 q0 q1 q2 q3)), .second, .val (.long (1 : Int64)), .second, .val (.long (o1 q0 q1 q2 q3)), .second, .val (.ref b4), .val (.ref b6), .val (.ref b8), .val (.ref b10), .val (.ref b12), .val (.int (1 : Int32)), .val (.int (0 : Int32)), .val (.int (-1 : Int32)), .val (.int (1 : Int32)), .val (.int (-1 : Int32)), .val (.int (0 : Int32)), .val (.int (-1 : Int32))]) rfl ?_
                    refine o_aload X86 hx (hb hby at_304) (pc' := 306) rfl rfl rfl ?_
                    refine o_aload X86 hx (hb hby at_306) (pc' := 308) rfl rfl rfl ?_
                    refine o_callV X86 hx hZ 0 (argsL := [.ref b10]) (rest := []) (a := b12) hown (w 48 _ rfl) (w 49 _ rfl) (w 51 _ rfl) (w 50 _ rfl) (w 4 _ rfl) (w 52 _ rfl) (by decide) (rm9s6 l Z a0 hw [] _ _ _ _ _ T82.heap n0 Z82 P82_0 P82_1 P82_5 E83_b6 E83_b10 P82_6 On14_0 ne_b12_bn14_0 (Ne.symm ne_b6_b12) (Ne.symm ne_b6_bn14_0) (Ne.symm ne_b10_b12) (Ne.symm ne_b10_bn14_0) ne_b6_b10) P82_0 (by decide) (by decide) (cells' := 8) rfl (slots' := 33) rfl (by decide) (by decide) e86 (by rw [hml]; rfl) (lenOf pd_4 rfl) rfl rfl (hb hby at_308) (pc' := 311) rfl ?_
                    intro T87 v87 L87 X87 hQ87
                    obtain ⟨rfl, Nq87, e87⟩ := hQ87
                    have N87 := Fr.app N86 Nq87
                    show Go p e below _ (T87.setTop (mkF m 311 _ [.int (-1 : Int32)]))
                    refine o_iconst X87 hx (-1 : Int32) (hb hby at_311) (pc' := 312) rfl (by decide) ?_
                    refine o_cmpY X87 hx (hb hby at_312) (teq (by decide : (-1 : Int32) = (-1 : Int32))).1 (by decide) (pc' := 317) (by decide) ?_
                    refine o_iload X87 hx (hb hby at_317) (pc' := 319) rfl rfl ?_
                    refine o_ifN X87 hx (hb hby at_319) (tlt (by decide : (0 : Int32) < (2 : Int32))).2.2.2 (pc' := 322) rfl ?_
                    refine o_iload X87 hx (hb hby at_322) (pc' := 324) rfl rfl ?_
                    refine o_ifY X87 hx (hb hby at_324) (teq (by decide : (0 : Int32) = (0 : Int32))).1 (by decide) (pc' := 331) (by decide) ?_
                    refine o_iconst X87 hx (0 : Int32) (hb hby at_331) (pc' := 332) rfl (by decide) ?_
                    refine o_iload X87 hx (hb hby at_332) (pc' := 334) rfl rfl ?_
                    refine o_iconst X87 hx (1 : Int32) (hb hby at_334) (pc' := 335) rfl (by decide) ?_
                    refine o_cmpN X87 hx (hb hby at_335) (tlt (by decide : (1 : Int32) < (2 : Int32))).2.2.2 (pc' := 338) rfl ?_
                    refine o_iload X87 hx (hb hby at_338) (pc' := 340) rfl rfl ?_
                    refine o_iconst X87 hx (1 : Int32) (hb hby at_340) (pc' := 341) rfl (by decide) ?_
                    refine o_cmpN X87 hx (hb hby at_341) (feq (by decide : ¬ ((0 : Int32) = (1 : Int32)))).1 (pc' := 344) rfl ?_
                    refine o_iconst X87 hx (1 : Int32) (hb hby at_344) (pc' := 345) rfl (by decide) ?_
                    refine o_goto X87 hx (hb hby at_345) (by decide) (pc' := 349) (by decide) ?_
                    refine o_iload X87 hx (hb hby at_349) (pc' := 351) rfl rfl ?_
                    refine o_iconst X87 hx (2 : Int32) (hb hby at_351) (pc' := 352) rfl (by decide) ?_
                    refine o_cmpY X87 hx (hb hby at_352) (flt (by decide : ¬ ((2 : Int32) < (2 : Int32)))).2.2.2 (by decide) (pc' := 365) (by decide) ?_
                    refine o_iconst X87 hx (0 : Int32) (hb hby at_365) (pc' := 366) rfl (by decide) ?_
                    refine o_iload X87 hx (hb hby at_366) (pc' := 368) rfl rfl ?_
                    refine o_iload X87 hx (hb hby at_368) (pc' := 370) rfl rfl ?_
                    refine o_iload X87 hx (hb hby at_370) (pc' := 372) rfl rfl ?_
                    refine o_lloadN X87 hx (hb hby at_372) (pc' := 373) rfl rfl ?_
                    refine o_lload X87 hx (hb hby at_373) (pc' := 375) rfl rfl ?_
                    refine o_lloadN X87 hx (hb hby at_375) (pc' := 376) rfl rfl ?_
                    refine o_lload X87 hx (hb hby at_376) (pc' := 378) rfl rfl ?_
                    refine o_lload X87 hx (hb hby at_378) (pc' := 380) rfl rfl ?_
                    refine o_lload X87 hx (hb hby at_380) (pc' := 382) rfl rfl ?_
                    refine o_callS X87 hx hZ 0 (argsL := [.int (0 : Int32), .int (1 : Int32), .int (0 : Int32), .int (-1 : Int32), .int (0 : Int32), .int (-1 : Int32), .long q0, .long (o0 q0 q1 q2 q3), .long q1, .long (1 : Int64), .long q2, .long (o1 q0 q1 q2 q3)]) (rest := []) hown (w 53 _ rfl) (w 54 _ rfl) (w 55 _ rfl) (w 56 _ rfl) (by decide) (rm10 l Z a0 hw [] (0 : Int32) (1 : Int32) (0 : Int32) (-1 : Int32) (0 : Int32) (-1 : Int32) q0 (o0 q0 q1 q2 q3) q1 (1 : Int64) q2 (o1 q0 q1 q2 q3) T82.heap n0 Z82 ) (by decide) (by decide) (cells' := 8) rfl (slots' := 33) rfl (by decide) (by decide) e87 (by rw [hml]; rfl) (lenOf pd_5 rfl) rfl rfl (hb hby at_382) (pc' := 385) rfl ?_
                    intro T88 v88 L88 X88 hQ88
                    obtain ⟨rfl, Nq88, e88⟩ := hQ88
                    have N88 := Fr.app N87 Nq88
                    show Go p e below _ (T88.setTop (mkF m 385 _ [.int (o3 (0 : Int32) (1 : Int32) (0 : Int32) (-1 : Int32) (0 : Int32) (-1 : Int32) q0 (o0 q0 q1 q2 q3) q1 (1 : Int64) q2 (o1 q0 q1 q2 q3))]))
                    rw [← hOWE]
                    exact o_retZ X88 hx (own_narZ (o24 (0 : Int32) (1 : Int32) (0 : Int32) (-1 : Int32) (0 : Int32) (-1 : Int32) q0 (o0 q0 q1 q2 q3) q1 (1 : Int64) q2 (o1 q0 q1 q2 q3))) hlk hrt (hb hby at_385) (by decide) (by decide) (by rw [e88]; exact ⟨(by rw [o7, o10, o9, o8, if_neg hs16, if_neg hs26, if_pos hs45, if_neg hm120_49, if_neg hc231_80, if_pos hs81]), N88⟩)
                  · by_cases hs89 : (o4 q0 q1 q2 q3) = (1 : Int32)
                    · rw [hs89]
                      refine o_iload X79 hx (hb hby at_236) (pc' := 238) rfl rfl ?_
                      refine o_iload X79 hx (hb hby at_238) (pc' := 240) rfl rfl ?_
                      refine o_cmpY X79 hx (hb hby at_240) (tlt (by decide : (1 : Int32) < (2 : Int32))).1 (by decide) (pc' := 245) (by decide) ?_
                      refine o_iload X79 hx (hb hby at_245) (pc' := 247) rfl rfl ?_
                      refine o_ifY X79 hx (hb hby at_247) (feq (by decide : ¬ ((1 : Int32) = (0 : Int32)))).2 (by decide) (pc' := 255) (by decide) ?_
                      refine o_iload X79 hx (hb hby at_255) (pc' := 257) rfl rfl ?_
                      refine o_iconst X79 hx (1 : Int32) (hb hby at_257) (pc' := 258) rfl (by decide) ?_
                      refine o_cmpN X79 hx (hb hby at_258) (teq (by decide : (1 : Int32) = (1 : Int32))).2 (pc' := 261) rfl ?_
                      refine o_iload X79 hx (hb hby at_261) (pc' := 263) rfl rfl ?_
                      refine o_goto X79 hx (hb hby at_263) (by decide) (pc' := 268) (by decide) ?_
                      refine o_istore X79 hx (hb hby at_268) (pc' := 270) rfl (L' := #[.val (.long q0), .second, .val (.long q1), .second, .val (.long q2), .second, .val (.int q3), .val (.int (2 : Int32)), .val (.int (1 : Int32)), .val (.int (o2 q0 q1 q2 q3)), .val (.long (o0 q0 q1 q2 q3)), .second, .val (.long (1 : Int64)), .second, .val (.long (o1 q0 q1 q2 q3)), .second, .val (.ref b4), .val (.ref b6), .val (.ref b8), .val (.ref b10), .val (.ref b12), .val (.int (1 : Int32)), .val (.int (0 : Int32)), .val (.int (-1 : Int32)), .val (.int (0 : Int32)), .unset, .unset, .unset]) rfl ?_
                      refine o_aload X79 hx (hb hby at_270) (pc' := 272) rfl rfl rfl ?_
                      refine o_iload X79 hx (hb hby at_272) (pc' := 274) rfl rfl ?_
                      refine o_callV X79 hx hZ 0 (argsL := [.int (0 : Int32)]) (rest := []) (a := b12) hown (w 63 _ rfl) (w 64 _ rfl) (w 66 _ rfl) (w 65 _ rfl) (w 4 _ rfl) (w 67 _ rfl) (by decide) (rm13s15 l Z a0 hw [] _ _ _ _ _ _ _ _ _ _ _ _ _ _ _ _ _ _ _ _ _ _ _ _ _ T48.heap n0 Z48 P48_0 P48_1 P48_2 P48_3 P48_4 P48_5 g_b12 E74_b6 E74_b4 P48_6 On14_0 gn14_0 P48_7 gn14_1 P48_8 gn14_2 ne_b12_bn14_0 (Ne.symm ne_b6_b12) (Ne.symm ne_b6_bn14_0) (Ne.symm ne_b4_b12) (Ne.symm ne_b4_bn14_0) (Ne.symm ne_b4_b6) ne_b12_bn14_1 nn14_0_1 ne_b6_bn14_1 ne_b4_bn14_1 ne_b12_bn14_2 nn14_0_2 ne_b6_bn14_2 ne_b4_bn14_2 nn14_1_2) P48_0 (by decide) (by decide) (cells' := 8) rfl (slots' := 33) rfl (by decide) (by decide) e79 (by rw [hml]; rfl) (lenOf pd_10 rfl) rfl rfl (hb hby at_274) (pc' := 277) rfl ?_
                      intro T90 v90 L90 X90 hQ90
                      obtain ⟨rfl, Nq90, Kq90, P90_0, P90_1, P90_2, P90_3, P90_4, P90_5, P90_6, P90_7, P90_8⟩ := hQ90
                      have N90 := Fr.app N79 Nq90
                      have E91_b4 := Exa.keep E74_b4 Kq90
                      have E91_b6 := Exa.keep E74_b6 Kq90
                      have E91_b8 := Exa.keep E74_b8 Kq90
                      have E91_b10 := Exa.keep E74_b10 Kq90
                      have Z90 : n0 ≤ T90.heap.size := Nat.le_trans Z48 Kq90.1
                      show Go p e below _ (T90.setTop (mkF m 277 _ []))
                      refine o_aload X90 hx (hb hby at_277) (pc' := 279) rfl rfl rfl ?_
                      refine o_aload X90 hx (hb hby at_279) (pc' := 281) rfl rfl rfl ?_
                      refine o_callV X90 hx hZ 0 (argsL := [.ref b4]) (rest := []) (a := b12) hown (w 48 _ rfl) (w 49 _ rfl) (w 51 _ rfl) (w 50 _ rfl) (w 4 _ rfl) (w 52 _ rfl) (by decide) (rm9s5 l Z a0 hw [] _ _ _ _ T90.heap n0 Z90 P90_0 P90_1 P90_5 E91_b4 P90_6 On14_0 ne_b12_bn14_0 (Ne.symm ne_b4_b12) (Ne.symm ne_b4_bn14_0)) P90_0 (by decide) (by decide) (cells' := 8) rfl (slots' := 33) rfl (by decide) (by decide) rfl (by rw [hml]; rfl) (lenOf pd_4 rfl) rfl rfl (hb hby at_281) (pc' := 284) rfl ?_
                      intro T92 v92 L92 X92 hQ92
                      obtain ⟨rfl, Nq92, e92⟩ := hQ92
                      have N92 := Fr.app N90 Nq92
                      show Go p e below _ (T92.setTop (mkF m 284 _ [.int (0 : Int32)]))
                      refine o_istore X92 hx (hb hby at_284) (pc' := 286) rfl (L' := #[.val (.long q0), .second, .val (.long q1), .second, .val (.long q2), .second, .val (.int q3), .val (.int (2 : Int32)), .val (.int (1 : Int32)), .val (.int (o2 q0 q1 q2 q3)), .val (.long (o0 q0 q1 q2 q3)), .second, .val (.long (1 : Int64)), .second, .val (.long (o1 q0 q1 q2 q3)), .second, .val (.ref b4), .val (.ref b6), .val (.ref b8), .val (.ref b10), .val (.ref b12), .val (.int (1 : Int32)), .val (.int (0 : Int32)), .val (.int (-1 : Int32)), .val (.int (0 : Int32)), .val (.int (0 : Int32)), .unset, .unset]) rfl ?_
                      refine o_aload X92 hx (hb hby at_286) (pc' := 288) rfl rfl rfl ?_
                      refine o_aload X92 hx (hb hby at_288) (pc' := 290) rfl rfl rfl ?_
                      refine o_callV X92 hx hZ 0 (argsL := [.ref b6]) (rest := []) (a := b12) hown (w 48 _ rfl) (w 49 _ rfl) (w 51 _ rfl) (w 50 _ rfl) (w 4 _ rfl) (w 52 _ rfl) (by decide) (rm9s6 l Z a0 hw [] _ _ _ _ _ T90.heap n0 Z90 P90_0 P90_1 P90_5 E91_b4 E91_b6 P90_6 On14_0 ne_b12_bn14_0 (Ne.symm ne_b4_b12) (Ne.symm ne_b4_bn14_0) (Ne.symm ne_b6_b12) (Ne.symm ne_b6_bn14_0) ne_b4_b6) P90_0 (by decide) (by decide) (cells' := 8) rfl (slots' := 33) rfl (by decide) (by decide) e92 (by rw [hml]; rfl) (lenOf pd_4 rfl) rfl rfl (hb hby at_290) (pc' := 293) rfl ?_
                      intro T93 v93 L93 X93 hQ93
                      obtain ⟨rfl, Nq93, e93⟩ := hQ93
                      have N93 := Fr.app N92 Nq93
                      show Go p e below _ (T93.setTop (mkF m 293 _ [.int (-1 : Int32)]))
                      refine o_istore X93 hx (hb hby at_293) (pc' := 295) rfl (L' := #[.val (.long q0), .second, .val (.long q1), .second, .val (.long q2), .second, .val (.int q3), .val (.int (2 : Int32)), .val (.int (1 : Int32)), .val (.int (o2 q0 q1 q2 q3)), .val (.long (o0 q0 q1 q2 q3)), .second, .val (.long (1 : Int64)), .second, .val (.long (o1 q0 q1 q2 q3)), .second, .val (.ref b4), .val (.ref b6), .val (.ref b8), .val (.ref b10), .val (.ref b12), .val (.int (1 : Int32)), .val (.int (0 : Int32)), .val (.int (-1 : Int32)), .val (.int (0 : Int32)), .val (.int (0 : Int32)), .val (.int (-1 : Int32)), .unset]) rfl ?_
                      refine o_aload X93 hx (hb hby at_295) (pc' := 297) rfl rfl rfl ?_
                      refine o_aload X93 hx (hb hby at_297) (pc' := 299) rfl rfl rfl ?_
                      refine o_callV X93 hx hZ 0 (argsL := [.ref b8]) (rest := []) (a := b12) hown (w 48 _ rfl) (w 49 _ rfl) (w 51 _ rfl) (w 50 _ rfl) (w 4 _ rfl) (w 52 _ rfl) (by decide) (rm9s6 l Z a0 hw [] _ _ _ _ _ T90.heap n0 Z90 P90_0 P90_1 P90_5 E91_b4 E91_b8 P90_6 On14_0 ne_b12_bn14_0 (Ne.symm ne_b4_b12) (Ne.symm ne_b4_bn14_0) (Ne.symm ne_b8_b12) (Ne.symm ne_b8_bn14_0) ne_b4_b8) P90_0 (by decide) (by decide) (cells' := 8) rfl (slots' := 33) rfl (by decide) (by decide) e93 (by rw [hml]; rfl) (lenOf pd_4 rfl) rfl rfl (hb hby at_299) (pc' := 302) rfl ?_
                      intro T94 v94 L94 X94 hQ94
                      obtain ⟨rfl, Nq94, e94⟩ := hQ94
                      have N94 := Fr.app N93 Nq94
                      show Go p e below _ (T94.setTop (mkF m 302 _ [.int (-1 : Int32)]))
                      refine o_istore X94 hx (hb hby at_302) (pc' := 304) rfl (L' := #[.val (.long q0), .second, .val (.long q1), .second, .val (.long q2), .second, .val (.int q3), .val (.int (2 : Int32)), .val (.int (1 : Int32)), .val (.int (o2 q0 q1 q2 q3)), .val (.long (o0 q0 q1 q2 q3)), .second, .val (.long (1 : Int64)), .second, .val (.long (o1 q0 q1 q2 q3)), .second, .val (.ref b4), .val (.ref b6), .val (.ref b8), .val (.ref b10), .val (.ref b12), .val (.int (1 : Int32)), .val (.int (0 : Int32)), .val (.int (-1 : Int32)), .val (.int (0 : Int32)), .val (.int (0 : Int32)), .val (.int (-1 : Int32)), .val (.int (-1 : Int32))]) rfl ?_
                      refine o_aload X94 hx (hb hby at_304) (pc' := 306) rfl rfl rfl ?_
                      refine o_aload X94 hx (hb hby at_306) (pc' := 308) rfl rfl rfl ?_
                      refine o_callV X94 hx hZ 0 (argsL := [.ref b10]) (rest := []) (a := b12) hown (w 48 _ rfl) (w 49 _ rfl) (w 51 _ rfl) (w 50 _ rfl) (w 4 _ rfl) (w 52 _ rfl) (by decide) (rm9s6 l Z a0 hw [] _ _ _ _ _ T90.heap n0 Z90 P90_0 P90_1 P90_5 E91_b4 E91_b10 P90_6 On14_0 ne_b12_bn14_0 (Ne.symm ne_b4_b12) (Ne.symm ne_b4_bn14_0) (Ne.symm ne_b10_b12) (Ne.symm ne_b10_bn14_0) ne_b4_b10) P90_0 (by decide) (by decide) (cells' := 8) rfl (slots' := 33) rfl (by decide) (by decide) e94 (by rw [hml]; rfl) (lenOf pd_4 rfl) rfl rfl (hb hby at_308) (pc' := 311) rfl ?_
                      intro T95 v95 L95 X95 hQ95
                      obtain ⟨rfl, Nq95, e95⟩ := hQ95
                      have N95 := Fr.app N94 Nq95
                      show Go p e below _ (T95.setTop (mkF m 311 _ [.int (-1 : Int32)]))
                      refine o_iconst X95 hx (-1 : Int32) (hb hby at_311) (pc' := 312) rfl (by decide) ?_
                      refine o_cmpY X95 hx (hb hby at_312) (teq (by decide : (-1 : Int32) = (-1 : Int32))).1 (by decide) (pc' := 317) (by decide) ?_
                      refine o_iload X95 hx (hb hby at_317) (pc' := 319) rfl rfl ?_
                      refine o_ifN X95 hx (hb hby at_319) (tlt (by decide : (0 : Int32) < (2 : Int32))).2.2.2 (pc' := 322) rfl ?_
                      refine o_iload X95 hx (hb hby at_322) (pc' := 324) rfl rfl ?_
                      refine o_ifN X95 hx (hb hby at_324) (feq (by decide : ¬ ((1 : Int32) = (0 : Int32)))).1 (pc' := 327) rfl ?_
                      refine o_iconst X95 hx (1 : Int32) (hb hby at_327) (pc' := 328) rfl (by decide) ?_
                      refine o_goto X95 hx (hb hby at_328) (by decide) (pc' := 332) (by decide) ?_
                      refine o_iload X95 hx (hb hby at_332) (pc' := 334) rfl rfl ?_
                      refine o_iconst X95 hx (1 : Int32) (hb hby at_334) (pc' := 335) rfl (by decide) ?_
                      refine o_cmpN X95 hx (hb hby at_335) (tlt (by decide : (1 : Int32) < (2 : Int32))).2.2.2 (pc' := 338) rfl ?_
                      refine o_iload X95 hx (hb hby at_338) (pc' := 340) rfl rfl ?_
                      refine o_iconst X95 hx (1 : Int32) (hb hby at_340) (pc' := 341) rfl (by decide) ?_
                      refine o_cmpY X95 hx (hb hby at_341) (teq (by decide : (1 : Int32) = (1 : Int32))).1 (by decide) (pc' := 348) (by decide) ?_
                      refine o_iconst X95 hx (0 : Int32) (hb hby at_348) (pc' := 349) rfl (by decide) ?_
                      refine o_iload X95 hx (hb hby at_349) (pc' := 351) rfl rfl ?_
                      refine o_iconst X95 hx (2 : Int32) (hb hby at_351) (pc' := 352) rfl (by decide) ?_
                      refine o_cmpY X95 hx (hb hby at_352) (flt (by decide : ¬ ((2 : Int32) < (2 : Int32)))).2.2.2 (by decide) (pc' := 365) (by decide) ?_
                      refine o_iconst X95 hx (0 : Int32) (hb hby at_365) (pc' := 366) rfl (by decide) ?_
                      refine o_iload X95 hx (hb hby at_366) (pc' := 368) rfl rfl ?_
                      refine o_iload X95 hx (hb hby at_368) (pc' := 370) rfl rfl ?_
                      refine o_iload X95 hx (hb hby at_370) (pc' := 372) rfl rfl ?_
                      refine o_lloadN X95 hx (hb hby at_372) (pc' := 373) rfl rfl ?_
                      refine o_lload X95 hx (hb hby at_373) (pc' := 375) rfl rfl ?_
                      refine o_lloadN X95 hx (hb hby at_375) (pc' := 376) rfl rfl ?_
                      refine o_lload X95 hx (hb hby at_376) (pc' := 378) rfl rfl ?_
                      refine o_lload X95 hx (hb hby at_378) (pc' := 380) rfl rfl ?_
                      refine o_lload X95 hx (hb hby at_380) (pc' := 382) rfl rfl ?_
                      refine o_callS X95 hx hZ 0 (argsL := [.int (1 : Int32), .int (0 : Int32), .int (0 : Int32), .int (0 : Int32), .int (-1 : Int32), .int (-1 : Int32), .long q0, .long (o0 q0 q1 q2 q3), .long q1, .long (1 : Int64), .long q2, .long (o1 q0 q1 q2 q3)]) (rest := []) hown (w 53 _ rfl) (w 54 _ rfl) (w 55 _ rfl) (w 56 _ rfl) (by decide) (rm10 l Z a0 hw [] (1 : Int32) (0 : Int32) (0 : Int32) (0 : Int32) (-1 : Int32) (-1 : Int32) q0 (o0 q0 q1 q2 q3) q1 (1 : Int64) q2 (o1 q0 q1 q2 q3) T90.heap n0 Z90 ) (by decide) (by decide) (cells' := 8) rfl (slots' := 33) rfl (by decide) (by decide) e95 (by rw [hml]; rfl) (lenOf pd_5 rfl) rfl rfl (hb hby at_382) (pc' := 385) rfl ?_
                      intro T96 v96 L96 X96 hQ96
                      obtain ⟨rfl, Nq96, e96⟩ := hQ96
                      have N96 := Fr.app N95 Nq96
                      show Go p e below _ (T96.setTop (mkF m 385 _ [.int (o3 (1 : Int32) (0 : Int32) (0 : Int32) (0 : Int32) (-1 : Int32) (-1 : Int32) q0 (o0 q0 q1 q2 q3) q1 (1 : Int64) q2 (o1 q0 q1 q2 q3))]))
                      rw [← hOWE]
                      exact o_retZ X96 hx (own_narZ (o24 (1 : Int32) (0 : Int32) (0 : Int32) (0 : Int32) (-1 : Int32) (-1 : Int32) q0 (o0 q0 q1 q2 q3) q1 (1 : Int64) q2 (o1 q0 q1 q2 q3))) hlk hrt (hb hby at_385) (by decide) (by decide) (by rw [e96]; exact ⟨(by rw [o7, o10, o9, o8, if_neg hs16, if_neg hs26, if_pos hs45, if_neg hm120_49, if_neg hc231_80, if_neg hs81, if_pos hs89]), N96⟩)
                    · have hs97 : (o4 q0 q1 q2 q3) = (2 : Int32) := (((o46 q0 q1 q2 q3)).resolve_left hs81).resolve_left hs89
                      rw [hs97]
                      refine o_iload X79 hx (hb hby at_236) (pc' := 238) rfl rfl ?_
                      refine o_iload X79 hx (hb hby at_238) (pc' := 240) rfl rfl ?_
                      refine o_cmpN X79 hx (hb hby at_240) (flt (by decide : ¬ ((2 : Int32) < (2 : Int32)))).1 (pc' := 243) rfl ?_
                      refine o_iconst X79 hx (1 : Int32) (hb hby at_243) (pc' := 244) rfl (by decide) ?_
                      rw [← hOWE]
                      exact o_retZ X79 hx rfl hlk hrt (hb hby at_244) (by decide) (by decide) (by rw [e79]; exact ⟨(by rw [o7, o10, o9, o8, if_neg hs16, if_neg hs26, if_pos hs45, if_neg hm120_49, if_neg hc231_80, if_neg hs81, if_neg hs89]), N79⟩)
            · have hs98 : (q3 &&& (3 : Int32)) = (3 : Int32) := ((((o63 q0 q1 q2 q3)).resolve_left hs16).resolve_left hs26).resolve_left hs45
              rw [hs98]
              refine o_iload X14 hx (hb hby at_92) (pc' := 94) rfl rfl ?_
              refine o_ifN X14 hx (hb hby at_94) (tlt (by decide : (0 : Int32) < (3 : Int32))).2.2.2 (pc' := 97) rfl ?_
              refine o_aload X14 hx (hb hby at_97) (pc' := 99) rfl rfl rfl ?_
              refine o_aload X14 hx (hb hby at_99) (pc' := 101) rfl rfl rfl ?_
              refine o_lloadN X14 hx (hb hby at_101) (pc' := 102) rfl rfl ?_
              refine o_lload X14 hx (hb hby at_102) (pc' := 104) rfl rfl ?_
              refine o_callV X14 hx hZ 0 (argsL := [.ref b4, .long q0, .long (o0 q0 q1 q2 q3)]) (rest := []) (a := b12) hown (w 25 _ rfl) (w 26 _ rfl) (w 28 _ rfl) (w 27 _ rfl) (w 4 _ rfl) (w 29 _ rfl) (by decide) (rm4s1 l Z a0 hw [] _ _ _ _ _ _ _ _ _ _ _ _ _ _ _ _ _ _ _ _ _ q0 (o0 q0 q1 q2 q3) _ _ _ T14.heap n0 Z14 P14_0 Fn14_0 Fn14_1 Fn14_2 P14_1 P14_2 g_b12 E15_b4 Vn14_0 On14_0 gn14_0 Vn14_1 gn14_1 Vn14_2 gn14_2 ne_b12_bn14_0 ne_b12_bn14_1 nn14_0_1 ne_b12_bn14_2 nn14_0_2 nn14_1_2 (Ne.symm ne_b4_b12) (Ne.symm ne_b4_bn14_0) (Ne.symm ne_b4_bn14_1) (Ne.symm ne_b4_bn14_2)) P14_0 (by decide) (by decide) (cells' := 8) rfl (slots' := 33) rfl (by decide) (by decide) rfl (by rw [hml]; rfl) (lenOf pd_9 rfl) rfl rfl (hb hby at_104) (pc' := 107) rfl ?_
              intro T99 v99 L99 X99 hQ99
              obtain ⟨rfl, Nq99, Kq99, P99_0, P99_1, P99_2, P99_3, P99_4, P99_5, P99_6, P99_7, P99_8⟩ := hQ99
              have N99 := Fr.app N14 Nq99
              have E100_b4 := Exa.keep E15_b4 Kq99
              have E100_b6 := Exa.keep E15_b6 Kq99
              have E100_b8 := Exa.keep E15_b8 Kq99
              have E100_b10 := Exa.keep E15_b10 Kq99
              have Z99 : n0 ≤ T99.heap.size := Nat.le_trans Z14 Kq99.1
              show Go p e below _ (T99.setTop (mkF m 107 _ []))
              refine o_iload X99 hx (hb hby at_107) (pc' := 109) rfl rfl ?_
              refine o_iconst X99 hx (1 : Int32) (hb hby at_109) (pc' := 110) rfl (by decide) ?_
              refine o_cmpN X99 hx (hb hby at_110) (tlt (by decide : (1 : Int32) < (3 : Int32))).2.2.2 (pc' := 113) rfl ?_
              refine o_aload X99 hx (hb hby at_113) (pc' := 115) rfl rfl rfl ?_
              refine o_aload X99 hx (hb hby at_115) (pc' := 117) rfl rfl rfl ?_
              refine o_lloadN X99 hx (hb hby at_117) (pc' := 118) rfl rfl ?_
              refine o_lload X99 hx (hb hby at_118) (pc' := 120) rfl rfl ?_
              refine o_callV X99 hx hZ 0 (argsL := [.ref b6, .long q1, .long (1 : Int64)]) (rest := []) (a := b12) hown (w 25 _ rfl) (w 26 _ rfl) (w 28 _ rfl) (w 27 _ rfl) (w 4 _ rfl) (w 29 _ rfl) (by decide) (rm4s8 l Z a0 hw [] _ _ _ _ _ _ _ _ _ _ _ _ _ _ _ _ _ _ _ _ _ _ q1 (1 : Int64) _ _ _ T99.heap n0 Z99 P99_0 P99_1 P99_2 P99_3 P99_4 P99_5 g_b12 E100_b4 E100_b6 P99_6 On14_0 gn14_0 P99_7 gn14_1 P99_8 gn14_2 ne_b12_bn14_0 (Ne.symm ne_b4_b12) (Ne.symm ne_b4_bn14_0) ne_b12_bn14_1 nn14_0_1 ne_b4_bn14_1 ne_b12_bn14_2 nn14_0_2 ne_b4_bn14_2 nn14_1_2 (Ne.symm ne_b6_b12) (Ne.symm ne_b6_bn14_0) ne_b4_b6 (Ne.symm ne_b6_bn14_1) (Ne.symm ne_b6_bn14_2)) P99_0 (by decide) (by decide) (cells' := 8) rfl (slots' := 33) rfl (by decide) (by decide) rfl (by rw [hml]; rfl) (lenOf pd_9 rfl) rfl rfl (hb hby at_120) (pc' := 123) rfl ?_
              intro T101 v101 L101 X101 hQ101
              rcases hQ101 with ⟨hm120_102, hQ101⟩ | ⟨hm120_102, hQ101⟩
              · obtain ⟨rfl, Nq101, Kq101, P101_0, P101_1, P101_2, P101_3, P101_4, P101_5, P101_6, P101_7, P101_8⟩ := hQ101
                have N101 := Fr.app N99 Nq101
                have E103_b4 := Exa.keep E100_b4 Kq101
                have E103_b6 := Exa.keep E100_b6 Kq101
                have E103_b8 := Exa.keep E100_b8 Kq101
                have E103_b10 := Exa.keep E100_b10 Kq101
                have Z101 : n0 ≤ T101.heap.size := Nat.le_trans Z99 Kq101.1
                show Go p e below _ (T101.setTop (mkF m 123 _ []))
                refine o_iload X101 hx (hb hby at_123) (pc' := 125) rfl rfl ?_
                refine o_iconst X101 hx (2 : Int32) (hb hby at_125) (pc' := 126) rfl (by decide) ?_
                refine o_cmpN X101 hx (hb hby at_126) (tlt (by decide : (2 : Int32) < (3 : Int32))).2.2.2 (pc' := 129) rfl ?_
                refine o_aload X101 hx (hb hby at_129) (pc' := 131) rfl rfl rfl ?_
                refine o_aload X101 hx (hb hby at_131) (pc' := 133) rfl rfl rfl ?_
                refine o_lload X101 hx (hb hby at_133) (pc' := 135) rfl rfl ?_
                refine o_lload X101 hx (hb hby at_135) (pc' := 137) rfl rfl ?_
                refine o_callV X101 hx hZ 0 (argsL := [.ref b8, .long q2, .long (o1 q0 q1 q2 q3)]) (rest := []) (a := b12) hown (w 25 _ rfl) (w 26 _ rfl) (w 28 _ rfl) (w 27 _ rfl) (w 4 _ rfl) (w 29 _ rfl) (by decide) (rm4s19 l Z a0 hw [] _ _ _ _ _ _ _ _ _ _ _ _ _ _ _ _ _ _ _ _ _ _ _ q2 (o1 q0 q1 q2 q3) _ _ _ T101.heap n0 Z101 P101_0 P101_1 P101_2 P101_3 P101_4 P101_5 g_b12 E103_b4 E103_b6 E103_b8 P101_6 On14_0 gn14_0 P101_7 gn14_1 P101_8 gn14_2 ne_b12_bn14_0 (Ne.symm ne_b4_b12) (Ne.symm ne_b4_bn14_0) (Ne.symm ne_b6_b12) (Ne.symm ne_b6_bn14_0) ne_b4_b6 ne_b12_bn14_1 nn14_0_1 ne_b4_bn14_1 ne_b6_bn14_1 ne_b12_bn14_2 nn14_0_2 ne_b4_bn14_2 ne_b6_bn14_2 nn14_1_2 (Ne.symm ne_b8_b12) (Ne.symm ne_b8_bn14_0) ne_b4_b8 ne_b6_b8 (Ne.symm ne_b8_bn14_1) (Ne.symm ne_b8_bn14_2)) P101_0 (by decide) (by decide) (cells' := 8) rfl (slots' := 33) rfl (by decide) (by decide) rfl (by rw [hml]; rfl) (lenOf pd_9 rfl) rfl rfl (hb hby at_137) (pc' := 140) rfl ?_
                intro T104 v104 L104 X104 hQ104
                rcases hQ104 with ⟨hm137_105, hQ104⟩ | ⟨hm137_105, hQ104⟩
                · obtain ⟨rfl, Nq104, Kq104, P104_0, P104_1, P104_2, P104_3, P104_4, P104_5, P104_6, P104_7, P104_8⟩ := hQ104
                  have N104 := Fr.app N101 Nq104
                  have E106_b4 := Exa.keep E103_b4 Kq104
                  have E106_b6 := Exa.keep E103_b6 Kq104
                  have E106_b8 := Exa.keep E103_b8 Kq104
                  have E106_b10 := Exa.keep E103_b10 Kq104
                  have Z104 : n0 ≤ T104.heap.size := Nat.le_trans Z101 Kq104.1
                  show Go p e below _ (T104.setTop (mkF m 140 _ []))
                  refine o_aload X104 hx (hb hby at_140) (pc' := 142) rfl rfl rfl ?_
                  refine o_aload X104 hx (hb hby at_142) (pc' := 144) rfl rfl rfl ?_
                  refine o_callV X104 hx hZ 0 (argsL := [.ref b4]) (rest := []) (a := b12) hown (w 48 _ rfl) (w 49 _ rfl) (w 51 _ rfl) (w 50 _ rfl) (w 4 _ rfl) (w 52 _ rfl) (by decide) (rm9s23 l Z a0 hw [] _ _ _ _ _ _ T104.heap n0 Z104 P104_0 P104_1 P104_5 E106_b4 E106_b6 E106_b8 P104_6 On14_0 ne_b12_bn14_0 (Ne.symm ne_b4_b12) (Ne.symm ne_b4_bn14_0) (Ne.symm ne_b6_b12) (Ne.symm ne_b6_bn14_0) ne_b4_b6 (Ne.symm ne_b8_b12) (Ne.symm ne_b8_bn14_0) ne_b4_b8 ne_b6_b8) P104_0 (by decide) (by decide) (cells' := 8) rfl (slots' := 33) rfl (by decide) (by decide) rfl (by rw [hml]; rfl) (lenOf pd_4 rfl) rfl rfl (hb hby at_144) (pc' := 147) rfl ?_
                  intro T107 v107 L107 X107 hQ107
                  obtain ⟨rfl, Nq107, e107⟩ := hQ107
                  have N107 := Fr.app N104 Nq107
                  show Go p e below _ (T107.setTop (mkF m 147 _ [.int (0 : Int32)]))
                  refine o_istore X107 hx (hb hby at_147) (pc' := 149) rfl (L' := #[.val (.long q0), .second, .val (.long q1), .second, .val (.long q2), .second, .val (.int q3), .val (.int (3 : Int32)), .val (.int (o4 q0 q1 q2 q3)), .val (.int (o2 q0 q1 q2 q3)), .val (.long (o0 q0 q1 q2 q3)), .second, .val (.long (1 : Int64)), .second, .val (.long (o1 q0 q1 q2 q3)), .second, .val (.ref b4), .val (.ref b6), .val (.ref b8), .val (.ref b10), .val (.ref b12), .val (.int (0 : Int32)), .unset, .unset, .unset, .unset, .unset, .unset]) rfl ?_
                  refine o_aload X107 hx (hb hby at_149) (pc' := 151) rfl rfl rfl ?_
                  refine o_aload X107 hx (hb hby at_151) (pc' := 153) rfl rfl rfl ?_
                  refine o_callV X107 hx hZ 0 (argsL := [.ref b6]) (rest := []) (a := b12) hown (w 48 _ rfl) (w 49 _ rfl) (w 51 _ rfl) (w 50 _ rfl) (w 4 _ rfl) (w 52 _ rfl) (by decide) (rm9s24 l Z a0 hw [] _ _ _ _ _ _ T104.heap n0 Z104 P104_0 P104_1 P104_5 E106_b4 E106_b6 E106_b8 P104_6 On14_0 ne_b12_bn14_0 (Ne.symm ne_b4_b12) (Ne.symm ne_b4_bn14_0) (Ne.symm ne_b6_b12) (Ne.symm ne_b6_bn14_0) ne_b4_b6 (Ne.symm ne_b8_b12) (Ne.symm ne_b8_bn14_0) ne_b4_b8 ne_b6_b8) P104_0 (by decide) (by decide) (cells' := 8) rfl (slots' := 33) rfl (by decide) (by decide) e107 (by rw [hml]; rfl) (lenOf pd_4 rfl) rfl rfl (hb hby at_153) (pc' := 156) rfl ?_
                  intro T108 v108 L108 X108 hQ108
                  obtain ⟨rfl, Nq108, e108⟩ := hQ108
                  have N108 := Fr.app N107 Nq108
                  show Go p e below _ (T108.setTop (mkF m 156 _ [.int (1 : Int32)]))
                  refine o_istore X108 hx (hb hby at_156) (pc' := 158) rfl (L' := #[.val (.long q0), .second, .val (.long q1), .second, .val (.long q2), .second, .val (.int q3), .val (.int (3 : Int32)), .val (.int (o4 q0 q1 q2 q3)), .val (.int (o2 q0 q1 q2 q3)), .val (.long (o0 q0 q1 q2 q3)), .second, .val (.long (1 : Int64)), .second, .val (.long (o1 q0 q1 q2 q3)), .second, .val (.ref b4), .val (.ref b6), .val (.ref b8), .val (.ref b10), .val (.ref b12), .val (.int (0 : Int32)), .val (.int (1 : Int32)), .unset, .unset, .unset, .unset, .unset]) rfl ?_
                  refine o_aload X108 hx (hb hby at_158) (pc' := 160) rfl rfl rfl ?_
                  refine o_aload X108 hx (hb hby at_160) (pc' := 162) rfl rfl rfl ?_
                  refine o_callV X108 hx hZ 0 (argsL := [.ref b8]) (rest := []) (a := b12) hown (w 48 _ rfl) (w 49 _ rfl) (w 51 _ rfl) (w 50 _ rfl) (w 4 _ rfl) (w 52 _ rfl) (by decide) (rm9s25 l Z a0 hw [] _ _ _ _ _ _ T104.heap n0 Z104 P104_0 P104_1 P104_5 E106_b4 E106_b6 E106_b8 P104_6 On14_0 ne_b12_bn14_0 (Ne.symm ne_b4_b12) (Ne.symm ne_b4_bn14_0) (Ne.symm ne_b6_b12) (Ne.symm ne_b6_bn14_0) ne_b4_b6 (Ne.symm ne_b8_b12) (Ne.symm ne_b8_bn14_0) ne_b4_b8 ne_b6_b8) P104_0 (by decide) (by decide) (cells' := 8) rfl (slots' := 33) rfl (by decide) (by decide) e108 (by rw [hml]; rfl) (lenOf pd_4 rfl) rfl rfl (hb hby at_162) (pc' := 165) rfl ?_
                  intro T109 v109 L109 X109 hQ109
                  obtain ⟨rfl, Nq109, e109⟩ := hQ109
                  have N109 := Fr.app N108 Nq109
                  show Go p e below _ (T109.setTop (mkF m 165 _ [.int (2 : Int32)]))
                  refine o_istore X109 hx (hb hby at_165) (pc' := 167) rfl (L' := #[.val (.long q0), .second, .val (.long q1), .second, .val (.long q2), .second, .val (.int q3), .val (.int (3 : Int32)), .val (.int (o4 q0 q1 q2 q3)), .val (.int (o2 q0 q1 q2 q3)), .val (.long (o0 q0 q1 q2 q3)), .second, .val (.long (1 : Int64)), .second, .val (.long (o1 q0 q1 q2 q3)), .second, .val (.ref b4), .val (.ref b6), .val (.ref b8), .val (.ref b10), .val (.ref b12), .val (.int (0 : Int32)), .val (.int (1 : Int32)), .val (.int (2 : Int32)), .unset, .unset, .unset, .unset]) rfl ?_
                  refine o_aload X109 hx (hb hby at_167) (pc' := 169) rfl rfl rfl ?_
                  refine o_aload X109 hx (hb hby at_169) (pc' := 171) rfl rfl rfl ?_
                  refine o_callV X109 hx hZ 0 (argsL := [.ref b10]) (rest := []) (a := b12) hown (w 48 _ rfl) (w 49 _ rfl) (w 51 _ rfl) (w 50 _ rfl) (w 4 _ rfl) (w 52 _ rfl) (by decide) (rm9s26 l Z a0 hw [] _ _ _ _ _ _ _ T104.heap n0 Z104 P104_0 P104_1 P104_5 E106_b4 E106_b6 E106_b8 E106_b10 P104_6 On14_0 ne_b12_bn14_0 (Ne.symm ne_b4_b12) (Ne.symm ne_b4_bn14_0) (Ne.symm ne_b6_b12) (Ne.symm ne_b6_bn14_0) ne_b4_b6 (Ne.symm ne_b8_b12) (Ne.symm ne_b8_bn14_0) ne_b4_b8 ne_b6_b8 (Ne.symm ne_b10_b12) (Ne.symm ne_b10_bn14_0) ne_b4_b10 ne_b6_b10 ne_b8_b10) P104_0 (by decide) (by decide) (cells' := 8) rfl (slots' := 33) rfl (by decide) (by decide) e109 (by rw [hml]; rfl) (lenOf pd_4 rfl) rfl rfl (hb hby at_171) (pc' := 174) rfl ?_
                  intro T110 v110 L110 X110 hQ110
                  obtain ⟨rfl, Nq110, e110⟩ := hQ110
                  have N110 := Fr.app N109 Nq110
                  show Go p e below _ (T110.setTop (mkF m 174 _ [.int (-1 : Int32)]))
                  refine o_iconst X110 hx (-1 : Int32) (hb hby at_174) (pc' := 175) rfl (by decide) ?_
                  refine o_cmpY X110 hx (hb hby at_175) (teq (by decide : (-1 : Int32) = (-1 : Int32))).1 (by decide) (pc' := 180) (by decide) ?_
                  refine o_iload X110 hx (hb hby at_180) (pc' := 182) rfl rfl ?_
                  refine o_ifN X110 hx (hb hby at_182) (tlt (by decide : (0 : Int32) < (3 : Int32))).2.2.2 (pc' := 185) rfl ?_
                  refine o_iconst X110 hx (1 : Int32) (hb hby at_185) (pc' := 186) rfl (by decide) ?_
                  refine o_goto X110 hx (hb hby at_186) (by decide) (pc' := 190) (by decide) ?_
                  refine o_iload X110 hx (hb hby at_190) (pc' := 192) rfl rfl ?_
                  refine o_iconst X110 hx (1 : Int32) (hb hby at_192) (pc' := 193) rfl (by decide) ?_
                  refine o_cmpN X110 hx (hb hby at_193) (tlt (by decide : (1 : Int32) < (3 : Int32))).2.2.2 (pc' := 196) rfl ?_
                  refine o_iconst X110 hx (1 : Int32) (hb hby at_196) (pc' := 197) rfl (by decide) ?_
                  refine o_goto X110 hx (hb hby at_197) (by decide) (pc' := 201) (by decide) ?_
                  refine o_iload X110 hx (hb hby at_201) (pc' := 203) rfl rfl ?_
                  refine o_iconst X110 hx (2 : Int32) (hb hby at_203) (pc' := 204) rfl (by decide) ?_
                  refine o_cmpN X110 hx (hb hby at_204) (tlt (by decide : (2 : Int32) < (3 : Int32))).2.2.2 (pc' := 207) rfl ?_
                  refine o_iconst X110 hx (1 : Int32) (hb hby at_207) (pc' := 208) rfl (by decide) ?_
                  refine o_goto X110 hx (hb hby at_208) (by decide) (pc' := 212) (by decide) ?_
                  refine o_iload X110 hx (hb hby at_212) (pc' := 214) rfl rfl ?_
                  refine o_iload X110 hx (hb hby at_214) (pc' := 216) rfl rfl ?_
                  refine o_iload X110 hx (hb hby at_216) (pc' := 218) rfl rfl ?_
                  refine o_lloadN X110 hx (hb hby at_218) (pc' := 219) rfl rfl ?_
                  refine o_lload X110 hx (hb hby at_219) (pc' := 221) rfl rfl ?_
                  refine o_lloadN X110 hx (hb hby at_221) (pc' := 222) rfl rfl ?_
                  refine o_lload X110 hx (hb hby at_222) (pc' := 224) rfl rfl ?_
                  refine o_lload X110 hx (hb hby at_224) (pc' := 226) rfl rfl ?_
                  refine o_lload X110 hx (hb hby at_226) (pc' := 228) rfl rfl ?_
                  refine o_callS X110 hx hZ 0 (argsL := [.int (1 : Int32), .int (1 : Int32), .int (1 : Int32), .int (0 : Int32), .int (1 : Int32), .int (2 : Int32), .long q0, .long (o0 q0 q1 q2 q3), .long q1, .long (1 : Int64), .long q2, .long (o1 q0 q1 q2 q3)]) (rest := []) hown (w 53 _ rfl) (w 54 _ rfl) (w 55 _ rfl) (w 56 _ rfl) (by decide) (rm10 l Z a0 hw [] (1 : Int32) (1 : Int32) (1 : Int32) (0 : Int32) (1 : Int32) (2 : Int32) q0 (o0 q0 q1 q2 q3) q1 (1 : Int64) q2 (o1 q0 q1 q2 q3) T104.heap n0 Z104 ) (by decide) (by decide) (cells' := 8) rfl (slots' := 33) rfl (by decide) (by decide) e110 (by rw [hml]; rfl) (lenOf pd_5 rfl) rfl rfl (hb hby at_228) (pc' := 231) rfl ?_
                  intro T111 v111 L111 X111 hQ111
                  obtain ⟨rfl, Nq111, e111⟩ := hQ111
                  have N111 := Fr.app N110 Nq111
                  show Go p e below _ (T111.setTop (mkF m 231 _ [.int (o3 (1 : Int32) (1 : Int32) (1 : Int32) (0 : Int32) (1 : Int32) (2 : Int32) q0 (o0 q0 q1 q2 q3) q1 (1 : Int64) q2 (o1 q0 q1 q2 q3))]))
                  by_cases hc231_112 : (o3 (1 : Int32) (1 : Int32) (1 : Int32) (0 : Int32) (1 : Int32) (2 : Int32) q0 (o0 q0 q1 q2 q3) q1 (1 : Int64) q2 (o1 q0 q1 q2 q3)) = (0 : Int32)
                  · refine o_ifN X111 hx (hb hby at_231) (teq hc231_112).2 (pc' := 234) rfl ?_
                    refine o_iconst X111 hx (0 : Int32) (hb hby at_234) (pc' := 235) rfl (by decide) ?_
                    rw [← hOWE]
                    exact o_retZ X111 hx rfl hlk hrt (hb hby at_235) (by decide) (by decide) (by rw [e111]; exact ⟨(by rw [o7, o10, o9, o8, if_neg hs16, if_neg hs26, if_neg hs45, if_pos hm120_102, if_pos hm137_105, if_pos hc231_112]), N111⟩)
                  · refine o_ifY X111 hx (hb hby at_231) (feq hc231_112).2 (by decide) (pc' := 236) (by decide) ?_
                    by_cases hs113 : (o4 q0 q1 q2 q3) = (0 : Int32)
                    · rw [hs113]
                      refine o_iload X111 hx (hb hby at_236) (pc' := 238) rfl rfl ?_
                      refine o_iload X111 hx (hb hby at_238) (pc' := 240) rfl rfl ?_
                      refine o_cmpY X111 hx (hb hby at_240) (tlt (by decide : (0 : Int32) < (3 : Int32))).1 (by decide) (pc' := 245) (by decide) ?_
                      refine o_iload X111 hx (hb hby at_245) (pc' := 247) rfl rfl ?_
                      refine o_ifN X111 hx (hb hby at_247) (teq (by decide : (0 : Int32) = (0 : Int32))).2 (pc' := 250) rfl ?_
                      refine o_iload X111 hx (hb hby at_250) (pc' := 252) rfl rfl ?_
                      refine o_goto X111 hx (hb hby at_252) (by decide) (pc' := 268) (by decide) ?_
                      refine o_istore X111 hx (hb hby at_268) (pc' := 270) rfl (L' := #[.val (.long q0), .second, .val (.long q1), .second, .val (.long q2), .second, .val (.int q3), .val (.int (3 : Int32)), .val (.int (0 : Int32)), .val (.int (o2 q0 q1 q2 q3)), .val (.long (o0 q0 q1 q2 q3)), .second, .val (.long (1 : Int64)), .second, .val (.long (o1 q0 q1 q2 q3)), .second, .val (.ref b4), .val (.ref b6), .val (.ref b8), .val (.ref b10), .val (.ref b12), .val (.int (0 : Int32)), .val (.int (1 : Int32)), .val (.int (2 : Int32)), .val (.int (0 : Int32)), .unset, .unset, .unset]) rfl ?_
                      refine o_aload X111 hx (hb hby at_270) (pc' := 272) rfl rfl rfl ?_
                      refine o_iload X111 hx (hb hby at_272) (pc' := 274) rfl rfl ?_
                      refine o_callV X111 hx hZ 0 (argsL := [.int (0 : Int32)]) (rest := []) (a := b12) hown (w 63 _ rfl) (w 64 _ rfl) (w 66 _ rfl) (w 65 _ rfl) (w 4 _ rfl) (w 67 _ rfl) (by decide) (rm13s27 l Z a0 hw [] _ _ _ _ _ _ _ _ _ _ _ _ _ _ _ _ _ _ _ _ _ _ _ _ _ _ T104.heap n0 Z104 P104_0 P104_1 P104_2 P104_3 P104_4 P104_5 g_b12 E106_b4 E106_b6 E106_b8 P104_6 On14_0 gn14_0 P104_7 gn14_1 P104_8 gn14_2 ne_b12_bn14_0 (Ne.symm ne_b4_b12) (Ne.symm ne_b4_bn14_0) (Ne.symm ne_b6_b12) (Ne.symm ne_b6_bn14_0) ne_b4_b6 (Ne.symm ne_b8_b12) (Ne.symm ne_b8_bn14_0) ne_b4_b8 ne_b6_b8 ne_b12_bn14_1 nn14_0_1 ne_b4_bn14_1 ne_b6_bn14_1 ne_b8_bn14_1 ne_b12_bn14_2 nn14_0_2 ne_b4_bn14_2 ne_b6_bn14_2 ne_b8_bn14_2 nn14_1_2) P104_0 (by decide) (by decide) (cells' := 8) rfl (slots' := 33) rfl (by decide) (by decide) e111 (by rw [hml]; rfl) (lenOf pd_10 rfl) rfl rfl (hb hby at_274) (pc' := 277) rfl ?_
                      intro T114 v114 L114 X114 hQ114
                      rcases hQ114 with ⟨hm274_115, hQ114⟩ | ⟨hm274_115, hQ114⟩
                      · obtain ⟨rfl, Nq114, Kq114, P114_0, P114_1, P114_2, P114_3, P114_4, P114_5, P114_6, P114_7, P114_8⟩ := hQ114
                        have N114 := Fr.app N111 Nq114
                        have E116_b4 := Exa.keep E106_b4 Kq114
                        have E116_b6 := Exa.keep E106_b6 Kq114
                        have E116_b8 := Exa.keep E106_b8 Kq114
                        have E116_b10 := Exa.keep E106_b10 Kq114
                        have Z114 : n0 ≤ T114.heap.size := Nat.le_trans Z104 Kq114.1
                        show Go p e below _ (T114.setTop (mkF m 277 _ []))
                        refine o_aload X114 hx (hb hby at_277) (pc' := 279) rfl rfl rfl ?_
                        refine o_aload X114 hx (hb hby at_279) (pc' := 281) rfl rfl rfl ?_
                        refine o_callV X114 hx hZ 0 (argsL := [.ref b4]) (rest := []) (a := b12) hown (w 48 _ rfl) (w 49 _ rfl) (w 51 _ rfl) (w 50 _ rfl) (w 4 _ rfl) (w 52 _ rfl) (by decide) (rm9s14 l Z a0 hw [] _ _ _ _ _ _ T114.heap n0 Z114 P114_0 P114_1 P114_5 E116_b8 E116_b6 E116_b4 P114_6 On14_0 ne_b12_bn14_0 (Ne.symm ne_b8_b12) (Ne.symm ne_b8_bn14_0) (Ne.symm ne_b6_b12) (Ne.symm ne_b6_bn14_0) (Ne.symm ne_b6_b8) (Ne.symm ne_b4_b12) (Ne.symm ne_b4_bn14_0) (Ne.symm ne_b4_b8) (Ne.symm ne_b4_b6)) P114_0 (by decide) (by decide) (cells' := 8) rfl (slots' := 33) rfl (by decide) (by decide) rfl (by rw [hml]; rfl) (lenOf pd_4 rfl) rfl rfl (hb hby at_281) (pc' := 284) rfl ?_
                        intro T117 v117 L117 X117 hQ117
                        obtain ⟨rfl, Nq117, e117⟩ := hQ117
                        have N117 := Fr.app N114 Nq117
                        show Go p e below _ (T117.setTop (mkF m 284 _ [.int (-1 : Int32)]))
                        refine o_istore X117 hx (hb hby at_284) (pc' := 286) rfl (L' := #[.val (.long q0), .second, .val (.long q1), .second, .val (.long q2), .second, .val (.int q3), .val (.int (3 : Int32)), .val (.int (0 : Int32)), .val (.int (o2 q0 q1 q2 q3)), .val (.long (o0 q0 q1 q2 q3)), .second, .val (.long (1 : Int64)), .second, .val (.long (o1 q0 q1 q2 q3)), .second, .val (.ref b4), .val (.ref b6), .val (.ref b8), .val (.ref b10), .val (.ref b12), .val (.int (0 : Int32)), .val (.int (1 : Int32)), .val (.int (2 : Int32)), .val (.int (0 : Int32)), .val (.int (-1 : Int32)), .unset, .unset]) rfl ?_
                        refine o_aload X117 hx (hb hby at_286) (pc' := 288) rfl rfl rfl ?_
                        refine o_aload X117 hx (hb hby at_288) (pc' := 290) rfl rfl rfl ?_
                        refine o_callV X117 hx hZ 0 (argsL := [.ref b6]) (rest := []) (a := b12) hown (w 48 _ rfl) (w 49 _ rfl) (w 51 _ rfl) (w 50 _ rfl) (w 4 _ rfl) (w 52 _ rfl) (by decide) (rm9s13 l Z a0 hw [] _ _ _ _ _ T114.heap n0 Z114 P114_0 P114_1 P114_5 E116_b8 E116_b6 P114_6 On14_0 ne_b12_bn14_0 (Ne.symm ne_b8_b12) (Ne.symm ne_b8_bn14_0) (Ne.symm ne_b6_b12) (Ne.symm ne_b6_bn14_0) (Ne.symm ne_b6_b8)) P114_0 (by decide) (by decide) (cells' := 8) rfl (slots' := 33) rfl (by decide) (by decide) e117 (by rw [hml]; rfl) (lenOf pd_4 rfl) rfl rfl (hb hby at_290) (pc' := 293) rfl ?_
                        intro T118 v118 L118 X118 hQ118
                        obtain ⟨rfl, Nq118, e118⟩ := hQ118
                        have N118 := Fr.app N117 Nq118
                        show Go p e below _ (T118.setTop (mkF m 293 _ [.int (1 : Int32)]))
                        refine o_istore X118 hx (hb hby at_293) (pc' := 295) rfl (L' := #[.val (.long q0), .second, .val (.long q1), .second, .val (.long q2), .second, .val (.int q3), .val (.int (3 : Int32)), .val (.int (0 : Int32)), .val (.int (o2 q0 q1 q2 q3)), .val (.long (o0 q0 q1 q2 q3)), .second, .val (.long (1 : Int64)), .second, .val (.long (o1 q0 q1 q2 q3)), .second, .val (.ref b4), .val (.ref b6), .val (.ref b8), .val (.ref b10), .val (.ref b12), .val (.int (0 : Int32)), .val (.int (1 : Int32)), .val (.int (2 : Int32)), .val (.int (0 : Int32)), .val (.int (-1 : Int32)), .val (.int (1 : Int32)), .unset]) rfl ?_
                        refine o_aload X118 hx (hb hby at_295) (pc' := 297) rfl rfl rfl ?_
                        refine o_aload X118 hx (hb hby at_297) (pc' := 299) rfl rfl rfl ?_
                        refine o_callV X118 hx hZ 0 (argsL := [.ref b8]) (rest := []) (a := b12) hown (w 48 _ rfl) (w 49 _ rfl) (w 51 _ rfl) (w 50 _ rfl) (w 4 _ rfl) (w 52 _ rfl) (by decide) (rm9s12 l Z a0 hw [] _ _ _ _ _ T114.heap n0 Z114 P114_0 P114_1 P114_5 E116_b8 E116_b6 P114_6 On14_0 ne_b12_bn14_0 (Ne.symm ne_b8_b12) (Ne.symm ne_b8_bn14_0) (Ne.symm ne_b6_b12) (Ne.symm ne_b6_bn14_0) (Ne.symm ne_b6_b8)) P114_0 (by decide) (by decide) (cells' := 8) rfl (slots' := 33) rfl (by decide) (by decide) e118 (by rw [hml]; rfl) (lenOf pd_4 rfl) rfl rfl (hb hby at_299) (pc' := 302) rfl ?_
                        intro T119 v119 L119 X119 hQ119
                        obtain ⟨rfl, Nq119, e119⟩ := hQ119
                        have N119 := Fr.app N118 Nq119
                        show Go p e below _ (T119.setTop (mkF m 302 _ [.int (0 : Int32)]))
                        refine o_istore X119 hx (hb hby at_302) (pc' := 304) rfl (L' := #[.val (.long q0), .second, .val (.long q1), .second, .val (.long q2), .second, .val (.int q3), .val (.int (3 : Int32)), .val (.int (0 : Int32)), .val (.int (o2 q0 q1 q2 q3)), .val (.long (o0 q0 q1 q2 q3)), .second, .val (.long (1 : Int64)), .second, .val (.long (o1 q0 q1 q2 q3)), .second, .val (.ref b4), .val (.ref b6), .val (.ref b8), .val (.ref b10), .val (.ref b12), .val (.int (0 : Int32)), .val (.int (1 : Int32)), .val (.int (2 : Int32)), .val (.int (0 : Int32)), .val (.int (-1 : Int32)), .val (.int (1 : Int32)), .val (.int (0 : Int32))]) rfl ?_
                        refine o_aload X119 hx (hb hby at_304) (pc' := 306) rfl rfl rfl ?_
                        refine o_aload X119 hx (hb hby at_306) (pc' := 308) rfl rfl rfl ?_
                        refine o_callV X119 hx hZ 0 (argsL := [.ref b10]) (rest := []) (a := b12) hown (w 48 _ rfl) (w 49 _ rfl) (w 51 _ rfl) (w 50 _ rfl) (w 4 _ rfl) (w 52 _ rfl) (by decide) (rm9s14 l Z a0 hw [] _ _ _ _ _ _ T114.heap n0 Z114 P114_0 P114_1 P114_5 E116_b8 E116_b6 E116_b10 P114_6 On14_0 ne_b12_bn14_0 (Ne.symm ne_b8_b12) (Ne.symm ne_b8_bn14_0) (Ne.symm ne_b6_b12) (Ne.symm ne_b6_bn14_0) (Ne.symm ne_b6_b8) (Ne.symm ne_b10_b12) (Ne.symm ne_b10_bn14_0) ne_b8_b10 ne_b6_b10) P114_0 (by decide) (by decide) (cells' := 8) rfl (slots' := 33) rfl (by decide) (by decide) e119 (by rw [hml]; rfl) (lenOf pd_4 rfl) rfl rfl (hb hby at_308) (pc' := 311) rfl ?_
                        intro T120 v120 L120 X120 hQ120
                        obtain ⟨rfl, Nq120, e120⟩ := hQ120
                        have N120 := Fr.app N119 Nq120
                        show Go p e below _ (T120.setTop (mkF m 311 _ [.int (-1 : Int32)]))
                        refine o_iconst X120 hx (-1 : Int32) (hb hby at_311) (pc' := 312) rfl (by decide) ?_
                        refine o_cmpY X120 hx (hb hby at_312) (teq (by decide : (-1 : Int32) = (-1 : Int32))).1 (by decide) (pc' := 317) (by decide) ?_
                        refine o_iload X120 hx (hb hby at_317) (pc' := 319) rfl rfl ?_
                        refine o_ifN X120 hx (hb hby at_319) (tlt (by decide : (0 : Int32) < (3 : Int32))).2.2.2 (pc' := 322) rfl ?_
                        refine o_iload X120 hx (hb hby at_322) (pc' := 324) rfl rfl ?_
                        refine o_ifY X120 hx (hb hby at_324) (teq (by decide : (0 : Int32) = (0 : Int32))).1 (by decide) (pc' := 331) (by decide) ?_
                        refine o_iconst X120 hx (0 : Int32) (hb hby at_331) (pc' := 332) rfl (by decide) ?_
                        refine o_iload X120 hx (hb hby at_332) (pc' := 334) rfl rfl ?_
                        refine o_iconst X120 hx (1 : Int32) (hb hby at_334) (pc' := 335) rfl (by decide) ?_
                        refine o_cmpN X120 hx (hb hby at_335) (tlt (by decide : (1 : Int32) < (3 : Int32))).2.2.2 (pc' := 338) rfl ?_
                        refine o_iload X120 hx (hb hby at_338) (pc' := 340) rfl rfl ?_
                        refine o_iconst X120 hx (1 : Int32) (hb hby at_340) (pc' := 341) rfl (by decide) ?_
                        refine o_cmpN X120 hx (hb hby at_341) (feq (by decide : ¬ ((0 : Int32) = (1 : Int32)))).1 (pc' := 344) rfl ?_
                        refine o_iconst X120 hx (1 : Int32) (hb hby at_344) (pc' := 345) rfl (by decide) ?_
                        refine o_goto X120 hx (hb hby at_345) (by decide) (pc' := 349) (by decide) ?_
                        refine o_iload X120 hx (hb hby at_349) (pc' := 351) rfl rfl ?_
                        refine o_iconst X120 hx (2 : Int32) (hb hby at_351) (pc' := 352) rfl (by decide) ?_
                        refine o_cmpN X120 hx (hb hby at_352) (tlt (by decide : (2 : Int32) < (3 : Int32))).2.2.2 (pc' := 355) rfl ?_
                        refine o_iload X120 hx (hb hby at_355) (pc' := 357) rfl rfl ?_
                        refine o_iconst X120 hx (2 : Int32) (hb hby at_357) (pc' := 358) rfl (by decide) ?_
                        refine o_cmpN X120 hx (hb hby at_358) (feq (by decide : ¬ ((0 : Int32) = (2 : Int32)))).1 (pc' := 361) rfl ?_
                        refine o_iconst X120 hx (1 : Int32) (hb hby at_361) (pc' := 362) rfl (by decide) ?_
                        refine o_goto X120 hx (hb hby at_362) (by decide) (pc' := 366) (by decide) ?_
                        refine o_iload X120 hx (hb hby at_366) (pc' := 368) rfl rfl ?_
                        refine o_iload X120 hx (hb hby at_368) (pc' := 370) rfl rfl ?_
                        refine o_iload X120 hx (hb hby at_370) (pc' := 372) rfl rfl ?_
                        refine o_lloadN X120 hx (hb hby at_372) (pc' := 373) rfl rfl ?_
                        refine o_lload X120 hx (hb hby at_373) (pc' := 375) rfl rfl ?_
                        refine o_lloadN X120 hx (hb hby at_375) (pc' := 376) rfl rfl ?_
                        refine o_lload X120 hx (hb hby at_376) (pc' := 378) rfl rfl ?_
                        refine o_lload X120 hx (hb hby at_378) (pc' := 380) rfl rfl ?_
                        refine o_lload X120 hx (hb hby at_380) (pc' := 382) rfl rfl ?_
                        refine o_callS X120 hx hZ 0 (argsL := [.int (0 : Int32), .int (1 : Int32), .int (1 : Int32), .int (-1 : Int32), .int (1 : Int32), .int (0 : Int32), .long q0, .long (o0 q0 q1 q2 q3), .long q1, .long (1 : Int64), .long q2, .long (o1 q0 q1 q2 q3)]) (rest := []) hown (w 53 _ rfl) (w 54 _ rfl) (w 55 _ rfl) (w 56 _ rfl) (by decide) (rm10 l Z a0 hw [] (0 : Int32) (1 : Int32) (1 : Int32) (-1 : Int32) (1 : Int32) (0 : Int32) q0 (o0 q0 q1 q2 q3) q1 (1 : Int64) q2 (o1 q0 q1 q2 q3) T114.heap n0 Z114 ) (by decide) (by decide) (cells' := 8) rfl (slots' := 33) rfl (by decide) (by decide) e120 (by rw [hml]; rfl) (lenOf pd_5 rfl) rfl rfl (hb hby at_382) (pc' := 385) rfl ?_
                        intro T121 v121 L121 X121 hQ121
                        obtain ⟨rfl, Nq121, e121⟩ := hQ121
                        have N121 := Fr.app N120 Nq121
                        show Go p e below _ (T121.setTop (mkF m 385 _ [.int (o3 (0 : Int32) (1 : Int32) (1 : Int32) (-1 : Int32) (1 : Int32) (0 : Int32) q0 (o0 q0 q1 q2 q3) q1 (1 : Int64) q2 (o1 q0 q1 q2 q3))]))
                        rw [← hOWE]
                        exact o_retZ X121 hx (own_narZ (o24 (0 : Int32) (1 : Int32) (1 : Int32) (-1 : Int32) (1 : Int32) (0 : Int32) q0 (o0 q0 q1 q2 q3) q1 (1 : Int64) q2 (o1 q0 q1 q2 q3))) hlk hrt (hb hby at_385) (by decide) (by decide) (by rw [e121]; exact ⟨(by rw [o7, o10, o9, o8, if_neg hs16, if_neg hs26, if_neg hs45, if_pos hm120_102, if_pos hm137_105, if_neg hc231_112, if_pos hs113, if_pos hm274_115]), N121⟩)
                      · obtain ⟨rfl, Nq114, Kq114, P114_0, P114_1, P114_2, P114_3, P114_4, P114_5, P114_6, P114_7, P114_8⟩ := hQ114
                        have N114 := Fr.app N111 Nq114
                        have E122_b4 := Exa.keep E106_b4 Kq114
                        have E122_b6 := Exa.keep E106_b6 Kq114
                        have E122_b8 := Exa.keep E106_b8 Kq114
                        have E122_b10 := Exa.keep E106_b10 Kq114
                        have Z114 : n0 ≤ T114.heap.size := Nat.le_trans Z104 Kq114.1
                        show Go p e below _ (T114.setTop (mkF m 277 _ []))
                        refine o_aload X114 hx (hb hby at_277) (pc' := 279) rfl rfl rfl ?_
                        refine o_aload X114 hx (hb hby at_279) (pc' := 281) rfl rfl rfl ?_
                        refine o_callV X114 hx hZ 0 (argsL := [.ref b4]) (rest := []) (a := b12) hown (w 48 _ rfl) (w 49 _ rfl) (w 51 _ rfl) (w 50 _ rfl) (w 4 _ rfl) (w 52 _ rfl) (by decide) (rm9s14 l Z a0 hw [] _ _ _ _ _ _ T114.heap n0 Z114 P114_0 P114_1 P114_5 E122_b6 E122_b8 E122_b4 P114_6 On14_0 ne_b12_bn14_0 (Ne.symm ne_b6_b12) (Ne.symm ne_b6_bn14_0) (Ne.symm ne_b8_b12) (Ne.symm ne_b8_bn14_0) ne_b6_b8 (Ne.symm ne_b4_b12) (Ne.symm ne_b4_bn14_0) (Ne.symm ne_b4_b6) (Ne.symm ne_b4_b8)) P114_0 (by decide) (by decide) (cells' := 8) rfl (slots' := 33) rfl (by decide) (by decide) rfl (by rw [hml]; rfl) (lenOf pd_4 rfl) rfl rfl (hb hby at_281) (pc' := 284) rfl ?_
                        intro T123 v123 L123 X123 hQ123
                        obtain ⟨rfl, Nq123, e123⟩ := hQ123
                        have N123 := Fr.app N114 Nq123
                        show Go p e below _ (T123.setTop (mkF m 284 _ [.int (-1 : Int32)]))
                        refine o_istore X123 hx (hb hby at_284) (pc' := 286) rfl (L' := #[.val (.long q0), .second, .val (.long q1), .second, .val (.long q2), .second, .val (.int q3), .val (.int (3 : Int32)), .val (.int (0 : Int32)), .val (.int (o2 q0 q1 q2 q3)), .val (.long (o0 q0 q1 q2 q3)), .second, .val (.long (1 : Int64)), .second, .val (.long (o1 q0 q1 q2 q3)), .second, .val (.ref b4), .val (.ref b6), .val (.ref b8), .val (.ref b10), .val (.ref b12), .val (.int (0 : Int32)), .val (.int (1 : Int32)), .val (.int (2 : Int32)), .val (.int (0 : Int32)), .val (.int (-1 : Int32)), .unset, .unset]) rfl ?_
                        refine o_aload X123 hx (hb hby at_286) (pc' := 288) rfl rfl rfl ?_
                        refine o_aload X123 hx (hb hby at_288) (pc' := 290) rfl rfl rfl ?_
                        refine o_callV X123 hx hZ 0 (argsL := [.ref b6]) (rest := []) (a := b12) hown (w 48 _ rfl) (w 49 _ rfl) (w 51 _ rfl) (w 50 _ rfl) (w 4 _ rfl) (w 52 _ rfl) (by decide) (rm9s12 l Z a0 hw [] _ _ _ _ _ T114.heap n0 Z114 P114_0 P114_1 P114_5 E122_b6 E122_b8 P114_6 On14_0 ne_b12_bn14_0 (Ne.symm ne_b6_b12) (Ne.symm ne_b6_bn14_0) (Ne.symm ne_b8_b12) (Ne.symm ne_b8_bn14_0) ne_b6_b8) P114_0 (by decide) (by decide) (cells' := 8) rfl (slots' := 33) rfl (by decide) (by decide) e123 (by rw [hml]; rfl) (lenOf pd_4 rfl) rfl rfl (hb hby at_290) (pc' := 293) rfl ?_
                        intro T124 v124 L124 X124 hQ124
                        obtain ⟨rfl, Nq124, e124⟩ := hQ124
                        have N124 := Fr.app N123 Nq124
                        show Go p e below _ (T124.setTop (mkF m 293 _ [.int (0 : Int32)]))
                        refine o_istore X124 hx (hb hby at_293) (pc' := 295) rfl (L' := #[.val (.long q0), .second, .val (.long q1), .second, .val (.long q2), .second, .val (.int q3), .val (.int (3 : Int32)), .val (.int (0 : Int32)), .val (.int (o2 q0 q1 q2 q3)), .val (.long (o0 q0 q1 q2 q3)), .second, .val (.long (1 : Int64)), .second, .val (.long (o1 q0 q1 q2 q3)), .second, .val (.ref b4), .val (.ref b6), .val (.ref b8), .val (.ref b10), .val (.ref b12), .val (.int (0 : Int32)), .val (.int (1 : Int32)), .val (.int (2 : Int32)), .val (.int (0 : Int32)), .val (.int (-1 : Int32)), .val (.int (0 : Int32)), .unset]) rfl ?_
                        refine o_aload X124 hx (hb hby at_295) (pc' := 297) rfl rfl rfl ?_
                        refine o_aload X124 hx (hb hby at_297) (pc' := 299) rfl rfl rfl ?_
                        refine o_callV X124 hx hZ 0 (argsL := [.ref b8]) (rest := []) (a := b12) hown (w 48 _ rfl) (w 49 _ rfl) (w 51 _ rfl) (w 50 _ rfl) (w 4 _ rfl) (w 52 _ rfl) (by decide) (rm9s13 l Z a0 hw [] _ _ _ _ _ T114.heap n0 Z114 P114_0 P114_1 P114_5 E122_b6 E122_b8 P114_6 On14_0 ne_b12_bn14_0 (Ne.symm ne_b6_b12) (Ne.symm ne_b6_bn14_0) (Ne.symm ne_b8_b12) (Ne.symm ne_b8_bn14_0) ne_b6_b8) P114_0 (by decide) (by decide) (cells' := 8) rfl (slots' := 33) rfl (by decide) (by decide) e124 (by rw [hml]; rfl) (lenOf pd_4 rfl) rfl rfl (hb hby at_299) (pc' := 302) rfl ?_
                        intro T125 v125 L125 X125 hQ125
                        obtain ⟨rfl, Nq125, e125⟩ := hQ125
                        have N125 := Fr.app N124 Nq125
                        show Go p e below _ (T125.setTop (mkF m 302 _ [.int (1 : Int32)]))
                        refine o_istore X125 hx (hb hby at_302) (pc' := 304) rfl (L' := #[.val (.long q0), .second, .val (.long q1), .second, .val (.long q2), .second, .val (.int q3), .val (.int (3 : Int32)), .val (.int (0 : Int32)), .val (.int (o2 q0 q1 q2 q3)), .val (.long (o0 q0 q1 q2 q3)), .second, .val (.long (1 : Int64)), .second, .val (.long (o1 q0 q1 q2 q3)), .second, .val (.ref b4), .val (.ref b6), .val (.ref b8), .val (.ref b10), .val (.ref b12), .val (.int (0 : Int32)), .val (.int (1 : Int32)), .val (.int (2 : Int32)), .val (.int (0 : Int32)), .val (.int (-1 : Int32)), .val (.int (0 : Int32)), .val (.int (1 : Int32))]) rfl ?_
                        refine o_aload X125 hx (hb hby at_304) (pc' := 306) rfl rfl rfl ?_
                        refine o_aload X125 hx (hb hby at_306) (pc' := 308) rfl rfl rfl ?_
                        refine o_callV X125 hx hZ 0 (argsL := [.ref b10]) (rest := []) (a := b12) hown (w 48 _ rfl) (w 49 _ rfl) (w 51 _ rfl) (w 50 _ rfl) (w 4 _ rfl) (w 52 _ rfl) (by decide) (rm9s14 l Z a0 hw [] _ _ _ _ _ _ T114.heap n0 Z114 P114_0 P114_1 P114_5 E122_b6 E122_b8 E122_b10 P114_6 On14_0 ne_b12_bn14_0 (Ne.symm ne_b6_b12) (Ne.symm ne_b6_bn14_0) (Ne.symm ne_b8_b12) (Ne.symm ne_b8_bn14_0) ne_b6_b8 (Ne.symm ne_b10_b12) (Ne.symm ne_b10_bn14_0) ne_b6_b10 ne_b8_b10) P114_0 (by decide) (by decide) (cells' := 8) rfl (slots' := 33) rfl (by decide) (by decide) e125 (by rw [hml]; rfl) (lenOf pd_4 rfl) rfl rfl (hb hby at_308) (pc' := 311) rfl ?_
                        intro T126 v126 L126 X126 hQ126
                        obtain ⟨rfl, Nq126, e126⟩ := hQ126
                        have N126 := Fr.app N125 Nq126
                        show Go p e below _ (T126.setTop (mkF m 311 _ [.int (-1 : Int32)]))
                        refine o_iconst X126 hx (-1 : Int32) (hb hby at_311) (pc' := 312) rfl (by decide) ?_
                        refine o_cmpY X126 hx (hb hby at_312) (teq (by decide : (-1 : Int32) = (-1 : Int32))).1 (by decide) (pc' := 317) (by decide) ?_
                        refine o_iload X126 hx (hb hby at_317) (pc' := 319) rfl rfl ?_
                        refine o_ifN X126 hx (hb hby at_319) (tlt (by decide : (0 : Int32) < (3 : Int32))).2.2.2 (pc' := 322) rfl ?_
                        refine o_iload X126 hx (hb hby at_322) (pc' := 324) rfl rfl ?_
                        refine o_ifY X126 hx (hb hby at_324) (teq (by decide : (0 : Int32) = (0 : Int32))).1 (by decide) (pc' := 331) (by decide) ?_
                        refine o_iconst X126 hx (0 : Int32) (hb hby at_331) (pc' := 332) rfl (by decide) ?_
                        refine o_iload X126 hx (hb hby at_332) (pc' := 334) rfl rfl ?_
                        refine o_iconst X126 hx (1 : Int32) (hb hby at_334) (pc' := 335) rfl (by decide) ?_
                        refine o_cmpN X126 hx (hb hby at_335) (tlt (by decide : (1 : Int32) < (3 : Int32))).2.2.2 (pc' := 338) rfl ?_
                        refine o_iload X126 hx (hb hby at_338) (pc' := 340) rfl rfl ?_
                        refine o_iconst X126 hx (1 : Int32) (hb hby at_340) (pc' := 341) rfl (by decide) ?_
                        refine o_cmpN X126 hx (hb hby at_341) (feq (by decide : ¬ ((0 : Int32) = (1 : Int32)))).1 (pc' := 344) rfl ?_
                        refine o_iconst X126 hx (1 : Int32) (hb hby at_344) (pc' := 345) rfl (by decide) ?_
                        refine o_goto X126 hx (hb hby at_345) (by decide) (pc' := 349) (by decide) ?_
                        refine o_iload X126 hx (hb hby at_349) (pc' := 351) rfl rfl ?_
                        refine o_iconst X126 hx (2 : Int32) (hb hby at_351) (pc' := 352) rfl (by decide) ?_
                        refine o_cmpN X126 hx (hb hby at_352) (tlt (by decide : (2 : Int32) < (3 : Int32))).2.2.2 (pc' := 355) rfl ?_
                        refine o_iload X126 hx (hb hby at_355) (pc' := 357) rfl rfl ?_
                        refine o_iconst X126 hx (2 : Int32) (hb hby at_357) (pc' := 358) rfl (by decide) ?_
                        refine o_cmpN X126 hx (hb hby at_358) (feq (by decide : ¬ ((0 : Int32) = (2 : Int32)))).1 (pc' := 361) rfl ?_
                        refine o_iconst X126 hx (1 : Int32) (hb hby at_361) (pc' := 362) rfl (by decide) ?_
                        refine o_goto X126 hx (hb hby at_362) (by decide) (pc' := 366) (by decide) ?_
                        refine o_iload X126 hx (hb hby at_366) (pc' := 368) rfl rfl ?_
                        refine o_iload X126 hx (hb hby at_368) (pc' := 370) rfl rfl ?_
                        refine o_iload X126 hx (hb hby at_370) (pc' := 372) rfl rfl ?_
                        refine o_lloadN X126 hx (hb hby at_372) (pc' := 373) rfl rfl ?_
                        refine o_lload X126 hx (hb hby at_373) (pc' := 375) rfl rfl ?_
                        refine o_lloadN X126 hx (hb hby at_375) (pc' := 376) rfl rfl ?_
                        refine o_lload X126 hx (hb hby at_376) (pc' := 378) rfl rfl ?_
                        refine o_lload X126 hx (hb hby at_378) (pc' := 380) rfl rfl ?_
                        refine o_lload X126 hx (hb hby at_380) (pc' := 382) rfl rfl ?_
                        refine o_callS X126 hx hZ 0 (argsL := [.int (0 : Int32), .int (1 : Int32), .int (1 : Int32), .int (-1 : Int32), .int (0 : Int32), .int (1 : Int32), .long q0, .long (o0 q0 q1 q2 q3), .long q1, .long (1 : Int64), .long q2, .long (o1 q0 q1 q2 q3)]) (rest := []) hown (w 53 _ rfl) (w 54 _ rfl) (w 55 _ rfl) (w 56 _ rfl) (by decide) (rm10 l Z a0 hw [] (0 : Int32) (1 : Int32) (1 : Int32) (-1 : Int32) (0 : Int32) (1 : Int32) q0 (o0 q0 q1 q2 q3) q1 (1 : Int64) q2 (o1 q0 q1 q2 q3) T114.heap n0 Z114 ) (by decide) (by decide) (cells' := 8) rfl (slots' := 33) rfl (by decide) (by decide) e126 (by rw [hml]; rfl) (lenOf pd_5 rfl) rfl rfl (hb hby at_382) (pc' := 385) rfl ?_
                        intro T127 v127 L127 X127 hQ127
                        obtain ⟨rfl, Nq127, e127⟩ := hQ127
                        have N127 := Fr.app N126 Nq127
                        show Go p e below _ (T127.setTop (mkF m 385 _ [.int (o3 (0 : Int32) (1 : Int32) (1 : Int32) (-1 : Int32) (0 : Int32) (1 : Int32) q0 (o0 q0 q1 q2 q3) q1 (1 : Int64) q2 (o1 q0 q1 q2 q3))]))
                        rw [← hOWE]
                        exact o_retZ X127 hx (own_narZ (o24 (0 : Int32) (1 : Int32) (1 : Int32) (-1 : Int32) (0 : Int32) (1 : Int32) q0 (o0 q0 q1 q2 q3) q1 (1 : Int64) q2 (o1 q0 q1 q2 q3))) hlk hrt (hb hby at_385) (by decide) (by decide) (by rw [e127]; exact ⟨(by rw [o7, o10, o9, o8, if_neg hs16, if_neg hs26, if_neg hs45, if_pos hm120_102, if_pos hm137_105, if_neg hc231_112, if_pos hs113, if_neg hm274_115]), N127⟩)
                    · by_cases hs128 : (o4 q0 q1 q2 q3) = (1 : Int32)
                      · rw [hs128]
                        refine o_iload X111 hx (hb hby at_236) (pc' := 238) rfl rfl ?_
                        refine o_iload X111 hx (hb hby at_238) (pc' := 240) rfl rfl ?_
                        refine o_cmpY X111 hx (hb hby at_240) (tlt (by decide : (1 : Int32) < (3 : Int32))).1 (by decide) (pc' := 245) (by decide) ?_
                        refine o_iload X111 hx (hb hby at_245) (pc' := 247) rfl rfl ?_
                        refine o_ifY X111 hx (hb hby at_247) (feq (by decide : ¬ ((1 : Int32) = (0 : Int32)))).2 (by decide) (pc' := 255) (by decide) ?_
                        refine o_iload X111 hx (hb hby at_255) (pc' := 257) rfl rfl ?_
                        refine o_iconst X111 hx (1 : Int32) (hb hby at_257) (pc' := 258) rfl (by decide) ?_
                        refine o_cmpN X111 hx (hb hby at_258) (teq (by decide : (1 : Int32) = (1 : Int32))).2 (pc' := 261) rfl ?_
                        refine o_iload X111 hx (hb hby at_261) (pc' := 263) rfl rfl ?_
                        refine o_goto X111 hx (hb hby at_263) (by decide) (pc' := 268) (by decide) ?_
                        refine o_istore X111 hx (hb hby at_268) (pc' := 270) rfl (L' := #[.val (.long q0), .second, .val (.long q1), .second, .val (.long q2), .second, .val (.int q3), .val (.int (3 : Int32)), .val (.int (1 : Int32)), .val (.int (o2 q0 q1 q2 q3)), .val (.long (o0 q0 q1 q2 q3)), .second, .val (.long (1 : Int64)), .second, .val (.long (o1 q0 q1 q2 q3)), .second, .val (.ref b4), .val (.ref b6), .val (.ref b8), .val (.ref b10), .val (.ref b12), .val (.int (0 : Int32)), .val (.int (1 : Int32)), .val (.int (2 : Int32)), .val (.int (1 : Int32)), .unset, .unset, .unset]) rfl ?_
                        refine o_aload X111 hx (hb hby at_270) (pc' := 272) rfl rfl rfl ?_
                        refine o_iload X111 hx (hb hby at_272) (pc' := 274) rfl rfl ?_
                        refine o_callV X111 hx hZ 0 (argsL := [.int (1 : Int32)]) (rest := []) (a := b12) hown (w 63 _ rfl) (w 64 _ rfl) (w 66 _ rfl) (w 65 _ rfl) (w 4 _ rfl) (w 67 _ rfl) (by decide) (rm13s30 l Z a0 hw [] _ _ _ _ _ _ _ _ _ _ _ _ _ _ _ _ _ _ _ _ _ _ _ _ _ _ T104.heap n0 Z104 P104_0 P104_1 P104_2 P104_3 P104_4 P104_5 g_b12 E106_b4 E106_b6 E106_b8 P104_6 On14_0 gn14_0 P104_7 gn14_1 P104_8 gn14_2 ne_b12_bn14_0 (Ne.symm ne_b4_b12) (Ne.symm ne_b4_bn14_0) (Ne.symm ne_b6_b12) (Ne.symm ne_b6_bn14_0) ne_b4_b6 (Ne.symm ne_b8_b12) (Ne.symm ne_b8_bn14_0) ne_b4_b8 ne_b6_b8 ne_b12_bn14_1 nn14_0_1 ne_b4_bn14_1 ne_b6_bn14_1 ne_b8_bn14_1 ne_b12_bn14_2 nn14_0_2 ne_b4_bn14_2 ne_b6_bn14_2 ne_b8_bn14_2 nn14_1_2) P104_0 (by decide) (by decide) (cells' := 8) rfl (slots' := 33) rfl (by decide) (by decide) e111 (by rw [hml]; rfl) (lenOf pd_10 rfl) rfl rfl (hb hby at_274) (pc' := 277) rfl ?_
                        intro T129 v129 L129 X129 hQ129
                        obtain ⟨-, hQ129⟩ := hQ129.resolve_right (fun q => q.1 hm137_105)
                        obtain ⟨rfl, Nq129, Kq129, P129_0, P129_1, P129_2, P129_3, P129_4, P129_5, P129_6, P129_7, P129_8⟩ := hQ129
                        have N129 := Fr.app N111 Nq129
                        have E130_b4 := Exa.keep E106_b4 Kq129
                        have E130_b6 := Exa.keep E106_b6 Kq129
                        have E130_b8 := Exa.keep E106_b8 Kq129
                        have E130_b10 := Exa.keep E106_b10 Kq129
                        have Z129 : n0 ≤ T129.heap.size := Nat.le_trans Z104 Kq129.1
                        show Go p e below _ (T129.setTop (mkF m 277 _ []))
                        refine o_aload X129 hx (hb hby at_277) (pc' := 279) rfl rfl rfl ?_
                        refine o_aload X129 hx (hb hby at_279) (pc' := 281) rfl rfl rfl ?_
                        refine o_callV X129 hx hZ 0 (argsL := [.ref b4]) (rest := []) (a := b12) hown (w 48 _ rfl) (w 49 _ rfl) (w 51 _ rfl) (w 50 _ rfl) (w 4 _ rfl) (w 52 _ rfl) (by decide) (rm9s12 l Z a0 hw [] _ _ _ _ _ T129.heap n0 Z129 P129_0 P129_1 P129_5 E130_b4 E130_b8 P129_6 On14_0 ne_b12_bn14_0 (Ne.symm ne_b4_b12) (Ne.symm ne_b4_bn14_0) (Ne.symm ne_b8_b12) (Ne.symm ne_b8_bn14_0) ne_b4_b8) P129_0 (by decide) (by decide) (cells' := 8) rfl (slots' := 33) rfl (by decide) (by decide) rfl (by rw [hml]; rfl) (lenOf pd_4 rfl) rfl rfl (hb hby at_281) (pc' := 284) rfl ?_
                        intro T131 v131 L131 X131 hQ131
                        obtain ⟨rfl, Nq131, e131⟩ := hQ131
                        have N131 := Fr.app N129 Nq131
                        show Go p e below _ (T131.setTop (mkF m 284 _ [.int (0 : Int32)]))
                        refine o_istore X131 hx (hb hby at_284) (pc' := 286) rfl (L' := #[.val (.long q0), .second, .val (.long q1), .second, .val (.long q2), .second, .val (.int q3), .val (.int (3 : Int32)), .val (.int (1 : Int32)), .val (.int (o2 q0 q1 q2 q3)), .val (.long (o0 q0 q1 q2 q3)), .second, .val (.long (1 : Int64)), .second, .val (.long (o1 q0 q1 q2 q3)), .second, .val (.ref b4), .val (.ref b6), .val (.ref b8), .val (.ref b10), .val (.ref b12), .val (.int (0 : Int32)), .val (.int (1 : Int32)), .val (.int (2 : Int32)), .val (.int (1 : Int32)), .val (.int (0 : Int32)), .unset, .unset]) rfl ?_
                        refine o_aload X131 hx (hb hby at_286) (pc' := 288) rfl rfl rfl ?_
                        refine o_aload X131 hx (hb hby at_288) (pc' := 290) rfl rfl rfl ?_
                        refine o_callV X131 hx hZ 0 (argsL := [.ref b6]) (rest := []) (a := b12) hown (w 48 _ rfl) (w 49 _ rfl) (w 51 _ rfl) (w 50 _ rfl) (w 4 _ rfl) (w 52 _ rfl) (by decide) (rm9s14 l Z a0 hw [] _ _ _ _ _ _ T129.heap n0 Z129 P129_0 P129_1 P129_5 E130_b4 E130_b8 E130_b6 P129_6 On14_0 ne_b12_bn14_0 (Ne.symm ne_b4_b12) (Ne.symm ne_b4_bn14_0) (Ne.symm ne_b8_b12) (Ne.symm ne_b8_bn14_0) ne_b4_b8 (Ne.symm ne_b6_b12) (Ne.symm ne_b6_bn14_0) ne_b4_b6 (Ne.symm ne_b6_b8)) P129_0 (by decide) (by decide) (cells' := 8) rfl (slots' := 33) rfl (by decide) (by decide) e131 (by rw [hml]; rfl) (lenOf pd_4 rfl) rfl rfl (hb hby at_290) (pc' := 293) rfl ?_
                        intro T132 v132 L132 X132 hQ132
                        obtain ⟨rfl, Nq132, e132⟩ := hQ132
                        have N132 := Fr.app N131 Nq132
                        show Go p e below _ (T132.setTop (mkF m 293 _ [.int (-1 : Int32)]))
                        refine o_istore X132 hx (hb hby at_293) (pc' := 295) rfl (L' := #[.val (.long q0), .second, .val (.long q1), .second, .val (.long q2), .second, .val (.int q3), .val (.int (3 : Int32)), .val (.int (1 : Int32)), .val (.int (o2 q0 q1 q2 q3)), .val (.long (o0 q0 q1 q2 q3)), .second, .val (.long (1 : Int64)), .second, .val (.long (o1 q0 q1 q2 q3)), .second, .val (.ref b4), .val (.ref b6), .val (.ref b8), .val (.ref b10), .val (.ref b12), .val (.int (0 : Int32)), .val (.int (1 : Int32)), .val (.int (2 : Int32)), .val (.int (1 : Int32)), .val (.int (0 : Int32)), .val (.int (-1 : Int32)), .unset]) rfl ?_
                        refine o_aload X132 hx (hb hby at_295) (pc' := 297) rfl rfl rfl ?_
                        refine o_aload X132 hx (hb hby at_297) (pc' := 299) rfl rfl rfl ?_
                        refine o_callV X132 hx hZ 0 (argsL := [.ref b8]) (rest := []) (a := b12) hown (w 48 _ rfl) (w 49 _ rfl) (w 51 _ rfl) (w 50 _ rfl) (w 4 _ rfl) (w 52 _ rfl) (by decide) (rm9s13 l Z a0 hw [] _ _ _ _ _ T129.heap n0 Z129 P129_0 P129_1 P129_5 E130_b4 E130_b8 P129_6 On14_0 ne_b12_bn14_0 (Ne.symm ne_b4_b12) (Ne.symm ne_b4_bn14_0) (Ne.symm ne_b8_b12) (Ne.symm ne_b8_bn14_0) ne_b4_b8) P129_0 (by decide) (by decide) (cells' := 8) rfl (slots' := 33) rfl (by decide) (by decide) e132 (by rw [hml]; rfl) (lenOf pd_4 rfl) rfl rfl (hb hby at_299) (pc' := 302) rfl ?_
                        intro T133 v133 L133 X133 hQ133
                        obtain ⟨rfl, Nq133, e133⟩ := hQ133
                        have N133 := Fr.app N132 Nq133
                        show Go p e below _ (T133.setTop (mkF m 302 _ [.int (1 : Int32)]))
                        refine o_istore X133 hx (hb hby at_302) (pc' := 304) rfl (L' := #[.val (.long q0), .second, .val (.long q1), .second, .val (.long q2), .second, .val (.int q3), .val (.int (3 : Int32)), .val (.int (1 : Int32)), .val (.int (o2 q0 q1 q2 q3)), .val (.long (o0 q0 q1 q2 q3)), .second, .val (.long (1 : Int64)), .second, .val (.long (o1 q0 q1 q2 q3)), .second, .val (.ref b4), .val (.ref b6), .val (.ref b8), .val (.ref b10), .val (.ref b12), .val (.int (0 : Int32)), .val (.int (1 : Int32)), .val (.int (2 : Int32)), .val (.int (1 : Int32)), .val (.int (0 : Int32)), .val (.int (-1 : Int32)), .val (.int (1 : Int32))]) rfl ?_
                        refine o_aload X133 hx (hb hby at_304) (pc' := 306) rfl rfl rfl ?_
                        refine o_aload X133 hx (hb hby at_306) (pc' := 308) rfl rfl rfl ?_
                        refine o_callV X133 hx hZ 0 (argsL := [.ref b10]) (rest := []) (a := b12) hown (w 48 _ rfl) (w 49 _ rfl) (w 51 _ rfl) (w 50 _ rfl) (w 4 _ rfl) (w 52 _ rfl) (by decide) (rm9s14 l Z a0 hw [] _ _ _ _ _ _ T129.heap n0 Z129 P129_0 P129_1 P129_5 E130_b4 E130_b8 E130_b10 P129_6 On14_0 ne_b12_bn14_0 (Ne.symm ne_b4_b12) (Ne.symm ne_b4_bn14_0) (Ne.symm ne_b8_b12) (Ne.symm ne_b8_bn14_0) ne_b4_b8 (Ne.symm ne_b10_b12) (Ne.symm ne_b10_bn14_0) ne_b4_b10 ne_b8_b10) P129_0 (by decide) (by decide) (cells' := 8) rfl (slots' := 33) rfl (by decide) (by decide) e133 (by rw [hml]; rfl) (lenOf pd_4 rfl) rfl rfl (hb hby at_308) (pc' := 311) rfl ?_
                        intro T134 v134 L134 X134 hQ134
                        obtain ⟨rfl, Nq134, e134⟩ := hQ134
                        have N134 := Fr.app N133 Nq134
                        show Go p e below _ (T134.setTop (mkF m 311 _ [.int (-1 : Int32)]))
                        refine o_iconst X134 hx (-1 : Int32) (hb hby at_311) (pc' := 312) rfl (by decide) ?_
                        refine o_cmpY X134 hx (hb hby at_312) (teq (by decide : (-1 : Int32) = (-1 : Int32))).1 (by decide) (pc' := 317) (by decide) ?_
                        refine o_iload X134 hx (hb hby at_317) (pc' := 319) rfl rfl ?_
                        refine o_ifN X134 hx (hb hby at_319) (tlt (by decide : (0 : Int32) < (3 : Int32))).2.2.2 (pc' := 322) rfl ?_
                        refine o_iload X134 hx (hb hby at_322) (pc' := 324) rfl rfl ?_
                        refine o_ifN X134 hx (hb hby at_324) (feq (by decide : ¬ ((1 : Int32) = (0 : Int32)))).1 (pc' := 327) rfl ?_
                        refine o_iconst X134 hx (1 : Int32) (hb hby at_327) (pc' := 328) rfl (by decide) ?_
                        refine o_goto X134 hx (hb hby at_328) (by decide) (pc' := 332) (by decide) ?_
                        refine o_iload X134 hx (hb hby at_332) (pc' := 334) rfl rfl ?_
                        refine o_iconst X134 hx (1 : Int32) (hb hby at_334) (pc' := 335) rfl (by decide) ?_
                        refine o_cmpN X134 hx (hb hby at_335) (tlt (by decide : (1 : Int32) < (3 : Int32))).2.2.2 (pc' := 338) rfl ?_
                        refine o_iload X134 hx (hb hby at_338) (pc' := 340) rfl rfl ?_
                        refine o_iconst X134 hx (1 : Int32) (hb hby at_340) (pc' := 341) rfl (by decide) ?_
                        refine o_cmpY X134 hx (hb hby at_341) (teq (by decide : (1 : Int32) = (1 : Int32))).1 (by decide) (pc' := 348) (by decide) ?_
                        refine o_iconst X134 hx (0 : Int32) (hb hby at_348) (pc' := 349) rfl (by decide) ?_
                        refine o_iload X134 hx (hb hby at_349) (pc' := 351) rfl rfl ?_
                        refine o_iconst X134 hx (2 : Int32) (hb hby at_351) (pc' := 352) rfl (by decide) ?_
                        refine o_cmpN X134 hx (hb hby at_352) (tlt (by decide : (2 : Int32) < (3 : Int32))).2.2.2 (pc' := 355) rfl ?_
                        refine o_iload X134 hx (hb hby at_355) (pc' := 357) rfl rfl ?_
                        refine o_iconst X134 hx (2 : Int32) (hb hby at_357) (pc' := 358) rfl (by decide) ?_
                        refine o_cmpN X134 hx (hb hby at_358) (feq (by decide : ¬ ((1 : Int32) = (2 : Int32)))).1 (pc' := 361) rfl ?_
                        refine o_iconst X134 hx (1 : Int32) (hb hby at_361) (pc' := 362) rfl (by decide) ?_
                        refine o_goto X134 hx (hb hby at_362) (by decide) (pc' := 366) (by decide) ?_
                        refine o_iload X134 hx (hb hby at_366) (pc' := 368) rfl rfl ?_
                        refine o_iload X134 hx (hb hby at_368) (pc' := 370) rfl rfl ?_
                        refine o_iload X134 hx (hb hby at_370) (pc' := 372) rfl rfl ?_
                        refine o_lloadN X134 hx (hb hby at_372) (pc' := 373) rfl rfl ?_
                        refine o_lload X134 hx (hb hby at_373) (pc' := 375) rfl rfl ?_
                        refine o_lloadN X134 hx (hb hby at_375) (pc' := 376) rfl rfl ?_
                        refine o_lload X134 hx (hb hby at_376) (pc' := 378) rfl rfl ?_
                        refine o_lload X134 hx (hb hby at_378) (pc' := 380) rfl rfl ?_
                        refine o_lload X134 hx (hb hby at_380) (pc' := 382) rfl rfl ?_
                        refine o_callS X134 hx hZ 0 (argsL := [.int (1 : Int32), .int (0 : Int32), .int (1 : Int32), .int (0 : Int32), .int (-1 : Int32), .int (1 : Int32), .long q0, .long (o0 q0 q1 q2 q3), .long q1, .long (1 : Int64), .long q2, .long (o1 q0 q1 q2 q3)]) (rest := []) hown (w 53 _ rfl) (w 54 _ rfl) (w 55 _ rfl) (w 56 _ rfl) (by decide) (rm10 l Z a0 hw [] (1 : Int32) (0 : Int32) (1 : Int32) (0 : Int32) (-1 : Int32) (1 : Int32) q0 (o0 q0 q1 q2 q3) q1 (1 : Int64) q2 (o1 q0 q1 q2 q3) T129.heap n0 Z129 ) (by decide) (by decide) (cells' := 8) rfl (slots' := 33) rfl (by decide) (by decide) e134 (by rw [hml]; rfl) (lenOf pd_5 rfl) rfl rfl (hb hby at_382) (pc' := 385) rfl ?_
                        intro T135 v135 L135 X135 hQ135
                        obtain ⟨rfl, Nq135, e135⟩ := hQ135
                        have N135 := Fr.app N134 Nq135
                        show Go p e below _ (T135.setTop (mkF m 385 _ [.int (o3 (1 : Int32) (0 : Int32) (1 : Int32) (0 : Int32) (-1 : Int32) (1 : Int32) q0 (o0 q0 q1 q2 q3) q1 (1 : Int64) q2 (o1 q0 q1 q2 q3))]))
                        rw [← hOWE]
                        exact o_retZ X135 hx (own_narZ (o24 (1 : Int32) (0 : Int32) (1 : Int32) (0 : Int32) (-1 : Int32) (1 : Int32) q0 (o0 q0 q1 q2 q3) q1 (1 : Int64) q2 (o1 q0 q1 q2 q3))) hlk hrt (hb hby at_385) (by decide) (by decide) (by rw [e135]; exact ⟨(by rw [o7, o10, o9, o8, if_neg hs16, if_neg hs26, if_neg hs45, if_pos hm120_102, if_pos hm137_105, if_neg hc231_112, if_neg hs113, if_pos hs128]), N135⟩)
                      · have hs136 : (o4 q0 q1 q2 q3) = (2 : Int32) := (((o46 q0 q1 q2 q3)).resolve_left hs113).resolve_left hs128
                        rw [hs136]
                        refine o_iload X111 hx (hb hby at_236) (pc' := 238) rfl rfl ?_
                        refine o_iload X111 hx (hb hby at_238) (pc' := 240) rfl rfl ?_
                        refine o_cmpY X111 hx (hb hby at_240) (tlt (by decide : (2 : Int32) < (3 : Int32))).1 (by decide) (pc' := 245) (by decide) ?_
                        refine o_iload X111 hx (hb hby at_245) (pc' := 247) rfl rfl ?_
                        refine o_ifY X111 hx (hb hby at_247) (feq (by decide : ¬ ((2 : Int32) = (0 : Int32)))).2 (by decide) (pc' := 255) (by decide) ?_
                        refine o_iload X111 hx (hb hby at_255) (pc' := 257) rfl rfl ?_
                        refine o_iconst X111 hx (1 : Int32) (hb hby at_257) (pc' := 258) rfl (by decide) ?_
                        refine o_cmpY X111 hx (hb hby at_258) (feq (by decide : ¬ ((2 : Int32) = (1 : Int32)))).2 (by decide) (pc' := 266) (by decide) ?_
                        refine o_iload X111 hx (hb hby at_266) (pc' := 268) rfl rfl ?_
                        refine o_istore X111 hx (hb hby at_268) (pc' := 270) rfl (L' := #[.val (.long q0), .second, .val (.long q1), .second, .val (.long q2), .second, .val (.int q3), .val (.int (3 : Int32)), .val (.int (2 : Int32)), .val (.int (o2 q0 q1 q2 q3)), .val (.long (o0 q0 q1 q2 q3)), .second, .val (.long (1 : Int64)), .second, .val (.long (o1 q0 q1 q2 q3)), .second, .val (.ref b4), .val (.ref b6), .val (.ref b8), .val (.ref b10), .val (.ref b12), .val (.int (0 : Int32)), .val (.int (1 : Int32)), .val (.int (2 : Int32)), .val (.int (2 : Int32)), .unset, .unset, .unset]) rfl ?_
                        refine o_aload X111 hx (hb hby at_270) (pc' := 272) rfl rfl rfl ?_
                        refine o_iload X111 hx (hb hby at_272) (pc' := 274) rfl rfl ?_
                        refine o_callV X111 hx hZ 0 (argsL := [.int (2 : Int32)]) (rest := []) (a := b12) hown (w 63 _ rfl) (w 64 _ rfl) (w 66 _ rfl) (w 65 _ rfl) (w 4 _ rfl) (w 67 _ rfl) (by decide) (rm13s33 l Z a0 hw [] _ _ _ _ _ _ _ _ _ _ _ _ _ _ _ _ _ _ _ _ _ _ _ _ _ _ T104.heap n0 Z104 P104_0 P104_1 P104_2 P104_3 P104_4 P104_5 g_b12 E106_b4 E106_b6 E106_b8 P104_6 On14_0 gn14_0 P104_7 gn14_1 P104_8 gn14_2 ne_b12_bn14_0 (Ne.symm ne_b4_b12) (Ne.symm ne_b4_bn14_0) (Ne.symm ne_b6_b12) (Ne.symm ne_b6_bn14_0) ne_b4_b6 (Ne.symm ne_b8_b12) (Ne.symm ne_b8_bn14_0) ne_b4_b8 ne_b6_b8 ne_b12_bn14_1 nn14_0_1 ne_b4_bn14_1 ne_b6_bn14_1 ne_b8_bn14_1 ne_b12_bn14_2 nn14_0_2 ne_b4_bn14_2 ne_b6_bn14_2 ne_b8_bn14_2 nn14_1_2) P104_0 (by decide) (by decide) (cells' := 8) rfl (slots' := 33) rfl (by decide) (by decide) e111 (by rw [hml]; rfl) (lenOf pd_10 rfl) rfl rfl (hb hby at_274) (pc' := 277) rfl ?_
                        intro T137 v137 L137 X137 hQ137
                        obtain ⟨rfl, Nq137, Kq137, P137_0, P137_1, P137_2, P137_3, P137_4, P137_5, P137_6, P137_7, P137_8⟩ := hQ137
                        have N137 := Fr.app N111 Nq137
                        have E138_b4 := Exa.keep E106_b4 Kq137
                        have E138_b6 := Exa.keep E106_b6 Kq137
                        have E138_b8 := Exa.keep E106_b8 Kq137
                        have E138_b10 := Exa.keep E106_b10 Kq137
                        have Z137 : n0 ≤ T137.heap.size := Nat.le_trans Z104 Kq137.1
                        show Go p e below _ (T137.setTop (mkF m 277 _ []))
                        refine o_aload X137 hx (hb hby at_277) (pc' := 279) rfl rfl rfl ?_
                        refine o_aload X137 hx (hb hby at_279) (pc' := 281) rfl rfl rfl ?_
                        refine o_callV X137 hx hZ 0 (argsL := [.ref b4]) (rest := []) (a := b12) hown (w 48 _ rfl) (w 49 _ rfl) (w 51 _ rfl) (w 50 _ rfl) (w 4 _ rfl) (w 52 _ rfl) (by decide) (rm9s12 l Z a0 hw [] _ _ _ _ _ T137.heap n0 Z137 P137_0 P137_1 P137_5 E138_b4 E138_b6 P137_6 On14_0 ne_b12_bn14_0 (Ne.symm ne_b4_b12) (Ne.symm ne_b4_bn14_0) (Ne.symm ne_b6_b12) (Ne.symm ne_b6_bn14_0) ne_b4_b6) P137_0 (by decide) (by decide) (cells' := 8) rfl (slots' := 33) rfl (by decide) (by decide) rfl (by rw [hml]; rfl) (lenOf pd_4 rfl) rfl rfl (hb hby at_281) (pc' := 284) rfl ?_
                        intro T139 v139 L139 X139 hQ139
                        obtain ⟨rfl, Nq139, e139⟩ := hQ139
                        have N139 := Fr.app N137 Nq139
                        show Go p e below _ (T139.setTop (mkF m 284 _ [.int (0 : Int32)]))
                        refine o_istore X139 hx (hb hby at_284) (pc' := 286) rfl (L' := #[.val (.long q0), .second, .val (.long q1), .second, .val (.long q2), .second, .val (.int q3), .val (.int (3 : Int32)), .val (.int (2 : Int32)), .val (.int (o2 q0 q1 q2 q3)), .val (.long (o0 q0 q1 q2 q3)), .second, .val (.long (1 : Int64)), .second, .val (.long (o1 q0 q1 q2 q3)), .second, .val (.ref b4), .val (.ref b6), .val (.ref b8), .val (.ref b10), .val (.ref b12), .val (.int (0 : Int32)), .val (.int (1 : Int32)), .val (.int (2 : Int32)), .val (.int (2 : Int32)), .val (.int (0 : Int32)), .unset, .unset]) rfl ?_
                        refine o_aload X139 hx (hb hby at_286) (pc' := 288) rfl rfl rfl ?_
                        refine o_aload X139 hx (hb hby at_288) (pc' := 290) rfl rfl rfl ?_
                        refine o_callV X139 hx hZ 0 (argsL := [.ref b6]) (rest := []) (a := b12) hown (w 48 _ rfl) (w 49 _ rfl) (w 51 _ rfl) (w 50 _ rfl) (w 4 _ rfl) (w 52 _ rfl) (by decide) (rm9s13 l Z a0 hw [] _ _ _ _ _ T137.heap n0 Z137 P137_0 P137_1 P137_5 E138_b4 E138_b6 P137_6 On14_0 ne_b12_bn14_0 (Ne.symm ne_b4_b12) (Ne.symm ne_b4_bn14_0) (Ne.symm ne_b6_b12) (Ne.symm ne_b6_bn14_0) ne_b4_b6) P137_0 (by decide) (by decide) (cells' := 8) rfl (slots' := 33) rfl (by decide) (by decide) e139 (by rw [hml]; rfl) (lenOf pd_4 rfl) rfl rfl (hb hby at_290) (pc' := 293) rfl ?_
                        intro T140 v140 L140 X140 hQ140
                        obtain ⟨rfl, Nq140, e140⟩ := hQ140
                        have N140 := Fr.app N139 Nq140
                        show Go p e below _ (T140.setTop (mkF m 293 _ [.int (1 : Int32)]))
                        refine o_istore X140 hx (hb hby at_293) (pc' := 295) rfl (L' := #[.val (.long q0), .second, .val (.long q1), .second, .val (.long q2), .second, .val (.int q3), .val (.int (3 : Int32)), .val (.int (2 : Int32)), .val (.int (o2 q0 q1 q2 q3)), .val (.long (o0 q0 q1 q2 q3)), .second, .val (.long (1 : Int64)), .second, .val (.long (o1 q0 q1 q2 q3)), .second, .val (.ref b4), .val (.ref b6), .val (.ref b8), .val (.ref b10), .val (.ref b12), .val (.int (0 : Int32)), .val (.int (1 : Int32)), .val (.int (2 : Int32)), .val (.int (2 : Int32)), .val (.int (0 : Int32)), .val (.int (1 : Int32)), .unset]) rfl ?_
                        refine o_aload X140 hx (hb hby at_295) (pc' := 297) rfl rfl rfl ?_
                        refine o_aload X140 hx (hb hby at_297) (pc' := 299) rfl rfl rfl ?_
                        refine o_callV X140 hx hZ 0 (argsL := [.ref b8]) (rest := []) (a := b12) hown (w 48 _ rfl) (w 49 _ rfl) (w 51 _ rfl) (w 50 _ rfl) (w 4 _ rfl) (w 52 _ rfl) (by decide) (rm9s14 l Z a0 hw [] _ _ _ _ _ _ T137.heap n0 Z137 P137_0 P137_1 P137_5 E138_b4 E138_b6 E138_b8 P137_6 On14_0 ne_b12_bn14_0 (Ne.symm ne_b4_b12) (Ne.symm ne_b4_bn14_0) (Ne.symm ne_b6_b12) (Ne.symm ne_b6_bn14_0) ne_b4_b6 (Ne.symm ne_b8_b12) (Ne.symm ne_b8_bn14_0) ne_b4_b8 ne_b6_b8) P137_0 (by decide) (by decide) (cells' := 8) rfl (slots' := 33) rfl (by decide) (by decide) e140 (by rw [hml]; rfl) (lenOf pd_4 rfl) rfl rfl (hb hby at_299) (pc' := 302) rfl ?_
                        intro T141 v141 L141 X141 hQ141
                        obtain ⟨rfl, Nq141, e141⟩ := hQ141
                        have N141 := Fr.app N140 Nq141
                        show Go p e below _ (T141.setTop (mkF m 302 _ [.int (-1 : Int32)]))
                        refine o_istore X141 hx (hb hby at_302) (pc' := 304) rfl (L' := #[.val (.long q0), .second, .val (.long q1), .second, .val (.long q2), .second, .val (.int q3), .val (.int (3 : Int32)), .val (.int (2 : Int32)), .val (.int (o2 q0 q1 q2 q3)), .val (.long (o0 q0 q1 q2 q3)), .second, .val (.long (1 : Int64)), .second, .val (.long (o1 q0 q1 q2 q3)), .second, .val (.ref b4), .val (.ref b6), .val (.ref b8), .val (.ref b10), .val (.ref b12), .val (.int (0 : Int32)), .val (.int (1 : Int32)), .val (.int (2 : Int32)), .val (.int (2 : Int32)), .val (.int (0 : Int32)), .val (.int (1 : Int32)), .val (.int (-1 : Int32))]) rfl ?_
                        refine o_aload X141 hx (hb hby at_304) (pc' := 306) rfl rfl rfl ?_
                        refine o_aload X141 hx (hb hby at_306) (pc' := 308) rfl rfl rfl ?_
                        refine o_callV X141 hx hZ 0 (argsL := [.ref b10]) (rest := []) (a := b12) hown (w 48 _ rfl) (w 49 _ rfl) (w 51 _ rfl) (w 50 _ rfl) (w 4 _ rfl) (w 52 _ rfl) (by decide) (rm9s14 l Z a0 hw [] _ _ _ _ _ _ T137.heap n0 Z137 P137_0 P137_1 P137_5 E138_b4 E138_b6 E138_b10 P137_6 On14_0 ne_b12_bn14_0 (Ne.symm ne_b4_b12) (Ne.symm ne_b4_bn14_0) (Ne.symm ne_b6_b12) (Ne.symm ne_b6_bn14_0) ne_b4_b6 (Ne.symm ne_b10_b12) (Ne.symm ne_b10_bn14_0) ne_b4_b10 ne_b6_b10) P137_0 (by decide) (by decide) (cells' := 8) rfl (slots' := 33) rfl (by decide) (by decide) e141 (by rw [hml]; rfl) (lenOf pd_4 rfl) rfl rfl (hb hby at_308) (pc' := 311) rfl ?_
                        intro T142 v142 L142 X142 hQ142
                        obtain ⟨rfl, Nq142, e142⟩ := hQ142
                        have N142 := Fr.app N141 Nq142
                        show Go p e below _ (T142.setTop (mkF m 311 _ [.int (-1 : Int32)]))
                        refine o_iconst X142 hx (-1 : Int32) (hb hby at_311) (pc' := 312) rfl (by decide) ?_
                        refine o_cmpY X142 hx (hb hby at_312) (teq (by decide : (-1 : Int32) = (-1 : Int32))).1 (by decide) (pc' := 317) (by decide) ?_
                        refine o_iload X142 hx (hb hby at_317) (pc' := 319) rfl rfl ?_
                        refine o_ifN X142 hx (hb hby at_319) (tlt (by decide : (0 : Int32) < (3 : Int32))).2.2.2 (pc' := 322) rfl ?_
                        refine o_iload X142 hx (hb hby at_322) (pc' := 324) rfl rfl ?_
                        refine o_ifN X142 hx (hb hby at_324) (feq (by decide : ¬ ((2 : Int32) = (0 : Int32)))).1 (pc' := 327) rfl ?_
                        refine o_iconst X142 hx (1 : Int32) (hb hby at_327) (pc' := 328) rfl (by decide) ?_
                        refine o_goto X142 hx (hb hby at_328) (by decide) (pc' := 332) (by decide) ?_
                        refine o_iload X142 hx (hb hby at_332) (pc' := 334) rfl rfl ?_
                        refine o_iconst X142 hx (1 : Int32) (hb hby at_334) (pc' := 335) rfl (by decide) ?_
                        refine o_cmpN X142 hx (hb hby at_335) (tlt (by decide : (1 : Int32) < (3 : Int32))).2.2.2 (pc' := 338) rfl ?_
                        refine o_iload X142 hx (hb hby at_338) (pc' := 340) rfl rfl ?_
                        refine o_iconst X142 hx (1 : Int32) (hb hby at_340) (pc' := 341) rfl (by decide) ?_
                        refine o_cmpN X142 hx (hb hby at_341) (feq (by decide : ¬ ((2 : Int32) = (1 : Int32)))).1 (pc' := 344) rfl ?_
                        refine o_iconst X142 hx (1 : Int32) (hb hby at_344) (pc' := 345) rfl (by decide) ?_
                        refine o_goto X142 hx (hb hby at_345) (by decide) (pc' := 349) (by decide) ?_
                        refine o_iload X142 hx (hb hby at_349) (pc' := 351) rfl rfl ?_
                        refine o_iconst X142 hx (2 : Int32) (hb hby at_351) (pc' := 352) rfl (by decide) ?_
                        refine o_cmpN X142 hx (hb hby at_352) (tlt (by decide : (2 : Int32) < (3 : Int32))).2.2.2 (pc' := 355) rfl ?_
                        refine o_iload X142 hx (hb hby at_355) (pc' := 357) rfl rfl ?_
                        refine o_iconst X142 hx (2 : Int32) (hb hby at_357) (pc' := 358) rfl (by decide) ?_
                        refine o_cmpY X142 hx (hb hby at_358) (teq (by decide : (2 : Int32) = (2 : Int32))).1 (by decide) (pc' := 365) (by decide) ?_
                        refine o_iconst X142 hx (0 : Int32) (hb hby at_365) (pc' := 366) rfl (by decide) ?_
                        refine o_iload X142 hx (hb hby at_366) (pc' := 368) rfl rfl ?_
                        refine o_iload X142 hx (hb hby at_368) (pc' := 370) rfl rfl ?_
                        refine o_iload X142 hx (hb hby at_370) (pc' := 372) rfl rfl ?_
                        refine o_lloadN X142 hx (hb hby at_372) (pc' := 373) rfl rfl ?_
                        refine o_lload X142 hx (hb hby at_373) (pc' := 375) rfl rfl ?_
                        refine o_lloadN X142 hx (hb hby at_375) (pc' := 376) rfl rfl ?_
                        refine o_lload X142 hx (hb hby at_376) (pc' := 378) rfl rfl ?_
                        refine o_lload X142 hx (hb hby at_378) (pc' := 380) rfl rfl ?_
                        refine o_lload X142 hx (hb hby at_380) (pc' := 382) rfl rfl ?_
                        refine o_callS X142 hx hZ 0 (argsL := [.int (1 : Int32), .int (1 : Int32), .int (0 : Int32), .int (0 : Int32), .int (1 : Int32), .int (-1 : Int32), .long q0, .long (o0 q0 q1 q2 q3), .long q1, .long (1 : Int64), .long q2, .long (o1 q0 q1 q2 q3)]) (rest := []) hown (w 53 _ rfl) (w 54 _ rfl) (w 55 _ rfl) (w 56 _ rfl) (by decide) (rm10 l Z a0 hw [] (1 : Int32) (1 : Int32) (0 : Int32) (0 : Int32) (1 : Int32) (-1 : Int32) q0 (o0 q0 q1 q2 q3) q1 (1 : Int64) q2 (o1 q0 q1 q2 q3) T137.heap n0 Z137 ) (by decide) (by decide) (cells' := 8) rfl (slots' := 33) rfl (by decide) (by decide) e142 (by rw [hml]; rfl) (lenOf pd_5 rfl) rfl rfl (hb hby at_382) (pc' := 385) rfl ?_
                        intro T143 v143 L143 X143 hQ143
                        obtain ⟨rfl, Nq143, e143⟩ := hQ143
                        have N143 := Fr.app N142 Nq143
                        show Go p e below _ (T143.setTop (mkF m 385 _ [.int (o3 (1 : Int32) (1 : Int32) (0 : Int32) (0 : Int32) (1 : Int32) (-1 : Int32) q0 (o0 q0 q1 q2 q3) q1 (1 : Int64) q2 (o1 q0 q1 q2 q3))]))
                        rw [← hOWE]
                        exact o_retZ X143 hx (own_narZ (o24 (1 : Int32) (1 : Int32) (0 : Int32) (0 : Int32) (1 : Int32) (-1 : Int32) q0 (o0 q0 q1 q2 q3) q1 (1 : Int64) q2 (o1 q0 q1 q2 q3))) hlk hrt (hb hby at_385) (by decide) (by decide) (by rw [e143]; exact ⟨(by rw [o7, o10, o9, o8, if_neg hs16, if_neg hs26, if_neg hs45, if_pos hm120_102, if_pos hm137_105, if_neg hc231_112, if_neg hs113, if_neg hs128]), N143⟩)
                · obtain ⟨rfl, Nq104, Kq104, P104_0, P104_1, P104_2, P104_3, P104_4, P104_5, P104_6, P104_7, P104_8⟩ := hQ104
                  have N104 := Fr.app N101 Nq104
                  have E144_b4 := Exa.keep E103_b4 Kq104
                  have E144_b6 := Exa.keep E103_b6 Kq104
                  have E144_b8 := Exa.keep E103_b8 Kq104
                  have E144_b10 := Exa.keep E103_b10 Kq104
                  have Z104 : n0 ≤ T104.heap.size := Nat.le_trans Z101 Kq104.1
                  show Go p e below _ (T104.setTop (mkF m 140 _ []))
                  refine o_aload X104 hx (hb hby at_140) (pc' := 142) rfl rfl rfl ?_
                  refine o_aload X104 hx (hb hby at_142) (pc' := 144) rfl rfl rfl ?_
                  refine o_callV X104 hx hZ 0 (argsL := [.ref b4]) (rest := []) (a := b12) hown (w 48 _ rfl) (w 49 _ rfl) (w 51 _ rfl) (w 50 _ rfl) (w 4 _ rfl) (w 52 _ rfl) (by decide) (rm9s25 l Z a0 hw [] _ _ _ _ _ _ T104.heap n0 Z104 P104_0 P104_1 P104_5 E144_b8 E144_b6 E144_b4 P104_6 On14_0 ne_b12_bn14_0 (Ne.symm ne_b8_b12) (Ne.symm ne_b8_bn14_0) (Ne.symm ne_b6_b12) (Ne.symm ne_b6_bn14_0) (Ne.symm ne_b6_b8) (Ne.symm ne_b4_b12) (Ne.symm ne_b4_bn14_0) (Ne.symm ne_b4_b8) (Ne.symm ne_b4_b6)) P104_0 (by decide) (by decide) (cells' := 8) rfl (slots' := 33) rfl (by decide) (by decide) rfl (by rw [hml]; rfl) (lenOf pd_4 rfl) rfl rfl (hb hby at_144) (pc' := 147) rfl ?_
                  intro T145 v145 L145 X145 hQ145
                  obtain ⟨rfl, Nq145, e145⟩ := hQ145
                  have N145 := Fr.app N104 Nq145
                  show Go p e below _ (T145.setTop (mkF m 147 _ [.int (2 : Int32)]))
                  refine o_istore X145 hx (hb hby at_147) (pc' := 149) rfl (L' := #[.val (.long q0), .second, .val (.long q1), .second, .val (.long q2), .second, .val (.int q3), .val (.int (3 : Int32)), .val (.int (o4 q0 q1 q2 q3)), .val (.int (o2 q0 q1 q2 q3)), .val (.long (o0 q0 q1 q2 q3)), .second, .val (.long (1 : Int64)), .second, .val (.long (o1 q0 q1 q2 q3)), .second, .val (.ref b4), .val (.ref b6), .val (.ref b8), .val (.ref b10), .val (.ref b12), .val (.int (2 : Int32)), .unset, .unset, .unset, .unset, .unset, .unset]) rfl ?_
                  refine o_aload X145 hx (hb hby at_149) (pc' := 151) rfl rfl rfl ?_
                  refine o_aload X145 hx (hb hby at_151) (pc' := 153) rfl rfl rfl ?_
                  refine o_callV X145 hx hZ 0 (argsL := [.ref b6]) (rest := []) (a := b12) hown (w 48 _ rfl) (w 49 _ rfl) (w 51 _ rfl) (w 50 _ rfl) (w 4 _ rfl) (w 52 _ rfl) (by decide) (rm9s24 l Z a0 hw [] _ _ _ _ _ _ T104.heap n0 Z104 P104_0 P104_1 P104_5 E144_b8 E144_b6 E144_b4 P104_6 On14_0 ne_b12_bn14_0 (Ne.symm ne_b8_b12) (Ne.symm ne_b8_bn14_0) (Ne.symm ne_b6_b12) (Ne.symm ne_b6_bn14_0) (Ne.symm ne_b6_b8) (Ne.symm ne_b4_b12) (Ne.symm ne_b4_bn14_0) (Ne.symm ne_b4_b8) (Ne.symm ne_b4_b6)) P104_0 (by decide) (by decide) (cells' := 8) rfl (slots' := 33) rfl (by decide) (by decide) e145 (by rw [hml]; rfl) (lenOf pd_4 rfl) rfl rfl (hb hby at_153) (pc' := 156) rfl ?_
                  intro T146 v146 L146 X146 hQ146
                  obtain ⟨rfl, Nq146, e146⟩ := hQ146
                  have N146 := Fr.app N145 Nq146
                  show Go p e below _ (T146.setTop (mkF m 156 _ [.int (1 : Int32)]))
                  refine o_istore X146 hx (hb hby at_156) (pc' := 158) rfl (L' := #[.val (.long q0), .second, .val (.long q1), .second, .val (.long q2), .second, .val (.int q3), .val (.int (3 : Int32)), .val (.int (o4 q0 q1 q2 q3)), .val (.int (o2 q0 q1 q2 q3)), .val (.long (o0 q0 q1 q2 q3)), .second, .val (.long (1 : Int64)), .second, .val (.long (o1 q0 q1 q2 q3)), .second, .val (.ref b4), .val (.ref b6), .val (.ref b8), .val (.ref b10), .val (.ref b12), .val (.int (2 : Int32)), .val (.int (1 : Int32)), .unset, .unset, .unset, .unset, .unset]) rfl ?_
                  refine o_aload X146 hx (hb hby at_158) (pc' := 160) rfl rfl rfl ?_
                  refine o_aload X146 hx (hb hby at_160) (pc' := 162) rfl rfl rfl ?_
                  refine o_callV X146 hx hZ 0 (argsL := [.ref b8]) (rest := []) (a := b12) hown (w 48 _ rfl) (w 49 _ rfl) (w 51 _ rfl) (w 50 _ rfl) (w 4 _ rfl) (w 52 _ rfl) (by decide) (rm9s23 l Z a0 hw [] _ _ _ _ _ _ T104.heap n0 Z104 P104_0 P104_1 P104_5 E144_b8 E144_b6 E144_b4 P104_6 On14_0 ne_b12_bn14_0 (Ne.symm ne_b8_b12) (Ne.symm ne_b8_bn14_0) (Ne.symm ne_b6_b12) (Ne.symm ne_b6_bn14_0) (Ne.symm ne_b6_b8) (Ne.symm ne_b4_b12) (Ne.symm ne_b4_bn14_0) (Ne.symm ne_b4_b8) (Ne.symm ne_b4_b6)) P104_0 (by decide) (by decide) (cells' := 8) rfl (slots' := 33) rfl (by decide) (by decide) e146 (by rw [hml]; rfl) (lenOf pd_4 rfl) rfl rfl (hb hby at_162) (pc' := 165) rfl ?_
                  intro T147 v147 L147 X147 hQ147
                  obtain ⟨rfl, Nq147, e147⟩ := hQ147
                  have N147 := Fr.app N146 Nq147
                  show Go p e below _ (T147.setTop (mkF m 165 _ [.int (0 : Int32)]))
                  refine o_istore X147 hx (hb hby at_165) (pc' := 167) rfl (L' := #[.val (.long q0), .second, .val (.long q1), .second, .val (.long q2), .second, .val (.int q3), .val (.int (3 : Int32)), .val (.int (o4 q0 q1 q2 q3)), .val (.int (o2 q0 q1 q2 q3)), .val (.long (o0 q0 q1 q2 q3)), .second, .val (.long (1 : Int64)), .second, .val (.long (o1 q0 q1 q2 q3)), .second, .val (.ref b4), .val (.ref b6), .val (.ref b8), .val (.ref b10), .val (.ref b12), .val (.int (2 : Int32)), .val (.int (1 : Int32)), .val (.int (0 : Int32)), .unset, .unset, .unset, .unset]) rfl ?_
                  refine o_aload X147 hx (hb hby at_167) (pc' := 169) rfl rfl rfl ?_
                  refine o_aload X147 hx (hb hby at_169) (pc' := 171) rfl rfl rfl ?_
                  refine o_callV X147 hx hZ 0 (argsL := [.ref b10]) (rest := []) (a := b12) hown (w 48 _ rfl) (w 49 _ rfl) (w 51 _ rfl) (w 50 _ rfl) (w 4 _ rfl) (w 52 _ rfl) (by decide) (rm9s26 l Z a0 hw [] _ _ _ _ _ _ _ T104.heap n0 Z104 P104_0 P104_1 P104_5 E144_b8 E144_b6 E144_b4 E144_b10 P104_6 On14_0 ne_b12_bn14_0 (Ne.symm ne_b8_b12) (Ne.symm ne_b8_bn14_0) (Ne.symm ne_b6_b12) (Ne.symm ne_b6_bn14_0) (Ne.symm ne_b6_b8) (Ne.symm ne_b4_b12) (Ne.symm ne_b4_bn14_0) (Ne.symm ne_b4_b8) (Ne.symm ne_b4_b6) (Ne.symm ne_b10_b12) (Ne.symm ne_b10_bn14_0) ne_b8_b10 ne_b6_b10 ne_b4_b10) P104_0 (by decide) (by decide) (cells' := 8) rfl (slots' := 33) rfl (by decide) (by decide) e147 (by rw [hml]; rfl) (lenOf pd_4 rfl) rfl rfl (hb hby at_171) (pc' := 174) rfl ?_
                  intro T148 v148 L148 X148 hQ148
                  obtain ⟨rfl, Nq148, e148⟩ := hQ148
                  have N148 := Fr.app N147 Nq148
                  show Go p e below _ (T148.setTop (mkF m 174 _ [.int (-1 : Int32)]))
                  refine o_iconst X148 hx (-1 : Int32) (hb hby at_174) (pc' := 175) rfl (by decide) ?_
                  refine o_cmpY X148 hx (hb hby at_175) (teq (by decide : (-1 : Int32) = (-1 : Int32))).1 (by decide) (pc' := 180) (by decide) ?_
                  refine o_iload X148 hx (hb hby at_180) (pc' := 182) rfl rfl ?_
                  refine o_ifN X148 hx (hb hby at_182) (tlt (by decide : (0 : Int32) < (3 : Int32))).2.2.2 (pc' := 185) rfl ?_
                  refine o_iconst X148 hx (1 : Int32) (hb hby at_185) (pc' := 186) rfl (by decide) ?_
                  refine o_goto X148 hx (hb hby at_186) (by decide) (pc' := 190) (by decide) ?_
                  refine o_iload X148 hx (hb hby at_190) (pc' := 192) rfl rfl ?_
                  refine o_iconst X148 hx (1 : Int32) (hb hby at_192) (pc' := 193) rfl (by decide) ?_
                  refine o_cmpN X148 hx (hb hby at_193) (tlt (by decide : (1 : Int32) < (3 : Int32))).2.2.2 (pc' := 196) rfl ?_
                  refine o_iconst X148 hx (1 : Int32) (hb hby at_196) (pc' := 197) rfl (by decide) ?_
                  refine o_goto X148 hx (hb hby at_197) (by decide) (pc' := 201) (by decide) ?_
                  refine o_iload X148 hx (hb hby at_201) (pc' := 203) rfl rfl ?_
                  refine o_iconst X148 hx (2 : Int32) (hb hby at_203) (pc' := 204) rfl (by decide) ?_
                  refine o_cmpN X148 hx (hb hby at_204) (tlt (by decide : (2 : Int32) < (3 : Int32))).2.2.2 (pc' := 207) rfl ?_
                  refine o_iconst X148 hx (1 : Int32) (hb hby at_207) (pc' := 208) rfl (by decide) ?_
                  refine o_goto X148 hx (hb hby at_208) (by decide) (pc' := 212) (by decide) ?_
                  refine o_iload X148 hx (hb hby at_212) (pc' := 214) rfl rfl ?_
                  refine o_iload X148 hx (hb hby at_214) (pc' := 216) rfl rfl ?_
                  refine o_iload X148 hx (hb hby at_216) (pc' := 218) rfl rfl ?_
                  refine o_lloadN X148 hx (hb hby at_218) (pc' := 219) rfl rfl ?_
                  refine o_lload X148 hx (hb hby at_219) (pc' := 221) rfl rfl ?_
                  refine o_lloadN X148 hx (hb hby at_221) (pc' := 222) rfl rfl ?_
                  refine o_lload X148 hx (hb hby at_222) (pc' := 224) rfl rfl ?_
                  refine o_lload X148 hx (hb hby at_224) (pc' := 226) rfl rfl ?_
                  refine o_lload X148 hx (hb hby at_226) (pc' := 228) rfl rfl ?_
                  refine o_callS X148 hx hZ 0 (argsL := [.int (1 : Int32), .int (1 : Int32), .int (1 : Int32), .int (2 : Int32), .int (1 : Int32), .int (0 : Int32), .long q0, .long (o0 q0 q1 q2 q3), .long q1, .long (1 : Int64), .long q2, .long (o1 q0 q1 q2 q3)]) (rest := []) hown (w 53 _ rfl) (w 54 _ rfl) (w 55 _ rfl) (w 56 _ rfl) (by decide) (rm10 l Z a0 hw [] (1 : Int32) (1 : Int32) (1 : Int32) (2 : Int32) (1 : Int32) (0 : Int32) q0 (o0 q0 q1 q2 q3) q1 (1 : Int64) q2 (o1 q0 q1 q2 q3) T104.heap n0 Z104 ) (by decide) (by decide) (cells' := 8) rfl (slots' := 33) rfl (by decide) (by decide) e148 (by rw [hml]; rfl) (lenOf pd_5 rfl) rfl rfl (hb hby at_228) (pc' := 231) rfl ?_
                  intro T149 v149 L149 X149 hQ149
                  obtain ⟨rfl, Nq149, e149⟩ := hQ149
                  have N149 := Fr.app N148 Nq149
                  show Go p e below _ (T149.setTop (mkF m 231 _ [.int (o3 (1 : Int32) (1 : Int32) (1 : Int32) (2 : Int32) (1 : Int32) (0 : Int32) q0 (o0 q0 q1 q2 q3) q1 (1 : Int64) q2 (o1 q0 q1 q2 q3))]))
                  by_cases hc231_150 : (o3 (1 : Int32) (1 : Int32) (1 : Int32) (2 : Int32) (1 : Int32) (0 : Int32) q0 (o0 q0 q1 q2 q3) q1 (1 : Int64) q2 (o1 q0 q1 q2 q3)) = (0 : Int32)
                  · refine o_ifN X149 hx (hb hby at_231) (teq hc231_150).2 (pc' := 234) rfl ?_
                    refine o_iconst X149 hx (0 : Int32) (hb hby at_234) (pc' := 235) rfl (by decide) ?_
                    rw [← hOWE]
                    exact o_retZ X149 hx rfl hlk hrt (hb hby at_235) (by decide) (by decide) (by rw [e149]; exact ⟨(by rw [o7, o10, o9, o8, if_neg hs16, if_neg hs26, if_neg hs45, if_pos hm120_102, if_neg hm137_105, if_pos hc231_150]), N149⟩)
                  · refine o_ifY X149 hx (hb hby at_231) (feq hc231_150).2 (by decide) (pc' := 236) (by decide) ?_
                    by_cases hs151 : (o4 q0 q1 q2 q3) = (0 : Int32)
                    · rw [hs151]
                      refine o_iload X149 hx (hb hby at_236) (pc' := 238) rfl rfl ?_
                      refine o_iload X149 hx (hb hby at_238) (pc' := 240) rfl rfl ?_
                      refine o_cmpY X149 hx (hb hby at_240) (tlt (by decide : (0 : Int32) < (3 : Int32))).1 (by decide) (pc' := 245) (by decide) ?_
                      refine o_iload X149 hx (hb hby at_245) (pc' := 247) rfl rfl ?_
                      refine o_ifN X149 hx (hb hby at_247) (teq (by decide : (0 : Int32) = (0 : Int32))).2 (pc' := 250) rfl ?_
                      refine o_iload X149 hx (hb hby at_250) (pc' := 252) rfl rfl ?_
                      refine o_goto X149 hx (hb hby at_252) (by decide) (pc' := 268) (by decide) ?_
                      refine o_istore X149 hx (hb hby at_268) (pc' := 270) rfl (L' := #[.val (.long q0), .second, .val (.long q1), .second, .val (.long q2), .second, .val (.int q3), .val (.int (3 : Int32)), .val (.int (0 : Int32)), .val (.int (o2 q0 q1 q2 q3)), .val (.long (o0 q0 q1 q2 q3)), .second, .val (.long (1 : Int64)), .second, .val (.long (o1 q0 q1 q2 q3)), .second, .val (.ref b4), .val (.ref b6), .val (.ref b8), .val (.ref b10), .val (.ref b12), .val (.int (2 : Int32)), .val (.int (1 : Int32)), .val (.int (0 : Int32)), .val (.int (2 : Int32)), .unset, .unset, .unset]) rfl ?_
                      refine o_aload X149 hx (hb hby at_270) (pc' := 272) rfl rfl rfl ?_
                      refine o_iload X149 hx (hb hby at_272) (pc' := 274) rfl rfl ?_
                      refine o_callV X149 hx hZ 0 (argsL := [.int (2 : Int32)]) (rest := []) (a := b12) hown (w 63 _ rfl) (w 64 _ rfl) (w 66 _ rfl) (w 65 _ rfl) (w 4 _ rfl) (w 67 _ rfl) (by decide) (rm13s33 l Z a0 hw [] _ _ _ _ _ _ _ _ _ _ _ _ _ _ _ _ _ _ _ _ _ _ _ _ _ _ T104.heap n0 Z104 P104_0 P104_1 P104_2 P104_3 P104_4 P104_5 g_b12 E144_b8 E144_b6 E144_b4 P104_6 On14_0 gn14_0 P104_7 gn14_1 P104_8 gn14_2 ne_b12_bn14_0 (Ne.symm ne_b8_b12) (Ne.symm ne_b8_bn14_0) (Ne.symm ne_b6_b12) (Ne.symm ne_b6_bn14_0) (Ne.symm ne_b6_b8) (Ne.symm ne_b4_b12) (Ne.symm ne_b4_bn14_0) (Ne.symm ne_b4_b8) (Ne.symm ne_b4_b6) ne_b12_bn14_1 nn14_0_1 ne_b8_bn14_1 ne_b6_bn14_1 ne_b4_bn14_1 ne_b12_bn14_2 nn14_0_2 ne_b8_bn14_2 ne_b6_bn14_2 ne_b4_bn14_2 nn14_1_2) P104_0 (by decide) (by decide) (cells' := 8) rfl (slots' := 33) rfl (by decide) (by decide) e149 (by rw [hml]; rfl) (lenOf pd_10 rfl) rfl rfl (hb hby at_274) (pc' := 277) rfl ?_
                      intro T152 v152 L152 X152 hQ152
                      obtain ⟨rfl, Nq152, Kq152, P152_0, P152_1, P152_2, P152_3, P152_4, P152_5, P152_6, P152_7, P152_8⟩ := hQ152
                      have N152 := Fr.app N149 Nq152
                      have E153_b4 := Exa.keep E144_b4 Kq152
                      have E153_b6 := Exa.keep E144_b6 Kq152
                      have E153_b8 := Exa.keep E144_b8 Kq152
                      have E153_b10 := Exa.keep E144_b10 Kq152
                      have Z152 : n0 ≤ T152.heap.size := Nat.le_trans Z104 Kq152.1
                      show Go p e below _ (T152.setTop (mkF m 277 _ []))
                      refine o_aload X152 hx (hb hby at_277) (pc' := 279) rfl rfl rfl ?_
                      refine o_aload X152 hx (hb hby at_279) (pc' := 281) rfl rfl rfl ?_
                      refine o_callV X152 hx hZ 0 (argsL := [.ref b4]) (rest := []) (a := b12) hown (w 48 _ rfl) (w 49 _ rfl) (w 51 _ rfl) (w 50 _ rfl) (w 4 _ rfl) (w 52 _ rfl) (by decide) (rm9s14 l Z a0 hw [] _ _ _ _ _ _ T152.heap n0 Z152 P152_0 P152_1 P152_5 E153_b8 E153_b6 E153_b4 P152_6 On14_0 ne_b12_bn14_0 (Ne.symm ne_b8_b12) (Ne.symm ne_b8_bn14_0) (Ne.symm ne_b6_b12) (Ne.symm ne_b6_bn14_0) (Ne.symm ne_b6_b8) (Ne.symm ne_b4_b12) (Ne.symm ne_b4_bn14_0) (Ne.symm ne_b4_b8) (Ne.symm ne_b4_b6)) P152_0 (by decide) (by decide) (cells' := 8) rfl (slots' := 33) rfl (by decide) (by decide) rfl (by rw [hml]; rfl) (lenOf pd_4 rfl) rfl rfl (hb hby at_281) (pc' := 284) rfl ?_
                      intro T154 v154 L154 X154 hQ154
                      obtain ⟨rfl, Nq154, e154⟩ := hQ154
                      have N154 := Fr.app N152 Nq154
                      show Go p e below _ (T154.setTop (mkF m 284 _ [.int (-1 : Int32)]))
                      refine o_istore X154 hx (hb hby at_284) (pc' := 286) rfl (L' := #[.val (.long q0), .second, .val (.long q1), .second, .val (.long q2), .second, .val (.int q3), .val (.int (3 : Int32)), .val (.int (0 : Int32)), .val (.int (o2 q0 q1 q2 q3)), .val (.long (o0 q0 q1 q2 q3)), .second, .val (.long (1 : Int64)), .second, .val (.long (o1 q0 q1 q2 q3)), .second, .val (.ref b4), .val (.ref b6), .val (.ref b8), .val (.ref b10), .val (.ref b12), .val (.int (2 : Int32)), .val (.int (1 : Int32)), .val (.int (0 : Int32)), .val (.int (2 : Int32)), .val (.int (-1 : Int32)), .unset, .unset]) rfl ?_
                      refine o_aload X154 hx (hb hby at_286) (pc' := 288) rfl rfl rfl ?_
                      refine o_aload X154 hx (hb hby at_288) (pc' := 290) rfl rfl rfl ?_
                      refine o_callV X154 hx hZ 0 (argsL := [.ref b6]) (rest := []) (a := b12) hown (w 48 _ rfl) (w 49 _ rfl) (w 51 _ rfl) (w 50 _ rfl) (w 4 _ rfl) (w 52 _ rfl) (by decide) (rm9s13 l Z a0 hw [] _ _ _ _ _ T152.heap n0 Z152 P152_0 P152_1 P152_5 E153_b8 E153_b6 P152_6 On14_0 ne_b12_bn14_0 (Ne.symm ne_b8_b12) (Ne.symm ne_b8_bn14_0) (Ne.symm ne_b6_b12) (Ne.symm ne_b6_bn14_0) (Ne.symm ne_b6_b8)) P152_0 (by decide) (by decide) (cells' := 8) rfl (slots' := 33) rfl (by decide) (by decide) e154 (by rw [hml]; rfl) (lenOf pd_4 rfl) rfl rfl (hb hby at_290) (pc' := 293) rfl ?_
                      intro T155 v155 L155 X155 hQ155
                      obtain ⟨rfl, Nq155, e155⟩ := hQ155
                      have N155 := Fr.app N154 Nq155
                      show Go p e below _ (T155.setTop (mkF m 293 _ [.int (1 : Int32)]))
                      refine o_istore X155 hx (hb hby at_293) (pc' := 295) rfl (L' := #[.val (.long q0), .second, .val (.long q1), .second, .val (.long q2), .second, .val (.int q3), .val (.int (3 : Int32)), .val (.int (0 : Int32)), .val (.int (o2 q0 q1 q2 q3)), .val (.long (o0 q0 q1 q2 q3)), .second, .val (.long (1 : Int64)), .second, .val (.long (o1 q0 q1 q2 q3)), .second, .val (.ref b4), .val (.ref b6), .val (.ref b8), .val (.ref b10), .val (.ref b12), .val (.int (2 : Int32)), .val (.int (1 : Int32)), .val (.int (0 : Int32)), .val (.int (2 : Int32)), .val (.int (-1 : Int32)), .val (.int (1 : Int32)), .unset]) rfl ?_
                      refine o_aload X155 hx (hb hby at_295) (pc' := 297) rfl rfl rfl ?_
                      refine o_aload X155 hx (hb hby at_297) (pc' := 299) rfl rfl rfl ?_
                      refine o_callV X155 hx hZ 0 (argsL := [.ref b8]) (rest := []) (a := b12) hown (w 48 _ rfl) (w 49 _ rfl) (w 51 _ rfl) (w 50 _ rfl) (w 4 _ rfl) (w 52 _ rfl) (by decide) (rm9s12 l Z a0 hw [] _ _ _ _ _ T152.heap n0 Z152 P152_0 P152_1 P152_5 E153_b8 E153_b6 P152_6 On14_0 ne_b12_bn14_0 (Ne.symm ne_b8_b12) (Ne.symm ne_b8_bn14_0) (Ne.symm ne_b6_b12) (Ne.symm ne_b6_bn14_0) (Ne.symm ne_b6_b8)) P152_0 (by decide) (by decide) (cells' := 8) rfl (slots' := 33) rfl (by decide) (by decide) e155 (by rw [hml]; rfl) (lenOf pd_4 rfl) rfl rfl (hb hby at_299) (pc' := 302) rfl ?_
                      intro T156 v156 L156 X156 hQ156
                      obtain ⟨rfl, Nq156, e156⟩ := hQ156
                      have N156 := Fr.app N155 Nq156
                      show Go p e below _ (T156.setTop (mkF m 302 _ [.int (0 : Int32)]))
                      refine o_istore X156 hx (hb hby at_302) (pc' := 304) rfl (L' := #[.val (.long q0), .second, .val (.long q1), .second, .val (.long q2), .second, .val (.int q3), .val (.int (3 : Int32)), .val (.int (0 : Int32)), .val (.int (o2 q0 q1 q2 q3)), .val (.long (o0 q0 q1 q2 q3)), .second, .val (.long (1 : Int64)), .second, .val (.long (o1 q0 q1 q2 q3)), .second, .val (.ref b4), .val (.ref b6), .val (.ref b8), .val (.ref b10), .val (.ref b12), .val (.int (2 : Int32)), .val (.int (1 : Int32)), .val (.int (0 : Int32)), .val (.int (2 : Int32)), .val (.int (-1 : Int32)), .val (.int (1 : Int32)), .val (.int (0 : Int32))]) rfl ?_
                      refine o_aload X156 hx (hb hby at_304) (pc' := 306) rfl rfl rfl ?_
                      refine o_aload X156 hx (hb hby at_306) (pc' := 308) rfl rfl rfl ?_
                      refine o_callV X156 hx hZ 0 (argsL := [.ref b10]) (rest := []) (a := b12) hown (w 48 _ rfl) (w 49 _ rfl) (w 51 _ rfl) (w 50 _ rfl) (w 4 _ rfl) (w 52 _ rfl) (by decide) (rm9s14 l Z a0 hw [] _ _ _ _ _ _ T152.heap n0 Z152 P152_0 P152_1 P152_5 E153_b8 E153_b6 E153_b10 P152_6 On14_0 ne_b12_bn14_0 (Ne.symm ne_b8_b12) (Ne.symm ne_b8_bn14_0) (Ne.symm ne_b6_b12) (Ne.symm ne_b6_bn14_0) (Ne.symm ne_b6_b8) (Ne.symm ne_b10_b12) (Ne.symm ne_b10_bn14_0) ne_b8_b10 ne_b6_b10) P152_0 (by decide) (by decide) (cells' := 8) rfl (slots' := 33) rfl (by decide) (by decide) e156 (by rw [hml]; rfl) (lenOf pd_4 rfl) rfl rfl (hb hby at_308) (pc' := 311) rfl ?_
                      intro T157 v157 L157 X157 hQ157
                      obtain ⟨rfl, Nq157, e157⟩ := hQ157
                      have N157 := Fr.app N156 Nq157
                      show Go p e below _ (T157.setTop (mkF m 311 _ [.int (-1 : Int32)]))
                      refine o_iconst X157 hx (-1 : Int32) (hb hby at_311) (pc' := 312) rfl (by decide) ?_
                      refine o_cmpY X157 hx (hb hby at_312) (teq (by decide : (-1 : Int32) = (-1 : Int32))).1 (by decide) (pc' := 317) (by decide) ?_
                      refine o_iload X157 hx (hb hby at_317) (pc' := 319) rfl rfl ?_
                      refine o_ifN X157 hx (hb hby at_319) (tlt (by decide : (0 : Int32) < (3 : Int32))).2.2.2 (pc' := 322) rfl ?_
                      refine o_iload X157 hx (hb hby at_322) (pc' := 324) rfl rfl ?_
                      refine o_ifY X157 hx (hb hby at_324) (teq (by decide : (0 : Int32) = (0 : Int32))).1 (by decide) (pc' := 331) (by decide) ?_
                      refine o_iconst X157 hx (0 : Int32) (hb hby at_331) (pc' := 332) rfl (by decide) ?_
                      refine o_iload X157 hx (hb hby at_332) (pc' := 334) rfl rfl ?_
                      refine o_iconst X157 hx (1 : Int32) (hb hby at_334) (pc' := 335) rfl (by decide) ?_
                      refine o_cmpN X157 hx (hb hby at_335) (tlt (by decide : (1 : Int32) < (3 : Int32))).2.2.2 (pc' := 338) rfl ?_
                      refine o_iload X157 hx (hb hby at_338) (pc' := 340) rfl rfl ?_
                      refine o_iconst X157 hx (1 : Int32) (hb hby at_340) (pc' := 341) rfl (by decide) ?_
                      refine o_cmpN X157 hx (hb hby at_341) (feq (by decide : ¬ ((0 : Int32) = (1 : Int32)))).1 (pc' := 344) rfl ?_
                      refine o_iconst X157 hx (1 : Int32) (hb hby at_344) (pc' := 345) rfl (by decide) ?_
                      refine o_goto X157 hx (hb hby at_345) (by decide) (pc' := 349) (by decide) ?_
                      refine o_iload X157 hx (hb hby at_349) (pc' := 351) rfl rfl ?_
                      refine o_iconst X157 hx (2 : Int32) (hb hby at_351) (pc' := 352) rfl (by decide) ?_
                      refine o_cmpN X157 hx (hb hby at_352) (tlt (by decide : (2 : Int32) < (3 : Int32))).2.2.2 (pc' := 355) rfl ?_
                      refine o_iload X157 hx (hb hby at_355) (pc' := 357) rfl rfl ?_
                      refine o_iconst X157 hx (2 : Int32) (hb hby at_357) (pc' := 358) rfl (by decide) ?_
                      refine o_cmpN X157 hx (hb hby at_358) (feq (by decide : ¬ ((0 : Int32) = (2 : Int32)))).1 (pc' := 361) rfl ?_
                      refine o_iconst X157 hx (1 : Int32) (hb hby at_361) (pc' := 362) rfl (by decide) ?_
                      refine o_goto X157 hx (hb hby at_362) (by decide) (pc' := 366) (by decide) ?_
                      refine o_iload X157 hx (hb hby at_366) (pc' := 368) rfl rfl ?_
                      refine o_iload X157 hx (hb hby at_368) (pc' := 370) rfl rfl ?_
                      refine o_iload X157 hx (hb hby at_370) (pc' := 372) rfl rfl ?_
                      refine o_lloadN X157 hx (hb hby at_372) (pc' := 373) rfl rfl ?_
                      refine o_lload X157 hx (hb hby at_373) (pc' := 375) rfl rfl ?_
                      refine o_lloadN X157 hx (hb hby at_375) (pc' := 376) rfl rfl ?_
                      refine o_lload X157 hx (hb hby at_376) (pc' := 378) rfl rfl ?_
                      refine o_lload X157 hx (hb hby at_378) (pc' := 380) rfl rfl ?_
                      refine o_lload X157 hx (hb hby at_380) (pc' := 382) rfl rfl ?_
                      refine o_callS X157 hx hZ 0 (argsL := [.int (0 : Int32), .int (1 : Int32), .int (1 : Int32), .int (-1 : Int32), .int (1 : Int32), .int (0 : Int32), .long q0, .long (o0 q0 q1 q2 q3), .long q1, .long (1 : Int64), .long q2, .long (o1 q0 q1 q2 q3)]) (rest := []) hown (w 53 _ rfl) (w 54 _ rfl) (w 55 _ rfl) (w 56 _ rfl) (by decide) (rm10 l Z a0 hw [] (0 : Int32) (1 : Int32) (1 : Int32) (-1 : Int32) (1 : Int32) (0 : Int32) q0 (o0 q0 q1 q2 q3) q1 (1 : Int64) q2 (o1 q0 q1 q2 q3) T152.heap n0 Z152 ) (by decide) (by decide) (cells' := 8) rfl (slots' := 33) rfl (by decide) (by decide) e157 (by rw [hml]; rfl) (lenOf pd_5 rfl) rfl rfl (hb hby at_382) (pc' := 385) rfl ?_
                      intro T158 v158 L158 X158 hQ158
                      obtain ⟨rfl, Nq158, e158⟩ := hQ158
                      have N158 := Fr.app N157 Nq158
                      show Go p e below _ (T158.setTop (mkF m 385 _ [.int (o3 (0 : Int32) (1 : Int32) (1 : Int32) (-1 : Int32) (1 : Int32) (0 : Int32) q0 (o0 q0 q1 q2 q3) q1 (1 : Int64) q2 (o1 q0 q1 q2 q3))]))
                      rw [← hOWE]
                      exact o_retZ X158 hx (own_narZ (o24 (0 : Int32) (1 : Int32) (1 : Int32) (-1 : Int32) (1 : Int32) (0 : Int32) q0 (o0 q0 q1 q2 q3) q1 (1 : Int64) q2 (o1 q0 q1 q2 q3))) hlk hrt (hb hby at_385) (by decide) (by decide) (by rw [e158]; exact ⟨(by rw [o7, o10, o9, o8, if_neg hs16, if_neg hs26, if_neg hs45, if_pos hm120_102, if_neg hm137_105, if_neg hc231_150, if_pos hs151]), N158⟩)
                    · by_cases hs159 : (o4 q0 q1 q2 q3) = (1 : Int32)
                      · rw [hs159]
                        refine o_iload X149 hx (hb hby at_236) (pc' := 238) rfl rfl ?_
                        refine o_iload X149 hx (hb hby at_238) (pc' := 240) rfl rfl ?_
                        refine o_cmpY X149 hx (hb hby at_240) (tlt (by decide : (1 : Int32) < (3 : Int32))).1 (by decide) (pc' := 245) (by decide) ?_
                        refine o_iload X149 hx (hb hby at_245) (pc' := 247) rfl rfl ?_
                        refine o_ifY X149 hx (hb hby at_247) (feq (by decide : ¬ ((1 : Int32) = (0 : Int32)))).2 (by decide) (pc' := 255) (by decide) ?_
                        refine o_iload X149 hx (hb hby at_255) (pc' := 257) rfl rfl ?_
                        refine o_iconst X149 hx (1 : Int32) (hb hby at_257) (pc' := 258) rfl (by decide) ?_
                        refine o_cmpN X149 hx (hb hby at_258) (teq (by decide : (1 : Int32) = (1 : Int32))).2 (pc' := 261) rfl ?_
                        refine o_iload X149 hx (hb hby at_261) (pc' := 263) rfl rfl ?_
                        refine o_goto X149 hx (hb hby at_263) (by decide) (pc' := 268) (by decide) ?_
                        refine o_istore X149 hx (hb hby at_268) (pc' := 270) rfl (L' := #[.val (.long q0), .second, .val (.long q1), .second, .val (.long q2), .second, .val (.int q3), .val (.int (3 : Int32)), .val (.int (1 : Int32)), .val (.int (o2 q0 q1 q2 q3)), .val (.long (o0 q0 q1 q2 q3)), .second, .val (.long (1 : Int64)), .second, .val (.long (o1 q0 q1 q2 q3)), .second, .val (.ref b4), .val (.ref b6), .val (.ref b8), .val (.ref b10), .val (.ref b12), .val (.int (2 : Int32)), .val (.int (1 : Int32)), .val (.int (0 : Int32)), .val (.int (1 : Int32)), .unset, .unset, .unset]) rfl ?_
                        refine o_aload X149 hx (hb hby at_270) (pc' := 272) rfl rfl rfl ?_
                        refine o_iload X149 hx (hb hby at_272) (pc' := 274) rfl rfl ?_
                        refine o_callV X149 hx hZ 0 (argsL := [.int (1 : Int32)]) (rest := []) (a := b12) hown (w 63 _ rfl) (w 64 _ rfl) (w 66 _ rfl) (w 65 _ rfl) (w 4 _ rfl) (w 67 _ rfl) (by decide) (rm13s30 l Z a0 hw [] _ _ _ _ _ _ _ _ _ _ _ _ _ _ _ _ _ _ _ _ _ _ _ _ _ _ T104.heap n0 Z104 P104_0 P104_1 P104_2 P104_3 P104_4 P104_5 g_b12 E144_b8 E144_b6 E144_b4 P104_6 On14_0 gn14_0 P104_7 gn14_1 P104_8 gn14_2 ne_b12_bn14_0 (Ne.symm ne_b8_b12) (Ne.symm ne_b8_bn14_0) (Ne.symm ne_b6_b12) (Ne.symm ne_b6_bn14_0) (Ne.symm ne_b6_b8) (Ne.symm ne_b4_b12) (Ne.symm ne_b4_bn14_0) (Ne.symm ne_b4_b8) (Ne.symm ne_b4_b6) ne_b12_bn14_1 nn14_0_1 ne_b8_bn14_1 ne_b6_bn14_1 ne_b4_bn14_1 ne_b12_bn14_2 nn14_0_2 ne_b8_bn14_2 ne_b6_bn14_2 ne_b4_bn14_2 nn14_1_2) P104_0 (by decide) (by decide) (cells' := 8) rfl (slots' := 33) rfl (by decide) (by decide) e149 (by rw [hml]; rfl) (lenOf pd_10 rfl) rfl rfl (hb hby at_274) (pc' := 277) rfl ?_
                        intro T160 v160 L160 X160 hQ160
                        rcases hQ160 with ⟨hm274_161, hQ160⟩ | ⟨hm274_161, hQ160⟩
                        · obtain ⟨rfl, Nq160, Kq160, P160_0, P160_1, P160_2, P160_3, P160_4, P160_5, P160_6, P160_7, P160_8⟩ := hQ160
                          have N160 := Fr.app N149 Nq160
                          have E162_b4 := Exa.keep E144_b4 Kq160
                          have E162_b6 := Exa.keep E144_b6 Kq160
                          have E162_b8 := Exa.keep E144_b8 Kq160
                          have E162_b10 := Exa.keep E144_b10 Kq160
                          have Z160 : n0 ≤ T160.heap.size := Nat.le_trans Z104 Kq160.1
                          show Go p e below _ (T160.setTop (mkF m 277 _ []))
                          refine o_aload X160 hx (hb hby at_277) (pc' := 279) rfl rfl rfl ?_
                          refine o_aload X160 hx (hb hby at_279) (pc' := 281) rfl rfl rfl ?_
                          refine o_callV X160 hx hZ 0 (argsL := [.ref b4]) (rest := []) (a := b12) hown (w 48 _ rfl) (w 49 _ rfl) (w 51 _ rfl) (w 50 _ rfl) (w 4 _ rfl) (w 52 _ rfl) (by decide) (rm9s13 l Z a0 hw [] _ _ _ _ _ T160.heap n0 Z160 P160_0 P160_1 P160_5 E162_b8 E162_b4 P160_6 On14_0 ne_b12_bn14_0 (Ne.symm ne_b8_b12) (Ne.symm ne_b8_bn14_0) (Ne.symm ne_b4_b12) (Ne.symm ne_b4_bn14_0) (Ne.symm ne_b4_b8)) P160_0 (by decide) (by decide) (cells' := 8) rfl (slots' := 33) rfl (by decide) (by decide) rfl (by rw [hml]; rfl) (lenOf pd_4 rfl) rfl rfl (hb hby at_281) (pc' := 284) rfl ?_
                          intro T163 v163 L163 X163 hQ163
                          obtain ⟨rfl, Nq163, e163⟩ := hQ163
                          have N163 := Fr.app N160 Nq163
                          show Go p e below _ (T163.setTop (mkF m 284 _ [.int (1 : Int32)]))
                          refine o_istore X163 hx (hb hby at_284) (pc' := 286) rfl (L' := #[.val (.long q0), .second, .val (.long q1), .second, .val (.long q2), .second, .val (.int q3), .val (.int (3 : Int32)), .val (.int (1 : Int32)), .val (.int (o2 q0 q1 q2 q3)), .val (.long (o0 q0 q1 q2 q3)), .second, .val (.long (1 : Int64)), .second, .val (.long (o1 q0 q1 q2 q3)), .second, .val (.ref b4), .val (.ref b6), .val (.ref b8), .val (.ref b10), .val (.ref b12), .val (.int (2 : Int32)), .val (.int (1 : Int32)), .val (.int (0 : Int32)), .val (.int (1 : Int32)), .val (.int (1 : Int32)), .unset, .unset]) rfl ?_
                          refine o_aload X163 hx (hb hby at_286) (pc' := 288) rfl rfl rfl ?_
                          refine o_aload X163 hx (hb hby at_288) (pc' := 290) rfl rfl rfl ?_
                          refine o_callV X163 hx hZ 0 (argsL := [.ref b6]) (rest := []) (a := b12) hown (w 48 _ rfl) (w 49 _ rfl) (w 51 _ rfl) (w 50 _ rfl) (w 4 _ rfl) (w 52 _ rfl) (by decide) (rm9s14 l Z a0 hw [] _ _ _ _ _ _ T160.heap n0 Z160 P160_0 P160_1 P160_5 E162_b8 E162_b4 E162_b6 P160_6 On14_0 ne_b12_bn14_0 (Ne.symm ne_b8_b12) (Ne.symm ne_b8_bn14_0) (Ne.symm ne_b4_b12) (Ne.symm ne_b4_bn14_0) (Ne.symm ne_b4_b8) (Ne.symm ne_b6_b12) (Ne.symm ne_b6_bn14_0) (Ne.symm ne_b6_b8) ne_b4_b6) P160_0 (by decide) (by decide) (cells' := 8) rfl (slots' := 33) rfl (by decide) (by decide) e163 (by rw [hml]; rfl) (lenOf pd_4 rfl) rfl rfl (hb hby at_290) (pc' := 293) rfl ?_
                          intro T164 v164 L164 X164 hQ164
                          obtain ⟨rfl, Nq164, e164⟩ := hQ164
                          have N164 := Fr.app N163 Nq164
                          show Go p e below _ (T164.setTop (mkF m 293 _ [.int (-1 : Int32)]))
                          refine o_istore X164 hx (hb hby at_293) (pc' := 295) rfl (L' := #[.val (.long q0), .second, .val (.long q1), .second, .val (.long q2), .second, .val (.int q3), .val (.int (3 : Int32)), .val (.int (1 : Int32)), .val (.int (o2 q0 q1 q2 q3)), .val (.long (o0 q0 q1 q2 q3)), .second, .val (.long (1 : Int64)), .second, .val (.long (o1 q0 q1 q2 q3)), .second, .val (.ref b4), .val (.ref b6), .val (.ref b8), .val (.ref b10), .val (.ref b12), .val (.int (2 : Int32)), .val (.int (1 : Int32)), .val (.int (0 : Int32)), .val (.int (1 : Int32)), .val (.int (1 : Int32)), .val (.int (-1 : Int32)), .unset]) rfl ?_
                          refine o_aload X164 hx (hb hby at_295) (pc' := 297) rfl rfl rfl ?_
                          refine o_aload X164 hx (hb hby at_297) (pc' := 299) rfl rfl rfl ?_
                          refine o_callV X164 hx hZ 0 (argsL := [.ref b8]) (rest := []) (a := b12) hown (w 48 _ rfl) (w 49 _ rfl) (w 51 _ rfl) (w 50 _ rfl) (w 4 _ rfl) (w 52 _ rfl) (by decide) (rm9s12 l Z a0 hw [] _ _ _ _ _ T160.heap n0 Z160 P160_0 P160_1 P160_5 E162_b8 E162_b4 P160_6 On14_0 ne_b12_bn14_0 (Ne.symm ne_b8_b12) (Ne.symm ne_b8_bn14_0) (Ne.symm ne_b4_b12) (Ne.symm ne_b4_bn14_0) (Ne.symm ne_b4_b8)) P160_0 (by decide) (by decide) (cells' := 8) rfl (slots' := 33) rfl (by decide) (by decide) e164 (by rw [hml]; rfl) (lenOf pd_4 rfl) rfl rfl (hb hby at_299) (pc' := 302) rfl ?_
                          intro T165 v165 L165 X165 hQ165
                          obtain ⟨rfl, Nq165, e165⟩ := hQ165
                          have N165 := Fr.app N164 Nq165
                          show Go p e below _ (T165.setTop (mkF m 302 _ [.int (0 : Int32)]))
                          refine o_istore X165 hx (hb hby at_302) (pc' := 304) rfl (L' := #[.val (.long q0), .second, .val (.long q1), .second, .val (.long q2), .second, .val (.int q3), .val (.int (3 : Int32)), .val (.int (1 : Int32)), .val (.int (o2 q0 q1 q2 q3)), .val (.long (o0 q0 q1 q2 q3)), .second, .val (.long (1 : Int64)), .second, .val (.long (o1 q0 q1 q2 q3)), .second, .val (.ref b4), .val (.ref b6), .val (.ref b8), .val (.ref b10), .val (.ref b12), .val (.int (2 : Int32)), .val (.int (1 : Int32)), .val (.int (0 : Int32)), .val (.int (1 : Int32)), .val (.int (1 : Int32)), .val (.int (-1 : Int32)), .val (.int (0 : Int32))]) rfl ?_
                          refine o_aload X165 hx (hb hby at_304) (pc' := 306) rfl rfl rfl ?_
                          refine o_aload X165 hx (hb hby at_306) (pc' := 308) rfl rfl rfl ?_
                          refine o_callV X165 hx hZ 0 (argsL := [.ref b10]) (rest := []) (a := b12) hown (w 48 _ rfl) (w 49 _ rfl) (w 51 _ rfl) (w 50 _ rfl) (w 4 _ rfl) (w 52 _ rfl) (by decide) (rm9s14 l Z a0 hw [] _ _ _ _ _ _ T160.heap n0 Z160 P160_0 P160_1 P160_5 E162_b8 E162_b4 E162_b10 P160_6 On14_0 ne_b12_bn14_0 (Ne.symm ne_b8_b12) (Ne.symm ne_b8_bn14_0) (Ne.symm ne_b4_b12) (Ne.symm ne_b4_bn14_0) (Ne.symm ne_b4_b8) (Ne.symm ne_b10_b12) (Ne.symm ne_b10_bn14_0) ne_b8_b10 ne_b4_b10) P160_0 (by decide) (by decide) (cells' := 8) rfl (slots' := 33) rfl (by decide) (by decide) e165 (by rw [hml]; rfl) (lenOf pd_4 rfl) rfl rfl (hb hby at_308) (pc' := 311) rfl ?_
                          intro T166 v166 L166 X166 hQ166
                          obtain ⟨rfl, Nq166, e166⟩ := hQ166
                          have N166 := Fr.app N165 Nq166
                          show Go p e below _ (T166.setTop (mkF m 311 _ [.int (-1 : Int32)]))
                          refine o_iconst X166 hx (-1 : Int32) (hb hby at_311) (pc' := 312) rfl (by decide) ?_
                          refine o_cmpY X166 hx (hb hby at_312) (teq (by decide : (-1 : Int32) = (-1 : Int32))).1 (by decide) (pc' := 317) (by decide) ?_
                          refine o_iload X166 hx (hb hby at_317) (pc' := 319) rfl rfl ?_
                          refine o_ifN X166 hx (hb hby at_319) (tlt (by decide : (0 : Int32) < (3 : Int32))).2.2.2 (pc' := 322) rfl ?_
                          refine o_iload X166 hx (hb hby at_322) (pc' := 324) rfl rfl ?_
                          refine o_ifN X166 hx (hb hby at_324) (feq (by decide : ¬ ((1 : Int32) = (0 : Int32)))).1 (pc' := 327) rfl ?_
                          refine o_iconst X166 hx (1 : Int32) (hb hby at_327) (pc' := 328) rfl (by decide) ?_
                          refine o_goto X166 hx (hb hby at_328) (by decide) (pc' := 332) (by decide) ?_
                          refine o_iload X166 hx (hb hby at_332) (pc' := 334) rfl rfl ?_
                          refine o_iconst X166 hx (1 : Int32) (hb hby at_334) (pc' := 335) rfl (by decide) ?_
                          refine o_cmpN X166 hx (hb hby at_335) (tlt (by decide : (1 : Int32) < (3 : Int32))).2.2.2 (pc' := 338) rfl ?_
                          refine o_iload X166 hx (hb hby at_338) (pc' := 340) rfl rfl ?_
                          refine o_iconst X166 hx (1 : Int32) (hb hby at_340) (pc' := 341) rfl (by decide) ?_
                          refine o_cmpY X166 hx (hb hby at_341) (teq (by decide : (1 : Int32) = (1 : Int32))).1 (by decide) (pc' := 348) (by decide) ?_
                          refine o_iconst X166 hx (0 : Int32) (hb hby at_348) (pc' := 349) rfl (by decide) ?_
                          refine o_iload X166 hx (hb hby at_349) (pc' := 351) rfl rfl ?_
                          refine o_iconst X166 hx (2 : Int32) (hb hby at_351) (pc' := 352) rfl (by decide) ?_
                          refine o_cmpN X166 hx (hb hby at_352) (tlt (by decide : (2 : Int32) < (3 : Int32))).2.2.2 (pc' := 355) rfl ?_
                          refine o_iload X166 hx (hb hby at_355) (pc' := 357) rfl rfl ?_
                          refine o_iconst X166 hx (2 : Int32) (hb hby at_357) (pc' := 358) rfl (by decide) ?_
                          refine o_cmpN X166 hx (hb hby at_358) (feq (by decide : ¬ ((1 : Int32) = (2 : Int32)))).1 (pc' := 361) rfl ?_
                          refine o_iconst X166 hx (1 : Int32) (hb hby at_361) (pc' := 362) rfl (by decide) ?_
                          refine o_goto X166 hx (hb hby at_362) (by decide) (pc' := 366) (by decide) ?_
                          refine o_iload X166 hx (hb hby at_366) (pc' := 368) rfl rfl ?_
                          refine o_iload X166 hx (hb hby at_368) (pc' := 370) rfl rfl ?_
                          refine o_iload X166 hx (hb hby at_370) (pc' := 372) rfl rfl ?_
                          refine o_lloadN X166 hx (hb hby at_372) (pc' := 373) rfl rfl ?_
                          refine o_lload X166 hx (hb hby at_373) (pc' := 375) rfl rfl ?_
                          refine o_lloadN X166 hx (hb hby at_375) (pc' := 376) rfl rfl ?_
                          refine o_lload X166 hx (hb hby at_376) (pc' := 378) rfl rfl ?_
                          refine o_lload X166 hx (hb hby at_378) (pc' := 380) rfl rfl ?_
                          refine o_lload X166 hx (hb hby at_380) (pc' := 382) rfl rfl ?_
                          refine o_callS X166 hx hZ 0 (argsL := [.int (1 : Int32), .int (0 : Int32), .int (1 : Int32), .int (1 : Int32), .int (-1 : Int32), .int (0 : Int32), .long q0, .long (o0 q0 q1 q2 q3), .long q1, .long (1 : Int64), .long q2, .long (o1 q0 q1 q2 q3)]) (rest := []) hown (w 53 _ rfl) (w 54 _ rfl) (w 55 _ rfl) (w 56 _ rfl) (by decide) (rm10 l Z a0 hw [] (1 : Int32) (0 : Int32) (1 : Int32) (1 : Int32) (-1 : Int32) (0 : Int32) q0 (o0 q0 q1 q2 q3) q1 (1 : Int64) q2 (o1 q0 q1 q2 q3) T160.heap n0 Z160 ) (by decide) (by decide) (cells' := 8) rfl (slots' := 33) rfl (by decide) (by decide) e166 (by rw [hml]; rfl) (lenOf pd_5 rfl) rfl rfl (hb hby at_382) (pc' := 385) rfl ?_
                          intro T167 v167 L167 X167 hQ167
                          obtain ⟨rfl, Nq167, e167⟩ := hQ167
                          have N167 := Fr.app N166 Nq167
                          show Go p e below _ (T167.setTop (mkF m 385 _ [.int (o3 (1 : Int32) (0 : Int32) (1 : Int32) (1 : Int32) (-1 : Int32) (0 : Int32) q0 (o0 q0 q1 q2 q3) q1 (1 : Int64) q2 (o1 q0 q1 q2 q3))]))
                          rw [← hOWE]
                          exact o_retZ X167 hx (own_narZ (o24 (1 : Int32) (0 : Int32) (1 : Int32) (1 : Int32) (-1 : Int32) (0 : Int32) q0 (o0 q0 q1 q2 q3) q1 (1 : Int64) q2 (o1 q0 q1 q2 q3))) hlk hrt (hb hby at_385) (by decide) (by decide) (by rw [e167]; exact ⟨(by rw [o7, o10, o9, o8, if_neg hs16, if_neg hs26, if_neg hs45, if_pos hm120_102, if_neg hm137_105, if_neg hc231_150, if_neg hs151, if_pos hs159, if_pos hm274_161]), N167⟩)
                        · obtain ⟨-, hQ160⟩ := hQ160.resolve_left (fun q => hm137_105 q.1)
                          obtain ⟨rfl, Nq160, Kq160, P160_0, P160_1, P160_2, P160_3, P160_4, P160_5, P160_6, P160_7, P160_8⟩ := hQ160
                          have N160 := Fr.app N149 Nq160
                          have E168_b4 := Exa.keep E144_b4 Kq160
                          have E168_b6 := Exa.keep E144_b6 Kq160
                          have E168_b8 := Exa.keep E144_b8 Kq160
                          have E168_b10 := Exa.keep E144_b10 Kq160
                          have Z160 : n0 ≤ T160.heap.size := Nat.le_trans Z104 Kq160.1
                          show Go p e below _ (T160.setTop (mkF m 277 _ []))
                          refine o_aload X160 hx (hb hby at_277) (pc' := 279) rfl rfl rfl ?_
                          refine o_aload X160 hx (hb hby at_279) (pc' := 281) rfl rfl rfl ?_
                          refine o_callV X160 hx hZ 0 (argsL := [.ref b4]) (rest := []) (a := b12) hown (w 48 _ rfl) (w 49 _ rfl) (w 51 _ rfl) (w 50 _ rfl) (w 4 _ rfl) (w 52 _ rfl) (by decide) (rm9s13 l Z a0 hw [] _ _ _ _ _ T160.heap n0 Z160 P160_0 P160_1 P160_5 E168_b8 E168_b4 P160_6 On14_0 ne_b12_bn14_0 (Ne.symm ne_b8_b12) (Ne.symm ne_b8_bn14_0) (Ne.symm ne_b4_b12) (Ne.symm ne_b4_bn14_0) (Ne.symm ne_b4_b8)) P160_0 (by decide) (by decide) (cells' := 8) rfl (slots' := 33) rfl (by decide) (by decide) rfl (by rw [hml]; rfl) (lenOf pd_4 rfl) rfl rfl (hb hby at_281) (pc' := 284) rfl ?_
                          intro T169 v169 L169 X169 hQ169
                          obtain ⟨rfl, Nq169, e169⟩ := hQ169
                          have N169 := Fr.app N160 Nq169
                          show Go p e below _ (T169.setTop (mkF m 284 _ [.int (1 : Int32)]))
                          refine o_istore X169 hx (hb hby at_284) (pc' := 286) rfl (L' := #[.val (.long q0), .second, .val (.long q1), .second, .val (.long q2), .second, .val (.int q3), .val (.int (3 : Int32)), .val (.int (1 : Int32)), .val (.int (o2 q0 q1 q2 q3)), .val (.long (o0 q0 q1 q2 q3)), .second, .val (.long (1 : Int64)), .second, .val (.long (o1 q0 q1 q2 q3)), .second, .val (.ref b4), .val (.ref b6), .val (.ref b8), .val (.ref b10), .val (.ref b12), .val (.int (2 : Int32)), .val (.int (1 : Int32)), .val (.int (0 : Int32)), .val (.int (1 : Int32)), .val (.int (1 : Int32)), .unset, .unset]) rfl ?_
                          refine o_aload X169 hx (hb hby at_286) (pc' := 288) rfl rfl rfl ?_
                          refine o_aload X169 hx (hb hby at_288) (pc' := 290) rfl rfl rfl ?_
                          refine o_callV X169 hx hZ 0 (argsL := [.ref b6]) (rest := []) (a := b12) hown (w 48 _ rfl) (w 49 _ rfl) (w 51 _ rfl) (w 50 _ rfl) (w 4 _ rfl) (w 52 _ rfl) (by decide) (rm9s14 l Z a0 hw [] _ _ _ _ _ _ T160.heap n0 Z160 P160_0 P160_1 P160_5 E168_b8 E168_b4 E168_b6 P160_6 On14_0 ne_b12_bn14_0 (Ne.symm ne_b8_b12) (Ne.symm ne_b8_bn14_0) (Ne.symm ne_b4_b12) (Ne.symm ne_b4_bn14_0) (Ne.symm ne_b4_b8) (Ne.symm ne_b6_b12) (Ne.symm ne_b6_bn14_0) (Ne.symm ne_b6_b8) ne_b4_b6) P160_0 (by decide) (by decide) (cells' := 8) rfl (slots' := 33) rfl (by decide) (by decide) e169 (by rw [hml]; rfl) (lenOf pd_4 rfl) rfl rfl (hb hby at_290) (pc' := 293) rfl ?_
                          intro T170 v170 L170 X170 hQ170
                          obtain ⟨rfl, Nq170, e170⟩ := hQ170
                          have N170 := Fr.app N169 Nq170
                          show Go p e below _ (T170.setTop (mkF m 293 _ [.int (-1 : Int32)]))
                          refine o_istore X170 hx (hb hby at_293) (pc' := 295) rfl (L' := #[.val (.long q0), .second, .val (.long q1), .second, .val (.long q2), .second, .val (.int q3), .val (.int (3 : Int32)), .val (.int (1 : Int32)), .val (.int (o2 q0 q1 q2 q3)), .val (.long (o0 q0 q1 q2 q3)), .second, .val (.long (1 : Int64)), .second, .val (.long (o1 q0 q1 q2 q3)), .second, .val (.ref b4), .val (.ref b6), .val (.ref b8), .val (.ref b10), .val (.ref b12), .val (.int (2 : Int32)), .val (.int (1 : Int32)), .val (.int (0 : Int32)), .val (.int (1 : Int32)), .val (.int (1 : Int32)), .val (.int (-1 : Int32)), .unset]) rfl ?_
                          refine o_aload X170 hx (hb hby at_295) (pc' := 297) rfl rfl rfl ?_
                          refine o_aload X170 hx (hb hby at_297) (pc' := 299) rfl rfl rfl ?_
                          refine o_callV X170 hx hZ 0 (argsL := [.ref b8]) (rest := []) (a := b12) hown (w 48 _ rfl) (w 49 _ rfl) (w 51 _ rfl) (w 50 _ rfl) (w 4 _ rfl) (w 52 _ rfl) (by decide) (rm9s12 l Z a0 hw [] _ _ _ _ _ T160.heap n0 Z160 P160_0 P160_1 P160_5 E168_b8 E168_b4 P160_6 On14_0 ne_b12_bn14_0 (Ne.symm ne_b8_b12) (Ne.symm ne_b8_bn14_0) (Ne.symm ne_b4_b12) (Ne.symm ne_b4_bn14_0) (Ne.symm ne_b4_b8)) P160_0 (by decide) (by decide) (cells' := 8) rfl (slots' := 33) rfl (by decide) (by decide) e170 (by rw [hml]; rfl) (lenOf pd_4 rfl) rfl rfl (hb hby at_299) (pc' := 302) rfl ?_
                          intro T171 v171 L171 X171 hQ171
                          obtain ⟨rfl, Nq171, e171⟩ := hQ171
                          have N171 := Fr.app N170 Nq171
                          show Go p e below _ (T171.setTop (mkF m 302 _ [.int (0 : Int32)]))
                          refine o_istore X171 hx (hb hby at_302) (pc' := 304) rfl (L' := #[.val (.long q0), .second, .val (.long q1), .second, .val (.long q2), .second, .val (.int q3), .val (.int (3 : Int32)), .val (.int (1 : Int32)), .val (.int (o2 q0 q1 q2 q3)), .val (.long (o0 q0 q1 q2 q3)), .second, .val (.long (1 : Int64)), .second, .val (.long (o1 q0 q1 q2 q3)), .second, .val (.ref b4), .val (.ref b6), .val (.ref b8), .val (.ref b10), .val (.ref b12), .val (.int (2 : Int32)), .val (.int (1 : Int32)), .val (.int (0 : Int32)), .val (.int (1 : Int32)), .val (.int (1 : Int32)), .val (.int (-1 : Int32)), .val (.int (0 : Int32))]) rfl ?_
                          refine o_aload X171 hx (hb hby at_304) (pc' := 306) rfl rfl rfl ?_
                          refine o_aload X171 hx (hb hby at_306) (pc' := 308) rfl rfl rfl ?_
                          refine o_callV X171 hx hZ 0 (argsL := [.ref b10]) (rest := []) (a := b12) hown (w 48 _ rfl) (w 49 _ rfl) (w 51 _ rfl) (w 50 _ rfl) (w 4 _ rfl) (w 52 _ rfl) (by decide) (rm9s14 l Z a0 hw [] _ _ _ _ _ _ T160.heap n0 Z160 P160_0 P160_1 P160_5 E168_b8 E168_b4 E168_b10 P160_6 On14_0 ne_b12_bn14_0 (Ne.symm ne_b8_b12) (Ne.symm ne_b8_bn14_0) (Ne.symm ne_b4_b12) (Ne.symm ne_b4_bn14_0) (Ne.symm ne_b4_b8) (Ne.symm ne_b10_b12) (Ne.symm ne_b10_bn14_0) ne_b8_b10 ne_b4_b10) P160_0 (by decide) (by decide) (cells' := 8) rfl (slots' := 33) rfl (by decide) (by decide) e171 (by rw [hml]; rfl) (lenOf pd_4 rfl) rfl rfl (hb hby at_308) (pc' := 311) rfl ?_
                          intro T172 v172 L172 X172 hQ172
                          obtain ⟨rfl, Nq172, e172⟩ := hQ172
                          have N172 := Fr.app N171 Nq172
                          show Go p e below _ (T172.setTop (mkF m 311 _ [.int (-1 : Int32)]))
                          refine o_iconst X172 hx (-1 : Int32) (hb hby at_311) (pc' := 312) rfl (by decide) ?_
                          refine o_cmpY X172 hx (hb hby at_312) (teq (by decide : (-1 : Int32) = (-1 : Int32))).1 (by decide) (pc' := 317) (by decide) ?_
                          refine o_iload X172 hx (hb hby at_317) (pc' := 319) rfl rfl ?_
                          refine o_ifN X172 hx (hb hby at_319) (tlt (by decide : (0 : Int32) < (3 : Int32))).2.2.2 (pc' := 322) rfl ?_
                          refine o_iload X172 hx (hb hby at_322) (pc' := 324) rfl rfl ?_
                          refine o_ifN X172 hx (hb hby at_324) (feq (by decide : ¬ ((1 : Int32) = (0 : Int32)))).1 (pc' := 327) rfl ?_
                          refine o_iconst X172 hx (1 : Int32) (hb hby at_327) (pc' := 328) rfl (by decide) ?_
                          refine o_goto X172 hx (hb hby at_328) (by decide) (pc' := 332) (by decide) ?_
                          refine o_iload X172 hx (hb hby at_332) (pc' := 334) rfl rfl ?_
                          refine o_iconst X172 hx (1 : Int32) (hb hby at_334) (pc' := 335) rfl (by decide) ?_
                          refine o_cmpN X172 hx (hb hby at_335) (tlt (by decide : (1 : Int32) < (3 : Int32))).2.2.2 (pc' := 338) rfl ?_
                          refine o_iload X172 hx (hb hby at_338) (pc' := 340) rfl rfl ?_
                          refine o_iconst X172 hx (1 : Int32) (hb hby at_340) (pc' := 341) rfl (by decide) ?_
                          refine o_cmpY X172 hx (hb hby at_341) (teq (by decide : (1 : Int32) = (1 : Int32))).1 (by decide) (pc' := 348) (by decide) ?_
                          refine o_iconst X172 hx (0 : Int32) (hb hby at_348) (pc' := 349) rfl (by decide) ?_
                          refine o_iload X172 hx (hb hby at_349) (pc' := 351) rfl rfl ?_
                          refine o_iconst X172 hx (2 : Int32) (hb hby at_351) (pc' := 352) rfl (by decide) ?_
                          refine o_cmpN X172 hx (hb hby at_352) (tlt (by decide : (2 : Int32) < (3 : Int32))).2.2.2 (pc' := 355) rfl ?_
                          refine o_iload X172 hx (hb hby at_355) (pc' := 357) rfl rfl ?_
                          refine o_iconst X172 hx (2 : Int32) (hb hby at_357) (pc' := 358) rfl (by decide) ?_
                          refine o_cmpN X172 hx (hb hby at_358) (feq (by decide : ¬ ((1 : Int32) = (2 : Int32)))).1 (pc' := 361) rfl ?_
                          refine o_iconst X172 hx (1 : Int32) (hb hby at_361) (pc' := 362) rfl (by decide) ?_
                          refine o_goto X172 hx (hb hby at_362) (by decide) (pc' := 366) (by decide) ?_
                          refine o_iload X172 hx (hb hby at_366) (pc' := 368) rfl rfl ?_
                          refine o_iload X172 hx (hb hby at_368) (pc' := 370) rfl rfl ?_
                          refine o_iload X172 hx (hb hby at_370) (pc' := 372) rfl rfl ?_
                          refine o_lloadN X172 hx (hb hby at_372) (pc' := 373) rfl rfl ?_
                          refine o_lload X172 hx (hb hby at_373) (pc' := 375) rfl rfl ?_
                          refine o_lloadN X172 hx (hb hby at_375) (pc' := 376) rfl rfl ?_
                          refine o_lload X172 hx (hb hby at_376) (pc' := 378) rfl rfl ?_
                          refine o_lload X172 hx (hb hby at_378) (pc' := 380) rfl rfl ?_
                          refine o_lload X172 hx (hb hby at_380) (pc' := 382) rfl rfl ?_
                          refine o_callS X172 hx hZ 0 (argsL := [.int (1 : Int32), .int (0 : Int32), .int (1 : Int32), .int (1 : Int32), .int (-1 : Int32), .int (0 : Int32), .long q0, .long (o0 q0 q1 q2 q3), .long q1, .long (1 : Int64), .long q2, .long (o1 q0 q1 q2 q3)]) (rest := []) hown (w 53 _ rfl) (w 54 _ rfl) (w 55 _ rfl) (w 56 _ rfl) (by decide) (rm10 l Z a0 hw [] (1 : Int32) (0 : Int32) (1 : Int32) (1 : Int32) (-1 : Int32) (0 : Int32) q0 (o0 q0 q1 q2 q3) q1 (1 : Int64) q2 (o1 q0 q1 q2 q3) T160.heap n0 Z160 ) (by decide) (by decide) (cells' := 8) rfl (slots' := 33) rfl (by decide) (by decide) e172 (by rw [hml]; rfl) (lenOf pd_5 rfl) rfl rfl (hb hby at_382) (pc' := 385) rfl ?_
                          intro T173 v173 L173 X173 hQ173
                          obtain ⟨rfl, Nq173, e173⟩ := hQ173
                          have N173 := Fr.app N172 Nq173
                          show Go p e below _ (T173.setTop (mkF m 385 _ [.int (o3 (1 : Int32) (0 : Int32) (1 : Int32) (1 : Int32) (-1 : Int32) (0 : Int32) q0 (o0 q0 q1 q2 q3) q1 (1 : Int64) q2 (o1 q0 q1 q2 q3))]))
                          rw [← hOWE]
                          exact o_retZ X173 hx (own_narZ (o24 (1 : Int32) (0 : Int32) (1 : Int32) (1 : Int32) (-1 : Int32) (0 : Int32) q0 (o0 q0 q1 q2 q3) q1 (1 : Int64) q2 (o1 q0 q1 q2 q3))) hlk hrt (hb hby at_385) (by decide) (by decide) (by rw [e173]; exact ⟨(by rw [o7, o10, o9, o8, if_neg hs16, if_neg hs26, if_neg hs45, if_pos hm120_102, if_neg hm137_105, if_neg hc231_150, if_neg hs151, if_pos hs159, if_neg hm274_161]), N173⟩)
                      · have hs174 : (o4 q0 q1 q2 q3) = (2 : Int32) := (((o46 q0 q1 q2 q3)).resolve_left hs151).resolve_left hs159
                        rw [hs174]
                        refine o_iload X149 hx (hb hby at_236) (pc' := 238) rfl rfl ?_
                        refine o_iload X149 hx (hb hby at_238) (pc' := 240) rfl rfl ?_
                        refine o_cmpY X149 hx (hb hby at_240) (tlt (by decide : (2 : Int32) < (3 : Int32))).1 (by decide) (pc' := 245) (by decide) ?_
                        refine o_iload X149 hx (hb hby at_245) (pc' := 247) rfl rfl ?_
                        refine o_ifY X149 hx (hb hby at_247) (feq (by decide : ¬ ((2 : Int32) = (0 : Int32)))).2 (by decide) (pc' := 255) (by decide) ?_
                        refine o_iload X149 hx (hb hby at_255) (pc' := 257) rfl rfl ?_
                        refine o_iconst X149 hx (1 : Int32) (hb hby at_257) (pc' := 258) rfl (by decide) ?_
                        refine o_cmpY X149 hx (hb hby at_258) (feq (by decide : ¬ ((2 : Int32) = (1 : Int32)))).2 (by decide) (pc' := 266) (by decide) ?_
                        refine o_iload X149 hx (hb hby at_266) (pc' := 268) rfl rfl ?_
                        refine o_istore X149 hx (hb hby at_268) (pc' := 270) rfl (L' := #[.val (.long q0), .second, .val (.long q1), .second, .val (.long q2), .second, .val (.int q3), .val (.int (3 : Int32)), .val (.int (2 : Int32)), .val (.int (o2 q0 q1 q2 q3)), .val (.long (o0 q0 q1 q2 q3)), .second, .val (.long (1 : Int64)), .second, .val (.long (o1 q0 q1 q2 q3)), .second, .val (.ref b4), .val (.ref b6), .val (.ref b8), .val (.ref b10), .val (.ref b12), .val (.int (2 : Int32)), .val (.int (1 : Int32)), .val (.int (0 : Int32)), .val (.int (0 : Int32)), .unset, .unset, .unset]) rfl ?_
                        refine o_aload X149 hx (hb hby at_270) (pc' := 272) rfl rfl rfl ?_
                        refine o_iload X149 hx (hb hby at_272) (pc' := 274) rfl rfl ?_
                        refine o_callV X149 hx hZ 0 (argsL := [.int (0 : Int32)]) (rest := []) (a := b12) hown (w 63 _ rfl) (w 64 _ rfl) (w 66 _ rfl) (w 65 _ rfl) (w 4 _ rfl) (w 67 _ rfl) (by decide) (rm13s27 l Z a0 hw [] _ _ _ _ _ _ _ _ _ _ _ _ _ _ _ _ _ _ _ _ _ _ _ _ _ _ T104.heap n0 Z104 P104_0 P104_1 P104_2 P104_3 P104_4 P104_5 g_b12 E144_b8 E144_b6 E144_b4 P104_6 On14_0 gn14_0 P104_7 gn14_1 P104_8 gn14_2 ne_b12_bn14_0 (Ne.symm ne_b8_b12) (Ne.symm ne_b8_bn14_0) (Ne.symm ne_b6_b12) (Ne.symm ne_b6_bn14_0) (Ne.symm ne_b6_b8) (Ne.symm ne_b4_b12) (Ne.symm ne_b4_bn14_0) (Ne.symm ne_b4_b8) (Ne.symm ne_b4_b6) ne_b12_bn14_1 nn14_0_1 ne_b8_bn14_1 ne_b6_bn14_1 ne_b4_bn14_1 ne_b12_bn14_2 nn14_0_2 ne_b8_bn14_2 ne_b6_bn14_2 ne_b4_bn14_2 nn14_1_2) P104_0 (by decide) (by decide) (cells' := 8) rfl (slots' := 33) rfl (by decide) (by decide) e149 (by rw [hml]; rfl) (lenOf pd_10 rfl) rfl rfl (hb hby at_274) (pc' := 277) rfl ?_
                        intro T175 v175 L175 X175 hQ175
                        obtain ⟨-, hQ175⟩ := hQ175.resolve_right (fun q => q.1 hm120_102)
                        obtain ⟨rfl, Nq175, Kq175, P175_0, P175_1, P175_2, P175_3, P175_4, P175_5, P175_6, P175_7, P175_8⟩ := hQ175
                        have N175 := Fr.app N149 Nq175
                        have E176_b4 := Exa.keep E144_b4 Kq175
                        have E176_b6 := Exa.keep E144_b6 Kq175
                        have E176_b8 := Exa.keep E144_b8 Kq175
                        have E176_b10 := Exa.keep E144_b10 Kq175
                        have Z175 : n0 ≤ T175.heap.size := Nat.le_trans Z104 Kq175.1
                        show Go p e below _ (T175.setTop (mkF m 277 _ []))
                        refine o_aload X175 hx (hb hby at_277) (pc' := 279) rfl rfl rfl ?_
                        refine o_aload X175 hx (hb hby at_279) (pc' := 281) rfl rfl rfl ?_
                        refine o_callV X175 hx hZ 0 (argsL := [.ref b4]) (rest := []) (a := b12) hown (w 48 _ rfl) (w 49 _ rfl) (w 51 _ rfl) (w 50 _ rfl) (w 4 _ rfl) (w 52 _ rfl) (by decide) (rm9s12 l Z a0 hw [] _ _ _ _ _ T175.heap n0 Z175 P175_0 P175_1 P175_5 E176_b4 E176_b6 P175_6 On14_0 ne_b12_bn14_0 (Ne.symm ne_b4_b12) (Ne.symm ne_b4_bn14_0) (Ne.symm ne_b6_b12) (Ne.symm ne_b6_bn14_0) ne_b4_b6) P175_0 (by decide) (by decide) (cells' := 8) rfl (slots' := 33) rfl (by decide) (by decide) rfl (by rw [hml]; rfl) (lenOf pd_4 rfl) rfl rfl (hb hby at_281) (pc' := 284) rfl ?_
                        intro T177 v177 L177 X177 hQ177
                        obtain ⟨rfl, Nq177, e177⟩ := hQ177
                        have N177 := Fr.app N175 Nq177
                        show Go p e below _ (T177.setTop (mkF m 284 _ [.int (0 : Int32)]))
                        refine o_istore X177 hx (hb hby at_284) (pc' := 286) rfl (L' := #[.val (.long q0), .second, .val (.long q1), .second, .val (.long q2), .second, .val (.int q3), .val (.int (3 : Int32)), .val (.int (2 : Int32)), .val (.int (o2 q0 q1 q2 q3)), .val (.long (o0 q0 q1 q2 q3)), .second, .val (.long (1 : Int64)), .second, .val (.long (o1 q0 q1 q2 q3)), .second, .val (.ref b4), .val (.ref b6), .val (.ref b8), .val (.ref b10), .val (.ref b12), .val (.int (2 : Int32)), .val (.int (1 : Int32)), .val (.int (0 : Int32)), .val (.int (0 : Int32)), .val (.int (0 : Int32)), .unset, .unset]) rfl ?_
                        refine o_aload X177 hx (hb hby at_286) (pc' := 288) rfl rfl rfl ?_
                        refine o_aload X177 hx (hb hby at_288) (pc' := 290) rfl rfl rfl ?_
                        refine o_callV X177 hx hZ 0 (argsL := [.ref b6]) (rest := []) (a := b12) hown (w 48 _ rfl) (w 49 _ rfl) (w 51 _ rfl) (w 50 _ rfl) (w 4 _ rfl) (w 52 _ rfl) (by decide) (rm9s13 l Z a0 hw [] _ _ _ _ _ T175.heap n0 Z175 P175_0 P175_1 P175_5 E176_b4 E176_b6 P175_6 On14_0 ne_b12_bn14_0 (Ne.symm ne_b4_b12) (Ne.symm ne_b4_bn14_0) (Ne.symm ne_b6_b12) (Ne.symm ne_b6_bn14_0) ne_b4_b6) P175_0 (by decide) (by decide) (cells' := 8) rfl (slots' := 33) rfl (by decide) (by decide) e177 (by rw [hml]; rfl) (lenOf pd_4 rfl) rfl rfl (hb hby at_290) (pc' := 293) rfl ?_
                        intro T178 v178 L178 X178 hQ178
                        obtain ⟨rfl, Nq178, e178⟩ := hQ178
                        have N178 := Fr.app N177 Nq178
                        show Go p e below _ (T178.setTop (mkF m 293 _ [.int (1 : Int32)]))
                        refine o_istore X178 hx (hb hby at_293) (pc' := 295) rfl (L' := #[.val (.long q0), .second, .val (.long q1), .second, .val (.long q2), .second, .val (.int q3), .val (.int (3 : Int32)), .val (.int (2 : Int32)), .val (.int (o2 q0 q1 q2 q3)), .val (.long (o0 q0 q1 q2 q3)), .second, .val (.long (1 : Int64)), .second, .val (.long (o1 q0 q1 q2 q3)), .second, .val (.ref b4), .val (.ref b6), .val (.ref b8), .val (.ref b10), .val (.ref b12), .val (.int (2 : Int32)), .val (.int (1 : Int32)), .val (.int (0 : Int32)), .val (.int (0 : Int32)), .val (.int (0 : Int32)), .val (.int (1 : Int32)), .unset]) rfl ?_
                        refine o_aload X178 hx (hb hby at_295) (pc' := 297) rfl rfl rfl ?_
                        refine o_aload X178 hx (hb hby at_297) (pc' := 299) rfl rfl rfl ?_
                        refine o_callV X178 hx hZ 0 (argsL := [.ref b8]) (rest := []) (a := b12) hown (w 48 _ rfl) (w 49 _ rfl) (w 51 _ rfl) (w 50 _ rfl) (w 4 _ rfl) (w 52 _ rfl) (by decide) (rm9s14 l Z a0 hw [] _ _ _ _ _ _ T175.heap n0 Z175 P175_0 P175_1 P175_5 E176_b4 E176_b6 E176_b8 P175_6 On14_0 ne_b12_bn14_0 (Ne.symm ne_b4_b12) (Ne.symm ne_b4_bn14_0) (Ne.symm ne_b6_b12) (Ne.symm ne_b6_bn14_0) ne_b4_b6 (Ne.symm ne_b8_b12) (Ne.symm ne_b8_bn14_0) ne_b4_b8 ne_b6_b8) P175_0 (by decide) (by decide) (cells' := 8) rfl (slots' := 33) rfl (by decide) (by decide) e178 (by rw [hml]; rfl) (lenOf pd_4 rfl) rfl rfl (hb hby at_299) (pc' := 302) rfl ?_
                        intro T179 v179 L179 X179 hQ179
                        obtain ⟨rfl, Nq179, e179⟩ := hQ179
                        have N179 := Fr.app N178 Nq179
                        show Go p e below _ (T179.setTop (mkF m 302 _ [.int (-1 : Int32)]))
                        refine o_istore X179 hx (hb hby at_302) (pc' := 304) rfl (L' := #[.val (.long q0), .second, .val (.long q1), .second, .val (.long q2), .second, .val (.int q3), .val (.int (3 : Int32)), .val (.int (2 : Int32)), .val (.int (o2 q0 q1 q2 q3)), .val (.long (o0 q0 q1 q2 q3)), .second, .val (.long (1 : Int64)), .second, .val (.long (o1 q0 q1 q2 q3)), .second, .val (.ref b4), .val (.ref b6), .val (.ref b8), .val (.ref b10), .val (.ref b12), .val (.int (2 : Int32)), .val (.int (1 : Int32)), .val (.int (0 : Int32)), .val (.int (0 : Int32)), .val (.int (0 : Int32)), .val (.int (1 : Int32)), .val (.int (-1 : Int32))]) rfl ?_
                        refine o_aload X179 hx (hb hby at_304) (pc' := 306) rfl rfl rfl ?_
                        refine o_aload X179 hx (hb hby at_306) (pc' := 308) rfl rfl rfl ?_
                        refine o_callV X179 hx hZ 0 (argsL := [.ref b10]) (rest := []) (a := b12) hown (w 48 _ rfl) (w 49 _ rfl) (w 51 _ rfl) (w 50 _ rfl) (w 4 _ rfl) (w 52 _ rfl) (by decide) (rm9s14 l Z a0 hw [] _ _ _ _ _ _ T175.heap n0 Z175 P175_0 P175_1 P175_5 E176_b4 E176_b6 E176_b10 P175_6 On14_0 ne_b12_bn14_0 (Ne.symm ne_b4_b12) (Ne.symm ne_b4_bn14_0) (Ne.symm ne_b6_b12) (Ne.symm ne_b6_bn14_0) ne_b4_b6 (Ne.symm ne_b10_b12) (Ne.symm ne_b10_bn14_0) ne_b4_b10 ne_b6_b10) P175_0 (by decide) (by decide) (cells' := 8) rfl (slots' := 33) rfl (by decide) (by decide) e179 (by rw [hml]; rfl) (lenOf pd_4 rfl) rfl rfl (hb hby at_308) (pc' := 311) rfl ?_
                        intro T180 v180 L180 X180 hQ180
                        obtain ⟨rfl, Nq180, e180⟩ := hQ180
                        have N180 := Fr.app N179 Nq180
                        show Go p e below _ (T180.setTop (mkF m 311 _ [.int (-1 : Int32)]))
                        refine o_iconst X180 hx (-1 : Int32) (hb hby at_311) (pc' := 312) rfl (by decide) ?_
                        refine o_cmpY X180 hx (hb hby at_312) (teq (by decide : (-1 : Int32) = (-1 : Int32))).1 (by decide) (pc' := 317) (by decide) ?_
                        refine o_iload X180 hx (hb hby at_317) (pc' := 319) rfl rfl ?_
                        refine o_ifN X180 hx (hb hby at_319) (tlt (by decide : (0 : Int32) < (3 : Int32))).2.2.2 (pc' := 322) rfl ?_
                        refine o_iload X180 hx (hb hby at_322) (pc' := 324) rfl rfl ?_
                        refine o_ifN X180 hx (hb hby at_324) (feq (by decide : ¬ ((2 : Int32) = (0 : Int32)))).1 (pc' := 327) rfl ?_
                        refine o_iconst X180 hx (1 : Int32) (hb hby at_327) (pc' := 328) rfl (by decide) ?_
                        refine o_goto X180 hx (hb hby at_328) (by decide) (pc' := 332) (by decide) ?_
                        refine o_iload X180 hx (hb hby at_332) (pc' := 334) rfl rfl ?_
                        refine o_iconst X180 hx (1 : Int32) (hb hby at_334) (pc' := 335) rfl (by decide) ?_
                        refine o_cmpN X180 hx (hb hby at_335) (tlt (by decide : (1 : Int32) < (3 : Int32))).2.2.2 (pc' := 338) rfl ?_
                        refine o_iload X180 hx (hb hby at_338) (pc' := 340) rfl rfl ?_
                        refine o_iconst X180 hx (1 : Int32) (hb hby at_340) (pc' := 341) rfl (by decide) ?_
                        refine o_cmpN X180 hx (hb hby at_341) (feq (by decide : ¬ ((2 : Int32) = (1 : Int32)))).1 (pc' := 344) rfl ?_
                        refine o_iconst X180 hx (1 : Int32) (hb hby at_344) (pc' := 345) rfl (by decide) ?_
                        refine o_goto X180 hx (hb hby at_345) (by decide) (pc' := 349) (by decide) ?_
                        refine o_iload X180 hx (hb hby at_349) (pc' := 351) rfl rfl ?_
                        refine o_iconst X180 hx (2 : Int32) (hb hby at_351) (pc' := 352) rfl (by decide) ?_
                        refine o_cmpN X180 hx (hb hby at_352) (tlt (by decide : (2 : Int32) < (3 : Int32))).2.2.2 (pc' := 355) rfl ?_
                        refine o_iload X180 hx (hb hby at_355) (pc' := 357) rfl rfl ?_
                        refine o_iconst X180 hx (2 : Int32) (hb hby at_357) (pc' := 358) rfl (by decide) ?_
                        refine o_cmpY X180 hx (hb hby at_358) (teq (by decide : (2 : Int32) = (2 : Int32))).1 (by decide) (pc' := 365) (by decide) ?_
                        refine o_iconst X180 hx (0 : Int32) (hb hby at_365) (pc' := 366) rfl (by decide) ?_
                        refine o_iload X180 hx (hb hby at_366) (pc' := 368) rfl rfl ?_
                        refine o_iload X180 hx (hb hby at_368) (pc' := 370) rfl rfl ?_
                        refine o_iload X180 hx (hb hby at_370) (pc' := 372) rfl rfl ?_
                        refine o_lloadN X180 hx (hb hby at_372) (pc' := 373) rfl rfl ?_
                        refine o_lload X180 hx (hb hby at_373) (pc' := 375) rfl rfl ?_
                        refine o_lloadN X180 hx (hb hby at_375) (pc' := 376) rfl rfl ?_
                        refine o_lload X180 hx (hb hby at_376) (pc' := 378) rfl rfl ?_
                        refine o_lload X180 hx (hb hby at_378) (pc' := 380) rfl rfl ?_
                        refine o_lload X180 hx (hb hby at_380) (pc' := 382) rfl rfl ?_
                        refine o_callS X180 hx hZ 0 (argsL := [.int (1 : Int32), .int (1 : Int32), .int (0 : Int32), .int (0 : Int32), .int (1 : Int32), .int (-1 : Int32), .long q0, .long (o0 q0 q1 q2 q3), .long q1, .long (1 : Int64), .long q2, .long (o1 q0 q1 q2 q3)]) (rest := []) hown (w 53 _ rfl) (w 54 _ rfl) (w 55 _ rfl) (w 56 _ rfl) (by decide) (rm10 l Z a0 hw [] (1 : Int32) (1 : Int32) (0 : Int32) (0 : Int32) (1 : Int32) (-1 : Int32) q0 (o0 q0 q1 q2 q3) q1 (1 : Int64) q2 (o1 q0 q1 q2 q3) T175.heap n0 Z175 ) (by decide) (by decide) (cells' := 8) rfl (slots' := 33) rfl (by decide) (by decide) e180 (by rw [hml]; rfl) (lenOf pd_5 rfl) rfl rfl (hb hby at_382) (pc' := 385) rfl ?_
                        intro T181 v181 L181 X181 hQ181
                        obtain ⟨rfl, Nq181, e181⟩ := hQ181
                        have N181 := Fr.app N180 Nq181
                        show Go p e below _ (T181.setTop (mkF m 385 _ [.int (o3 (1 : Int32) (1 : Int32) (0 : Int32) (0 : Int32) (1 : Int32) (-1 : Int32) q0 (o0 q0 q1 q2 q3) q1 (1 : Int64) q2 (o1 q0 q1 q2 q3))]))
                        rw [← hOWE]
                        exact o_retZ X181 hx (own_narZ (o24 (1 : Int32) (1 : Int32) (0 : Int32) (0 : Int32) (1 : Int32) (-1 : Int32) q0 (o0 q0 q1 q2 q3) q1 (1 : Int64) q2 (o1 q0 q1 q2 q3))) hlk hrt (hb hby at_385) (by decide) (by decide) (by rw [e181]; exact ⟨(by rw [o7, o10, o9, o8, if_neg hs16, if_neg hs26, if_neg hs45, if_pos hm120_102, if_neg hm137_105, if_neg hc231_150, if_neg hs151, if_neg hs159]), N181⟩)
              · obtain ⟨rfl, Nq101, Kq101, P101_0, P101_1, P101_2, P101_3, P101_4, P101_5, P101_6, P101_7, P101_8⟩ := hQ101
                have N101 := Fr.app N99 Nq101
                have E182_b4 := Exa.keep E100_b4 Kq101
                have E182_b6 := Exa.keep E100_b6 Kq101
                have E182_b8 := Exa.keep E100_b8 Kq101
                have E182_b10 := Exa.keep E100_b10 Kq101
                have Z101 : n0 ≤ T101.heap.size := Nat.le_trans Z99 Kq101.1
                show Go p e below _ (T101.setTop (mkF m 123 _ []))
                refine o_iload X101 hx (hb hby at_123) (pc' := 125) rfl rfl ?_
                refine o_iconst X101 hx (2 : Int32) (hb hby at_125) (pc' := 126) rfl (by decide) ?_
                refine o_cmpN X101 hx (hb hby at_126) (tlt (by decide : (2 : Int32) < (3 : Int32))).2.2.2 (pc' := 129) rfl ?_
                refine o_aload X101 hx (hb hby at_129) (pc' := 131) rfl rfl rfl ?_
                refine o_aload X101 hx (hb hby at_131) (pc' := 133) rfl rfl rfl ?_
                refine o_lload X101 hx (hb hby at_133) (pc' := 135) rfl rfl ?_
                refine o_lload X101 hx (hb hby at_135) (pc' := 137) rfl rfl ?_
                refine o_callV X101 hx hZ 0 (argsL := [.ref b8, .long q2, .long (o1 q0 q1 q2 q3)]) (rest := []) (a := b12) hown (w 25 _ rfl) (w 26 _ rfl) (w 28 _ rfl) (w 27 _ rfl) (w 4 _ rfl) (w 29 _ rfl) (by decide) (rm4s19 l Z a0 hw [] _ _ _ _ _ _ _ _ _ _ _ _ _ _ _ _ _ _ _ _ _ _ _ q2 (o1 q0 q1 q2 q3) _ _ _ T101.heap n0 Z101 P101_0 P101_1 P101_2 P101_3 P101_4 P101_5 g_b12 E182_b6 E182_b4 E182_b8 P101_6 On14_0 gn14_0 P101_7 gn14_1 P101_8 gn14_2 ne_b12_bn14_0 (Ne.symm ne_b6_b12) (Ne.symm ne_b6_bn14_0) (Ne.symm ne_b4_b12) (Ne.symm ne_b4_bn14_0) (Ne.symm ne_b4_b6) ne_b12_bn14_1 nn14_0_1 ne_b6_bn14_1 ne_b4_bn14_1 ne_b12_bn14_2 nn14_0_2 ne_b6_bn14_2 ne_b4_bn14_2 nn14_1_2 (Ne.symm ne_b8_b12) (Ne.symm ne_b8_bn14_0) ne_b6_b8 ne_b4_b8 (Ne.symm ne_b8_bn14_1) (Ne.symm ne_b8_bn14_2)) P101_0 (by decide) (by decide) (cells' := 8) rfl (slots' := 33) rfl (by decide) (by decide) rfl (by rw [hml]; rfl) (lenOf pd_9 rfl) rfl rfl (hb hby at_137) (pc' := 140) rfl ?_
                intro T183 v183 L183 X183 hQ183
                rcases hQ183 with ⟨hm137_184, hQ183⟩ | ⟨hm137_184, hQ183⟩
                · obtain ⟨rfl, Nq183, Kq183, P183_0, P183_1, P183_2, P183_3, P183_4, P183_5, P183_6, P183_7, P183_8⟩ := hQ183
                  have N183 := Fr.app N101 Nq183
                  have E185_b4 := Exa.keep E182_b4 Kq183
                  have E185_b6 := Exa.keep E182_b6 Kq183
                  have E185_b8 := Exa.keep E182_b8 Kq183
                  have E185_b10 := Exa.keep E182_b10 Kq183
                  have Z183 : n0 ≤ T183.heap.size := Nat.le_trans Z101 Kq183.1
                  show Go p e below _ (T183.setTop (mkF m 140 _ []))
                  refine o_aload X183 hx (hb hby at_140) (pc' := 142) rfl rfl rfl ?_
                  refine o_aload X183 hx (hb hby at_142) (pc' := 144) rfl rfl rfl ?_
                  refine o_callV X183 hx hZ 0 (argsL := [.ref b4]) (rest := []) (a := b12) hown (w 48 _ rfl) (w 49 _ rfl) (w 51 _ rfl) (w 50 _ rfl) (w 4 _ rfl) (w 52 _ rfl) (by decide) (rm9s24 l Z a0 hw [] _ _ _ _ _ _ T183.heap n0 Z183 P183_0 P183_1 P183_5 E185_b6 E185_b4 E185_b8 P183_6 On14_0 ne_b12_bn14_0 (Ne.symm ne_b6_b12) (Ne.symm ne_b6_bn14_0) (Ne.symm ne_b4_b12) (Ne.symm ne_b4_bn14_0) (Ne.symm ne_b4_b6) (Ne.symm ne_b8_b12) (Ne.symm ne_b8_bn14_0) ne_b6_b8 ne_b4_b8) P183_0 (by decide) (by decide) (cells' := 8) rfl (slots' := 33) rfl (by decide) (by decide) rfl (by rw [hml]; rfl) (lenOf pd_4 rfl) rfl rfl (hb hby at_144) (pc' := 147) rfl ?_
                  intro T186 v186 L186 X186 hQ186
                  obtain ⟨rfl, Nq186, e186⟩ := hQ186
                  have N186 := Fr.app N183 Nq186
                  show Go p e below _ (T186.setTop (mkF m 147 _ [.int (1 : Int32)]))
                  refine o_istore X186 hx (hb hby at_147) (pc' := 149) rfl (L' := #[.val (.long q0), .second, .val (.long q1), .second, .val (.long q2), .second, .val (.int q3), .val (.int (3 : Int32)), .val (.int (o4 q0 q1 q2 q3)), .val (.int (o2 q0 q1 q2 q3)), .val (.long (o0 q0 q1 q2 q3)), .second, .val (.long (1 : Int64)), .second, .val (.long (o1 q0 q1 q2 q3)), .second, .val (.ref b4), .val (.ref b6), .val (.ref b8), .val (.ref b10), .val (.ref b12), .val (.int (1 : Int32)), .unset, .unset, .unset, .unset, .unset, .unset]) rfl ?_
                  refine o_aload X186 hx (hb hby at_149) (pc' := 151) rfl rfl rfl ?_
                  refine o_aload X186 hx (hb hby at_151) (pc' := 153) rfl rfl rfl ?_
                  refine o_callV X186 hx hZ 0 (argsL := [.ref b6]) (rest := []) (a := b12) hown (w 48 _ rfl) (w 49 _ rfl) (w 51 _ rfl) (w 50 _ rfl) (w 4 _ rfl) (w 52 _ rfl) (by decide) (rm9s23 l Z a0 hw [] _ _ _ _ _ _ T183.heap n0 Z183 P183_0 P183_1 P183_5 E185_b6 E185_b4 E185_b8 P183_6 On14_0 ne_b12_bn14_0 (Ne.symm ne_b6_b12) (Ne.symm ne_b6_bn14_0) (Ne.symm ne_b4_b12) (Ne.symm ne_b4_bn14_0) (Ne.symm ne_b4_b6) (Ne.symm ne_b8_b12) (Ne.symm ne_b8_bn14_0) ne_b6_b8 ne_b4_b8) P183_0 (by decide) (by decide) (cells' := 8) rfl (slots' := 33) rfl (by decide) (by decide) e186 (by rw [hml]; rfl) (lenOf pd_4 rfl) rfl rfl (hb hby at_153) (pc' := 156) rfl ?_
                  intro T187 v187 L187 X187 hQ187
                  obtain ⟨rfl, Nq187, e187⟩ := hQ187
                  have N187 := Fr.app N186 Nq187
                  show Go p e below _ (T187.setTop (mkF m 156 _ [.int (0 : Int32)]))
                  refine o_istore X187 hx (hb hby at_156) (pc' := 158) rfl (L' := #[.val (.long q0), .second, .val (.long q1), .second, .val (.long q2), .second, .val (.int q3), .val (.int (3 : Int32)), .val (.int (o4 q0 q1 q2 q3)), .val (.int (o2 q0 q1 q2 q3)), .val (.long (o0 q0 q1 q2 q3)), .second, .val (.long (1 : Int64)), .second, .val (.long (o1 q0 q1 q2 q3)), .second, .val (.ref b4), .val (.ref b6), .val (.ref b8), .val (.ref b10), .val (.ref b12), .val (.int (1 : Int32)), .val (.int (0 : Int32)), .unset, .unset, .unset, .unset, .unset]) rfl ?_
                  refine o_aload X187 hx (hb hby at_158) (pc' := 160) rfl rfl rfl ?_
                  refine o_aload X187 hx (hb hby at_160) (pc' := 162) rfl rfl rfl ?_
                  refine o_callV X187 hx hZ 0 (argsL := [.ref b8]) (rest := []) (a := b12) hown (w 48 _ rfl) (w 49 _ rfl) (w 51 _ rfl) (w 50 _ rfl) (w 4 _ rfl) (w 52 _ rfl) (by decide) (rm9s25 l Z a0 hw [] _ _ _ _ _ _ T183.heap n0 Z183 P183_0 P183_1 P183_5 E185_b6 E185_b4 E185_b8 P183_6 On14_0 ne_b12_bn14_0 (Ne.symm ne_b6_b12) (Ne.symm ne_b6_bn14_0) (Ne.symm ne_b4_b12) (Ne.symm ne_b4_bn14_0) (Ne.symm ne_b4_b6) (Ne.symm ne_b8_b12) (Ne.symm ne_b8_bn14_0) ne_b6_b8 ne_b4_b8) P183_0 (by decide) (by decide) (cells' := 8) rfl (slots' := 33) rfl (by decide) (by decide) e187 (by rw [hml]; rfl) (lenOf pd_4 rfl) rfl rfl (hb hby at_162) (pc' := 165) rfl ?_
                  intro T188 v188 L188 X188 hQ188
                  obtain ⟨rfl, Nq188, e188⟩ := hQ188
                  have N188 := Fr.app N187 Nq188
                  show Go p e below _ (T188.setTop (mkF m 165 _ [.int (2 : Int32)]))
                  refine o_istore X188 hx (hb hby at_165) (pc' := 167) rfl (L' := #[.val (.long q0), .second, .val (.long q1), .second, .val (.long q2), .second, .val (.int q3), .val (.int (3 : Int32)), .val (.int (o4 q0 q1 q2 q3)), .val (.int (o2 q0 q1 q2 q3)), .val (.long (o0 q0 q1 q2 q3)), .second, .val (.long (1 : Int64)), .second, .val (.long (o1 q0 q1 q2 q3)), .second, .val (.ref b4), .val (.ref b6), .val (.ref b8), .val (.ref b10), .val (.ref b12), .val (.int (1 : Int32)), .val (.int (0 : Int32)), .val (.int (2 : Int32)), .unset, .unset, .unset, .unset]) rfl ?_
                  refine o_aload X188 hx (hb hby at_167) (pc' := 169) rfl rfl rfl ?_
                  refine o_aload X188 hx (hb hby at_169) (pc' := 171) rfl rfl rfl ?_
                  refine o_callV X188 hx hZ 0 (argsL := [.ref b10]) (rest := []) (a := b12) hown (w 48 _ rfl) (w 49 _ rfl) (w 51 _ rfl) (w 50 _ rfl) (w 4 _ rfl) (w 52 _ rfl) (by decide) (rm9s26 l Z a0 hw [] _ _ _ _ _ _ _ T183.heap n0 Z183 P183_0 P183_1 P183_5 E185_b6 E185_b4 E185_b8 E185_b10 P183_6 On14_0 ne_b12_bn14_0 (Ne.symm ne_b6_b12) (Ne.symm ne_b6_bn14_0) (Ne.symm ne_b4_b12) (Ne.symm ne_b4_bn14_0) (Ne.symm ne_b4_b6) (Ne.symm ne_b8_b12) (Ne.symm ne_b8_bn14_0) ne_b6_b8 ne_b4_b8 (Ne.symm ne_b10_b12) (Ne.symm ne_b10_bn14_0) ne_b6_b10 ne_b4_b10 ne_b8_b10) P183_0 (by decide) (by decide) (cells' := 8) rfl (slots' := 33) rfl (by decide) (by decide) e188 (by rw [hml]; rfl) (lenOf pd_4 rfl) rfl rfl (hb hby at_171) (pc' := 174) rfl ?_
                  intro T189 v189 L189 X189 hQ189
                  obtain ⟨rfl, Nq189, e189⟩ := hQ189
                  have N189 := Fr.app N188 Nq189
                  show Go p e below _ (T189.setTop (mkF m 174 _ [.int (-1 : Int32)]))
                  refine o_iconst X189 hx (-1 : Int32) (hb hby at_174) (pc' := 175) rfl (by decide) ?_
                  refine o_cmpY X189 hx (hb hby at_175) (teq (by decide : (-1 : Int32) = (-1 : Int32))).1 (by decide) (pc' := 180) (by decide) ?_
                  refine o_iload X189 hx (hb hby at_180) (pc' := 182) rfl rfl ?_
                  refine o_ifN X189 hx (hb hby at_182) (tlt (by decide : (0 : Int32) < (3 : Int32))).2.2.2 (pc' := 185) rfl ?_
                  refine o_iconst X189 hx (1 : Int32) (hb hby at_185) (pc' := 186) rfl (by decide) ?_
                  refine o_goto X189 hx (hb hby at_186) (by decide) (pc' := 190) (by decide) ?_
                  refine o_iload X189 hx (hb hby at_190) (pc' := 192) rfl rfl ?_
                  refine o_iconst X189 hx (1 : Int32) (hb hby at_192) (pc' := 193) rfl (by decide) ?_
                  refine o_cmpN X189 hx (hb hby at_193) (tlt (by decide : (1 : Int32) < (3 : Int32))).2.2.2 (pc' := 196) rfl ?_
                  refine o_iconst X189 hx (1 : Int32) (hb hby at_196) (pc' := 197) rfl (by decide) ?_
                  refine o_goto X189 hx (hb hby at_197) (by decide) (pc' := 201) (by decide) ?_
                  refine o_iload X189 hx (hb hby at_201) (pc' := 203) rfl rfl ?_
                  refine o_iconst X189 hx (2 : Int32) (hb hby at_203) (pc' := 204) rfl (by decide) ?_
                  refine o_cmpN X189 hx (hb hby at_204) (tlt (by decide : (2 : Int32) < (3 : Int32))).2.2.2 (pc' := 207) rfl ?_
                  refine o_iconst X189 hx (1 : Int32) (hb hby at_207) (pc' := 208) rfl (by decide) ?_
                  refine o_goto X189 hx (hb hby at_208) (by decide) (pc' := 212) (by decide) ?_
                  refine o_iload X189 hx (hb hby at_212) (pc' := 214) rfl rfl ?_
                  refine o_iload X189 hx (hb hby at_214) (pc' := 216) rfl rfl ?_
                  refine o_iload X189 hx (hb hby at_216) (pc' := 218) rfl rfl ?_
                  refine o_lloadN X189 hx (hb hby at_218) (pc' := 219) rfl rfl ?_
                  refine o_lload X189 hx (hb hby at_219) (pc' := 221) rfl rfl ?_
                  refine o_lloadN X189 hx (hb hby at_221) (pc' := 222) rfl rfl ?_
                  refine o_lload X189 hx (hb hby at_222) (pc' := 224) rfl rfl ?_
                  refine o_lload X189 hx (hb hby at_224) (pc' := 226) rfl rfl ?_
                  refine o_lload X189 hx (hb hby at_226) (pc' := 228) rfl rfl ?_
                  refine o_callS X189 hx hZ 0 (argsL := [.int (1 : Int32), .int (1 : Int32), .int (1 : Int32), .int (1 : Int32), .int (0 : Int32), .int (2 : Int32), .long q0, .long (o0 q0 q1 q2 q3), .long q1, .long (1 : Int64), .long q2, .long (o1 q0 q1 q2 q3)]) (rest := []) hown (w 53 _ rfl) (w 54 _ rfl) (w 55 _ rfl) (w 56 _ rfl) (by decide) (rm10 l Z a0 hw [] (1 : Int32) (1 : Int32) (1 : Int32) (1 : Int32) (0 : Int32) (2 : Int32) q0 (o0 q0 q1 q2 q3) q1 (1 : Int64) q2 (o1 q0 q1 q2 q3) T183.heap n0 Z183 ) (by decide) (by decide) (cells' := 8) rfl (slots' := 33) rfl (by decide) (by decide) e189 (by rw [hml]; rfl) (lenOf pd_5 rfl) rfl rfl (hb hby at_228) (pc' := 231) rfl ?_
                  intro T190 v190 L190 X190 hQ190
                  obtain ⟨rfl, Nq190, e190⟩ := hQ190
                  have N190 := Fr.app N189 Nq190
                  show Go p e below _ (T190.setTop (mkF m 231 _ [.int (o3 (1 : Int32) (1 : Int32) (1 : Int32) (1 : Int32) (0 : Int32) (2 : Int32) q0 (o0 q0 q1 q2 q3) q1 (1 : Int64) q2 (o1 q0 q1 q2 q3))]))
                  by_cases hc231_191 : (o3 (1 : Int32) (1 : Int32) (1 : Int32) (1 : Int32) (0 : Int32) (2 : Int32) q0 (o0 q0 q1 q2 q3) q1 (1 : Int64) q2 (o1 q0 q1 q2 q3)) = (0 : Int32)
                  · refine o_ifN X190 hx (hb hby at_231) (teq hc231_191).2 (pc' := 234) rfl ?_
                    refine o_iconst X190 hx (0 : Int32) (hb hby at_234) (pc' := 235) rfl (by decide) ?_
                    rw [← hOWE]
                    exact o_retZ X190 hx rfl hlk hrt (hb hby at_235) (by decide) (by decide) (by rw [e190]; exact ⟨(by rw [o7, o10, o9, o8, if_neg hs16, if_neg hs26, if_neg hs45, if_neg hm120_102, if_pos hm137_184, if_pos hc231_191]), N190⟩)
                  · refine o_ifY X190 hx (hb hby at_231) (feq hc231_191).2 (by decide) (pc' := 236) (by decide) ?_
                    by_cases hs192 : (o4 q0 q1 q2 q3) = (0 : Int32)
                    · rw [hs192]
                      refine o_iload X190 hx (hb hby at_236) (pc' := 238) rfl rfl ?_
                      refine o_iload X190 hx (hb hby at_238) (pc' := 240) rfl rfl ?_
                      refine o_cmpY X190 hx (hb hby at_240) (tlt (by decide : (0 : Int32) < (3 : Int32))).1 (by decide) (pc' := 245) (by decide) ?_
                      refine o_iload X190 hx (hb hby at_245) (pc' := 247) rfl rfl ?_
                      refine o_ifN X190 hx (hb hby at_247) (teq (by decide : (0 : Int32) = (0 : Int32))).2 (pc' := 250) rfl ?_
                      refine o_iload X190 hx (hb hby at_250) (pc' := 252) rfl rfl ?_
                      refine o_goto X190 hx (hb hby at_252) (by decide) (pc' := 268) (by decide) ?_
                      refine o_istore X190 hx (hb hby at_268) (pc' := 270) rfl (L' := #[.val (.long q0), .second, .val (.long q1), .second, .val (.long q2), .second, .val (.int q3), .val (.int (3 : Int32)), .val (.int (0 : Int32)), .val (.int (o2 q0 q1 q2 q3)), .val (.long (o0 q0 q1 q2 q3)), .second, .val (.long (1 : Int64)), .second, .val (.long (o1 q0 q1 q2 q3)), .second, .val (.ref b4), .val (.ref b6), .val (.ref b8), .val (.ref b10), .val (.ref b12), .val (.int (1 : Int32)), .val (.int (0 : Int32)), .val (.int (2 : Int32)), .val (.int (1 : Int32)), .unset, .unset, .unset]) rfl ?_
                      refine o_aload X190 hx (hb hby at_270) (pc' := 272) rfl rfl rfl ?_
                      refine o_iload X190 hx (hb hby at_272) (pc' := 274) rfl rfl ?_
                      refine o_callV X190 hx hZ 0 (argsL := [.int (1 : Int32)]) (rest := []) (a := b12) hown (w 63 _ rfl) (w 64 _ rfl) (w 66 _ rfl) (w 65 _ rfl) (w 4 _ rfl) (w 67 _ rfl) (by decide) (rm13s30 l Z a0 hw [] _ _ _ _ _ _ _ _ _ _ _ _ _ _ _ _ _ _ _ _ _ _ _ _ _ _ T183.heap n0 Z183 P183_0 P183_1 P183_2 P183_3 P183_4 P183_5 g_b12 E185_b6 E185_b4 E185_b8 P183_6 On14_0 gn14_0 P183_7 gn14_1 P183_8 gn14_2 ne_b12_bn14_0 (Ne.symm ne_b6_b12) (Ne.symm ne_b6_bn14_0) (Ne.symm ne_b4_b12) (Ne.symm ne_b4_bn14_0) (Ne.symm ne_b4_b6) (Ne.symm ne_b8_b12) (Ne.symm ne_b8_bn14_0) ne_b6_b8 ne_b4_b8 ne_b12_bn14_1 nn14_0_1 ne_b6_bn14_1 ne_b4_bn14_1 ne_b8_bn14_1 ne_b12_bn14_2 nn14_0_2 ne_b6_bn14_2 ne_b4_bn14_2 ne_b8_bn14_2 nn14_1_2) P183_0 (by decide) (by decide) (cells' := 8) rfl (slots' := 33) rfl (by decide) (by decide) e190 (by rw [hml]; rfl) (lenOf pd_10 rfl) rfl rfl (hb hby at_274) (pc' := 277) rfl ?_
                      intro T193 v193 L193 X193 hQ193
                      obtain ⟨-, hQ193⟩ := hQ193.resolve_right (fun q => q.1 hm137_184)
                      obtain ⟨rfl, Nq193, Kq193, P193_0, P193_1, P193_2, P193_3, P193_4, P193_5, P193_6, P193_7, P193_8⟩ := hQ193
                      have N193 := Fr.app N190 Nq193
                      have E194_b4 := Exa.keep E185_b4 Kq193
                      have E194_b6 := Exa.keep E185_b6 Kq193
                      have E194_b8 := Exa.keep E185_b8 Kq193
                      have E194_b10 := Exa.keep E185_b10 Kq193
                      have Z193 : n0 ≤ T193.heap.size := Nat.le_trans Z183 Kq193.1
                      show Go p e below _ (T193.setTop (mkF m 277 _ []))
                      refine o_aload X193 hx (hb hby at_277) (pc' := 279) rfl rfl rfl ?_
                      refine o_aload X193 hx (hb hby at_279) (pc' := 281) rfl rfl rfl ?_
                      refine o_callV X193 hx hZ 0 (argsL := [.ref b4]) (rest := []) (a := b12) hown (w 48 _ rfl) (w 49 _ rfl) (w 51 _ rfl) (w 50 _ rfl) (w 4 _ rfl) (w 52 _ rfl) (by decide) (rm9s14 l Z a0 hw [] _ _ _ _ _ _ T193.heap n0 Z193 P193_0 P193_1 P193_5 E194_b6 E194_b8 E194_b4 P193_6 On14_0 ne_b12_bn14_0 (Ne.symm ne_b6_b12) (Ne.symm ne_b6_bn14_0) (Ne.symm ne_b8_b12) (Ne.symm ne_b8_bn14_0) ne_b6_b8 (Ne.symm ne_b4_b12) (Ne.symm ne_b4_bn14_0) (Ne.symm ne_b4_b6) (Ne.symm ne_b4_b8)) P193_0 (by decide) (by decide) (cells' := 8) rfl (slots' := 33) rfl (by decide) (by decide) rfl (by rw [hml]; rfl) (lenOf pd_4 rfl) rfl rfl (hb hby at_281) (pc' := 284) rfl ?_
                      intro T195 v195 L195 X195 hQ195
                      obtain ⟨rfl, Nq195, e195⟩ := hQ195
                      have N195 := Fr.app N193 Nq195
                      show Go p e below _ (T195.setTop (mkF m 284 _ [.int (-1 : Int32)]))
                      refine o_istore X195 hx (hb hby at_284) (pc' := 286) rfl (L' := #[.val (.long q0), .second, .val (.long q1), .second, .val (.long q2), .second, .val (.int q3), .val (.int (3 : Int32)), .val (.int (0 : Int32)), .val (.int (o2 q0 q1 q2 q3)), .val (.long (o0 q0 q1 q2 q3)), .second, .val (.long (1 : Int64)), .second, .val (.long (o1 q0 q1 q2 q3)), .second, .val (.ref b4), .val (.ref b6), .val (.ref b8), .val (.ref b10), .val (.ref b12), .val (.int (1 : Int32)), .val (.int (0 : Int32)), .val (.int (2 : Int32)), .val (.int (1 : Int32)), .val (.int (-1 : Int32)), .unset, .unset]) rfl ?_
                      refine o_aload X195 hx (hb hby at_286) (pc' := 288) rfl rfl rfl ?_
                      refine o_aload X195 hx (hb hby at_288) (pc' := 290) rfl rfl rfl ?_
                      refine o_callV X195 hx hZ 0 (argsL := [.ref b6]) (rest := []) (a := b12) hown (w 48 _ rfl) (w 49 _ rfl) (w 51 _ rfl) (w 50 _ rfl) (w 4 _ rfl) (w 52 _ rfl) (by decide) (rm9s12 l Z a0 hw [] _ _ _ _ _ T193.heap n0 Z193 P193_0 P193_1 P193_5 E194_b6 E194_b8 P193_6 On14_0 ne_b12_bn14_0 (Ne.symm ne_b6_b12) (Ne.symm ne_b6_bn14_0) (Ne.symm ne_b8_b12) (Ne.symm ne_b8_bn14_0) ne_b6_b8) P193_0 (by decide) (by decide) (cells' := 8) rfl (slots' := 33) rfl (by decide) (by decide) e195 (by rw [hml]; rfl) (lenOf pd_4 rfl) rfl rfl (hb hby at_290) (pc' := 293) rfl ?_
                      intro T196 v196 L196 X196 hQ196
                      obtain ⟨rfl, Nq196, e196⟩ := hQ196
                      have N196 := Fr.app N195 Nq196
                      show Go p e below _ (T196.setTop (mkF m 293 _ [.int (0 : Int32)]))
                      refine o_istore X196 hx (hb hby at_293) (pc' := 295) rfl (L' := #[.val (.long q0), .second, .val (.long q1), .second, .val (.long q2), .second, .val (.int q3), .val (.int (3 : Int32)), .val (.int (0 : Int32)), .val (.int (o2 q0 q1 q2 q3)), .val (.long (o0 q0 q1 q2 q3)), .second, .val (.long (1 : Int64)), .second, .val (.long (o1 q0 q1 q2 q3)), .second, .val (.ref b4), .val (.ref b6), .val (.ref b8), .val (.ref b10), .val (.ref b12), .val (.int (1 : Int32)), .val (.int (0 : Int32)), .val (.int (2 : Int32)), .val (.int (1 : Int32)), .val (.int (-1 : Int32)), .val (.int (0 : Int32)), .unset]) rfl ?_
                      refine o_aload X196 hx (hb hby at_295) (pc' := 297) rfl rfl rfl ?_
                      refine o_aload X196 hx (hb hby at_297) (pc' := 299) rfl rfl rfl ?_
                      refine o_callV X196 hx hZ 0 (argsL := [.ref b8]) (rest := []) (a := b12) hown (w 48 _ rfl) (w 49 _ rfl) (w 51 _ rfl) (w 50 _ rfl) (w 4 _ rfl) (w 52 _ rfl) (by decide) (rm9s13 l Z a0 hw [] _ _ _ _ _ T193.heap n0 Z193 P193_0 P193_1 P193_5 E194_b6 E194_b8 P193_6 On14_0 ne_b12_bn14_0 (Ne.symm ne_b6_b12) (Ne.symm ne_b6_bn14_0) (Ne.symm ne_b8_b12) (Ne.symm ne_b8_bn14_0) ne_b6_b8) P193_0 (by decide) (by decide) (cells' := 8) rfl (slots' := 33) rfl (by decide) (by decide) e196 (by rw [hml]; rfl) (lenOf pd_4 rfl) rfl rfl (hb hby at_299) (pc' := 302) rfl ?_
                      intro T197 v197 L197 X197 hQ197
                      obtain ⟨rfl, Nq197, e197⟩ := hQ197
                      have N197 := Fr.app N196 Nq197
                      show Go p e below _ (T197.setTop (mkF m 302 _ [.int (1 : Int32)]))
                      refine o_istore X197 hx (hb hby at_302) (pc' := 304) rfl (L' := #[.val (.long q0), .second, .val (.long q1), .second, .val (.long q2), .second, .val (.int q3), .val (.int (3 : Int32)), .val (.int (0 : Int32)), .val (.int (o2 q0 q1 q2 q3)), .val (.long (o0 q0 q1 q2 q3)), .second, .val (.long (1 : Int64)), .second, .val (.long (o1 q0 q1 q2 q3)), .second, .val (.ref b4), .val (.ref b6), .val (.ref b8), .val (.ref b10), .val (.ref b12), .val (.int (1 : Int32)), .val (.int (0 : Int32)), .val (.int (2 : Int32)), .val (.int (1 : Int32)), .val (.int (-1 : Int32)), .val (.int (0 : Int32)), .val (.int (1 : Int32))]) rfl ?_
                      refine o_aload X197 hx (hb hby at_304) (pc' := 306) rfl rfl rfl ?_
                      refine o_aload X197 hx (hb hby at_306) (pc' := 308) rfl rfl rfl ?_
                      refine o_callV X197 hx hZ 0 (argsL := [.ref b10]) (rest := []) (a := b12) hown (w 48 _ rfl) (w 49 _ rfl) (w 51 _ rfl) (w 50 _ rfl) (w 4 _ rfl) (w 52 _ rfl) (by decide) (rm9s14 l Z a0 hw [] _ _ _ _ _ _ T193.heap n0 Z193 P193_0 P193_1 P193_5 E194_b6 E194_b8 E194_b10 P193_6 On14_0 ne_b12_bn14_0 (Ne.symm ne_b6_b12) (Ne.symm ne_b6_bn14_0) (Ne.symm ne_b8_b12) (Ne.symm ne_b8_bn14_0) ne_b6_b8 (Ne.symm ne_b10_b12) (Ne.symm ne_b10_bn14_0) ne_b6_b10 ne_b8_b10) P193_0 (by decide) (by decide) (cells' := 8) rfl (slots' := 33) rfl (by decide) (by decide) e197 (by rw [hml]; rfl) (lenOf pd_4 rfl) rfl rfl (hb hby at_308) (pc' := 311) rfl ?_
                      intro T198 v198 L198 X198 hQ198
                      obtain ⟨rfl, Nq198, e198⟩ := hQ198
                      have N198 := Fr.app N197 Nq198
                      show Go p e below _ (T198.setTop (mkF m 311 _ [.int (-1 : Int32)]))
                      refine o_iconst X198 hx (-1 : Int32) (hb hby at_311) (pc' := 312) rfl (by decide) ?_
                      refine o_cmpY X198 hx (hb hby at_312) (teq (by decide : (-1 : Int32) = (-1 : Int32))).1 (by decide) (pc' := 317) (by decide) ?_
                      refine o_iload X198 hx (hb hby at_317) (pc' := 319) rfl rfl ?_
                      refine o_ifN X198 hx (hb hby at_319) (tlt (by decide : (0 : Int32) < (3 : Int32))).2.2.2 (pc' := 322) rfl ?_
                      refine o_iload X198 hx (hb hby at_322) (pc' := 324) rfl rfl ?_
                      refine o_ifY X198 hx (hb hby at_324) (teq (by decide : (0 : Int32) = (0 : Int32))).1 (by decide) (pc' := 331) (by decide) ?_
                      refine o_iconst X198 hx (0 : Int32) (hb hby at_331) (pc' := 332) rfl (by decide) ?_
                      refine o_iload X198 hx (hb hby at_332) (pc' := 334) rfl rfl ?_
                      refine o_iconst X198 hx (1 : Int32) (hb hby at_334) (pc' := 335) rfl (by decide) ?_
                      refine o_cmpN X198 hx (hb hby at_335) (tlt (by decide : (1 : Int32) < (3 : Int32))).2.2.2 (pc' := 338) rfl ?_
                      refine o_iload X198 hx (hb hby at_338) (pc' := 340) rfl rfl ?_
                      refine o_iconst X198 hx (1 : Int32) (hb hby at_340) (pc' := 341) rfl (by decide) ?_
                      refine o_cmpN X198 hx (hb hby at_341) (feq (by decide : ¬ ((0 : Int32) = (1 : Int32)))).1 (pc' := 344) rfl ?_
                      refine o_iconst X198 hx (1 : Int32) (hb hby at_344) (pc' := 345) rfl (by decide) ?_
                      refine o_goto X198 hx (hb hby at_345) (by decide) (pc' := 349) (by decide) ?_
                      refine o_iload X198 hx (hb hby at_349) (pc' := 351) rfl rfl ?_
                      refine o_iconst X198 hx (2 : Int32) (hb hby at_351) (pc' := 352) rfl (by decide) ?_
                      refine o_cmpN X198 hx (hb hby at_352) (tlt (by decide : (2 : Int32) < (3 : Int32))).2.2.2 (pc' := 355) rfl ?_
                      refine o_iload X198 hx (hb hby at_355) (pc' := 357) rfl rfl ?_
                      refine o_iconst X198 hx (2 : Int32) (hb hby at_357) (pc' := 358) rfl (by decide) ?_
                      refine o_cmpN X198 hx (hb hby at_358) (feq (by decide : ¬ ((0 : Int32) = (2 : Int32)))).1 (pc' := 361) rfl ?_
                      refine o_iconst X198 hx (1 : Int32) (hb hby at_361) (pc' := 362) rfl (by decide) ?_
                      refine o_goto X198 hx (hb hby at_362) (by decide) (pc' := 366) (by decide) ?_
                      refine o_iload X198 hx (hb hby at_366) (pc' := 368) rfl rfl ?_
                      refine o_iload X198 hx (hb hby at_368) (pc' := 370) rfl rfl ?_
                      refine o_iload X198 hx (hb hby at_370) (pc' := 372) rfl rfl ?_
                      refine o_lloadN X198 hx (hb hby at_372) (pc' := 373) rfl rfl ?_
                      refine o_lload X198 hx (hb hby at_373) (pc' := 375) rfl rfl ?_
                      refine o_lloadN X198 hx (hb hby at_375) (pc' := 376) rfl rfl ?_
                      refine o_lload X198 hx (hb hby at_376) (pc' := 378) rfl rfl ?_
                      refine o_lload X198 hx (hb hby at_378) (pc' := 380) rfl rfl ?_
                      refine o_lload X198 hx (hb hby at_380) (pc' := 382) rfl rfl ?_
                      refine o_callS X198 hx hZ 0 (argsL := [.int (0 : Int32), .int (1 : Int32), .int (1 : Int32), .int (-1 : Int32), .int (0 : Int32), .int (1 : Int32), .long q0, .long (o0 q0 q1 q2 q3), .long q1, .long (1 : Int64), .long q2, .long (o1 q0 q1 q2 q3)]) (rest := []) hown (w 53 _ rfl) (w 54 _ rfl) (w 55 _ rfl) (w 56 _ rfl) (by decide) (rm10 l Z a0 hw [] (0 : Int32) (1 : Int32) (1 : Int32) (-1 : Int32) (0 : Int32) (1 : Int32) q0 (o0 q0 q1 q2 q3) q1 (1 : Int64) q2 (o1 q0 q1 q2 q3) T193.heap n0 Z193 ) (by decide) (by decide) (cells' := 8) rfl (slots' := 33) rfl (by decide) (by decide) e198 (by rw [hml]; rfl) (lenOf pd_5 rfl) rfl rfl (hb hby at_382) (pc' := 385) rfl ?_
                      intro T199 v199 L199 X199 hQ199
                      obtain ⟨rfl, Nq199, e199⟩ := hQ199
                      have N199 := Fr.app N198 Nq199
                      show Go p e below _ (T199.setTop (mkF m 385 _ [.int (o3 (0 : Int32) (1 : Int32) (1 : Int32) (-1 : Int32) (0 : Int32) (1 : Int32) q0 (o0 q0 q1 q2 q3) q1 (1 : Int64) q2 (o1 q0 q1 q2 q3))]))
                      rw [← hOWE]
                      exact o_retZ X199 hx (own_narZ (o24 (0 : Int32) (1 : Int32) (1 : Int32) (-1 : Int32) (0 : Int32) (1 : Int32) q0 (o0 q0 q1 q2 q3) q1 (1 : Int64) q2 (o1 q0 q1 q2 q3))) hlk hrt (hb hby at_385) (by decide) (by decide) (by rw [e199]; exact ⟨(by rw [o7, o10, o9, o8, if_neg hs16, if_neg hs26, if_neg hs45, if_neg hm120_102, if_pos hm137_184, if_neg hc231_191, if_pos hs192]), N199⟩)
                    · by_cases hs200 : (o4 q0 q1 q2 q3) = (1 : Int32)
                      · rw [hs200]
                        refine o_iload X190 hx (hb hby at_236) (pc' := 238) rfl rfl ?_
                        refine o_iload X190 hx (hb hby at_238) (pc' := 240) rfl rfl ?_
                        refine o_cmpY X190 hx (hb hby at_240) (tlt (by decide : (1 : Int32) < (3 : Int32))).1 (by decide) (pc' := 245) (by decide) ?_
                        refine o_iload X190 hx (hb hby at_245) (pc' := 247) rfl rfl ?_
                        refine o_ifY X190 hx (hb hby at_247) (feq (by decide : ¬ ((1 : Int32) = (0 : Int32)))).2 (by decide) (pc' := 255) (by decide) ?_
                        refine o_iload X190 hx (hb hby at_255) (pc' := 257) rfl rfl ?_
                        refine o_iconst X190 hx (1 : Int32) (hb hby at_257) (pc' := 258) rfl (by decide) ?_
                        refine o_cmpN X190 hx (hb hby at_258) (teq (by decide : (1 : Int32) = (1 : Int32))).2 (pc' := 261) rfl ?_
                        refine o_iload X190 hx (hb hby at_261) (pc' := 263) rfl rfl ?_
                        refine o_goto X190 hx (hb hby at_263) (by decide) (pc' := 268) (by decide) ?_
                        refine o_istore X190 hx (hb hby at_268) (pc' := 270) rfl (L' := #[.val (.long q0), .second, .val (.long q1), .second, .val (.long q2), .second, .val (.int q3), .val (.int (3 : Int32)), .val (.int (1 : Int32)), .val (.int (o2 q0 q1 q2 q3)), .val (.long (o0 q0 q1 q2 q3)), .second, .val (.long (1 : Int64)), .second, .val (.long (o1 q0 q1 q2 q3)), .second, .val (.ref b4), .val (.ref b6), .val (.ref b8), .val (.ref b10), .val (.ref b12), .val (.int (1 : Int32)), .val (.int (0 : Int32)), .val (.int (2 : Int32)), .val (.int (0 : Int32)), .unset, .unset, .unset]) rfl ?_
                        refine o_aload X190 hx (hb hby at_270) (pc' := 272) rfl rfl rfl ?_
                        refine o_iload X190 hx (hb hby at_272) (pc' := 274) rfl rfl ?_
                        refine o_callV X190 hx hZ 0 (argsL := [.int (0 : Int32)]) (rest := []) (a := b12) hown (w 63 _ rfl) (w 64 _ rfl) (w 66 _ rfl) (w 65 _ rfl) (w 4 _ rfl) (w 67 _ rfl) (by decide) (rm13s27 l Z a0 hw [] _ _ _ _ _ _ _ _ _ _ _ _ _ _ _ _ _ _ _ _ _ _ _ _ _ _ T183.heap n0 Z183 P183_0 P183_1 P183_2 P183_3 P183_4 P183_5 g_b12 E185_b6 E185_b4 E185_b8 P183_6 On14_0 gn14_0 P183_7 gn14_1 P183_8 gn14_2 ne_b12_bn14_0 (Ne.symm ne_b6_b12) (Ne.symm ne_b6_bn14_0) (Ne.symm ne_b4_b12) (Ne.symm ne_b4_bn14_0) (Ne.symm ne_b4_b6) (Ne.symm ne_b8_b12) (Ne.symm ne_b8_bn14_0) ne_b6_b8 ne_b4_b8 ne_b12_bn14_1 nn14_0_1 ne_b6_bn14_1 ne_b4_bn14_1 ne_b8_bn14_1 ne_b12_bn14_2 nn14_0_2 ne_b6_bn14_2 ne_b4_bn14_2 ne_b8_bn14_2 nn14_1_2) P183_0 (by decide) (by decide) (cells' := 8) rfl (slots' := 33) rfl (by decide) (by decide) e190 (by rw [hml]; rfl) (lenOf pd_10 rfl) rfl rfl (hb hby at_274) (pc' := 277) rfl ?_
                        intro T201 v201 L201 X201 hQ201
                        rcases hQ201 with ⟨hm274_202, hQ201⟩ | ⟨hm274_202, hQ201⟩
                        · obtain ⟨rfl, Nq201, Kq201, P201_0, P201_1, P201_2, P201_3, P201_4, P201_5, P201_6, P201_7, P201_8⟩ := hQ201
                          have N201 := Fr.app N190 Nq201
                          have E203_b4 := Exa.keep E185_b4 Kq201
                          have E203_b6 := Exa.keep E185_b6 Kq201
                          have E203_b8 := Exa.keep E185_b8 Kq201
                          have E203_b10 := Exa.keep E185_b10 Kq201
                          have Z201 : n0 ≤ T201.heap.size := Nat.le_trans Z183 Kq201.1
                          show Go p e below _ (T201.setTop (mkF m 277 _ []))
                          refine o_aload X201 hx (hb hby at_277) (pc' := 279) rfl rfl rfl ?_
                          refine o_aload X201 hx (hb hby at_279) (pc' := 281) rfl rfl rfl ?_
                          refine o_callV X201 hx hZ 0 (argsL := [.ref b4]) (rest := []) (a := b12) hown (w 48 _ rfl) (w 49 _ rfl) (w 51 _ rfl) (w 50 _ rfl) (w 4 _ rfl) (w 52 _ rfl) (by decide) (rm9s13 l Z a0 hw [] _ _ _ _ _ T201.heap n0 Z201 P201_0 P201_1 P201_5 E203_b8 E203_b4 P201_6 On14_0 ne_b12_bn14_0 (Ne.symm ne_b8_b12) (Ne.symm ne_b8_bn14_0) (Ne.symm ne_b4_b12) (Ne.symm ne_b4_bn14_0) (Ne.symm ne_b4_b8)) P201_0 (by decide) (by decide) (cells' := 8) rfl (slots' := 33) rfl (by decide) (by decide) rfl (by rw [hml]; rfl) (lenOf pd_4 rfl) rfl rfl (hb hby at_281) (pc' := 284) rfl ?_
                          intro T204 v204 L204 X204 hQ204
                          obtain ⟨rfl, Nq204, e204⟩ := hQ204
                          have N204 := Fr.app N201 Nq204
                          show Go p e below _ (T204.setTop (mkF m 284 _ [.int (1 : Int32)]))
                          refine o_istore X204 hx (hb hby at_284) (pc' := 286) rfl (L' := #[.val (.long q0), .second, .val (.long q1), .second, .val (.long q2), .second, .val (.int q3), .val (.int (3 : Int32)), .val (.int (1 : Int32)), .val (.int (o2 q0 q1 q2 q3)), .val (.long (o0 q0 q1 q2 q3)), .second, .val (.long (1 : Int64)), .second, .val (.long (o1 q0 q1 q2 q3)), .second, .val (.ref b4), .val (.ref b6), .val (.ref b8), .val (.ref b10), .val (.ref b12), .val (.int (1 : Int32)), .val (.int (0 : Int32)), .val (.int (2 : Int32)), .val (.int (0 : Int32)), .val (.int (1 : Int32)), .unset, .unset]) rfl ?_
                          refine o_aload X204 hx (hb hby at_286) (pc' := 288) rfl rfl rfl ?_
                          refine o_aload X204 hx (hb hby at_288) (pc' := 290) rfl rfl rfl ?_
                          refine o_callV X204 hx hZ 0 (argsL := [.ref b6]) (rest := []) (a := b12) hown (w 48 _ rfl) (w 49 _ rfl) (w 51 _ rfl) (w 50 _ rfl) (w 4 _ rfl) (w 52 _ rfl) (by decide) (rm9s14 l Z a0 hw [] _ _ _ _ _ _ T201.heap n0 Z201 P201_0 P201_1 P201_5 E203_b8 E203_b4 E203_b6 P201_6 On14_0 ne_b12_bn14_0 (Ne.symm ne_b8_b12) (Ne.symm ne_b8_bn14_0) (Ne.symm ne_b4_b12) (Ne.symm ne_b4_bn14_0) (Ne.symm ne_b4_b8) (Ne.symm ne_b6_b12) (Ne.symm ne_b6_bn14_0) (Ne.symm ne_b6_b8) ne_b4_b6) P201_0 (by decide) (by decide) (cells' := 8) rfl (slots' := 33) rfl (by decide) (by decide) e204 (by rw [hml]; rfl) (lenOf pd_4 rfl) rfl rfl (hb hby at_290) (pc' := 293) rfl ?_
                          intro T205 v205 L205 X205 hQ205
                          obtain ⟨rfl, Nq205, e205⟩ := hQ205
                          have N205 := Fr.app N204 Nq205
                          show Go p e below _ (T205.setTop (mkF m 293 _ [.int (-1 : Int32)]))
                          refine o_istore X205 hx (hb hby at_293) (pc' := 295) rfl (L' := #[.val (.long q0), .second, .val (.long q1), .second, .val (.long q2), .second, .val (.int q3), .val (.int (3 : Int32)), .val (.int (1 : Int32)), .val (.int (o2 q0 q1 q2 q3)), .val (.long (o0 q0 q1 q2 q3)), .second, .val (.long (1 : Int64)), .second, .val (.long (o1 q0 q1 q2 q3)), .second, .val (.ref b4), .val (.ref b6), .val (.ref b8), .val (.ref b10), .val (.ref b12), .val (.int (1 : Int32)), .val (.int (0 : Int32)), .val (.int (2 : Int32)), .val (.int (0 : Int32)), .val (.int (1 : Int32)), .val (.int (-1 : Int32)), .unset]) rfl ?_
                          refine o_aload X205 hx (hb hby at_295) (pc' := 297) rfl rfl rfl ?_
                          refine o_aload X205 hx (hb hby at_297) (pc' := 299) rfl rfl rfl ?_
                          refine o_callV X205 hx hZ 0 (argsL := [.ref b8]) (rest := []) (a := b12) hown (w 48 _ rfl) (w 49 _ rfl) (w 51 _ rfl) (w 50 _ rfl) (w 4 _ rfl) (w 52 _ rfl) (by decide) (rm9s12 l Z a0 hw [] _ _ _ _ _ T201.heap n0 Z201 P201_0 P201_1 P201_5 E203_b8 E203_b4 P201_6 On14_0 ne_b12_bn14_0 (Ne.symm ne_b8_b12) (Ne.symm ne_b8_bn14_0) (Ne.symm ne_b4_b12) (Ne.symm ne_b4_bn14_0) (Ne.symm ne_b4_b8)) P201_0 (by decide) (by decide) (cells' := 8) rfl (slots' := 33) rfl (by decide) (by decide) e205 (by rw [hml]; rfl) (lenOf pd_4 rfl) rfl rfl (hb hby at_299) (pc' := 302) rfl ?_
                          intro T206 v206 L206 X206 hQ206
                          obtain ⟨rfl, Nq206, e206⟩ := hQ206
                          have N206 := Fr.app N205 Nq206
                          show Go p e below _ (T206.setTop (mkF m 302 _ [.int (0 : Int32)]))
                          refine o_istore X206 hx (hb hby at_302) (pc' := 304) rfl (L' := #[.val (.long q0), .second, .val (.long q1), .second, .val (.long q2), .second, .val (.int q3), .val (.int (3 : Int32)), .val (.int (1 : Int32)), .val (.int (o2 q0 q1 q2 q3)), .val (.long (o0 q0 q1 q2 q3)), .second, .val (.long (1 : Int64)), .second, .val (.long (o1 q0 q1 q2 q3)), .second, .val (.ref b4), .val (.ref b6), .val (.ref b8), .val (.ref b10), .val (.ref b12), .val (.int (1 : Int32)), .val (.int (0 : Int32)), .val (.int (2 : Int32)), .val (.int (0 : Int32)), .val (.int (1 : Int32)), .val (.int (-1 : Int32)), .val (.int (0 : Int32))]) rfl ?_
                          refine o_aload X206 hx (hb hby at_304) (pc' := 306) rfl rfl rfl ?_
                          refine o_aload X206 hx (hb hby at_306) (pc' := 308) rfl rfl rfl ?_
                          refine o_callV X206 hx hZ 0 (argsL := [.ref b10]) (rest := []) (a := b12) hown (w 48 _ rfl) (w 49 _ rfl) (w 51 _ rfl) (w 50 _ rfl) (w 4 _ rfl) (w 52 _ rfl) (by decide) (rm9s14 l Z a0 hw [] _ _ _ _ _ _ T201.heap n0 Z201 P201_0 P201_1 P201_5 E203_b8 E203_b4 E203_b10 P201_6 On14_0 ne_b12_bn14_0 (Ne.symm ne_b8_b12) (Ne.symm ne_b8_bn14_0) (Ne.symm ne_b4_b12) (Ne.symm ne_b4_bn14_0) (Ne.symm ne_b4_b8) (Ne.symm ne_b10_b12) (Ne.symm ne_b10_bn14_0) ne_b8_b10 ne_b4_b10) P201_0 (by decide) (by decide) (cells' := 8) rfl (slots' := 33) rfl (by decide) (by decide) e206 (by rw [hml]; rfl) (lenOf pd_4 rfl) rfl rfl (hb hby at_308) (pc' := 311) rfl ?_
                          intro T207 v207 L207 X207 hQ207
                          obtain ⟨rfl, Nq207, e207⟩ := hQ207
                          have N207 := Fr.app N206 Nq207
                          show Go p e below _ (T207.setTop (mkF m 311 _ [.int (-1 : Int32)]))
                          refine o_iconst X207 hx (-1 : Int32) (hb hby at_311) (pc' := 312) rfl (by decide) ?_
                          refine o_cmpY X207 hx (hb hby at_312) (teq (by decide : (-1 : Int32) = (-1 : Int32))).1 (by decide) (pc' := 317) (by decide) ?_
                          refine o_iload X207 hx (hb hby at_317) (pc' := 319) rfl rfl ?_
                          refine o_ifN X207 hx (hb hby at_319) (tlt (by decide : (0 : Int32) < (3 : Int32))).2.2.2 (pc' := 322) rfl ?_
                          refine o_iload X207 hx (hb hby at_322) (pc' := 324) rfl rfl ?_
                          refine o_ifN X207 hx (hb hby at_324) (feq (by decide : ¬ ((1 : Int32) = (0 : Int32)))).1 (pc' := 327) rfl ?_
                          refine o_iconst X207 hx (1 : Int32) (hb hby at_327) (pc' := 328) rfl (by decide) ?_
                          refine o_goto X207 hx (hb hby at_328) (by decide) (pc' := 332) (by decide) ?_
                          refine o_iload X207 hx (hb hby at_332) (pc' := 334) rfl rfl ?_
                          refine o_iconst X207 hx (1 : Int32) (hb hby at_334) (pc' := 335) rfl (by decide) ?_
                          refine o_cmpN X207 hx (hb hby at_335) (tlt (by decide : (1 : Int32) < (3 : Int32))).2.2.2 (pc' := 338) rfl ?_
                          refine o_iload X207 hx (hb hby at_338) (pc' := 340) rfl rfl ?_
                          refine o_iconst X207 hx (1 : Int32) (hb hby at_340) (pc' := 341) rfl (by decide) ?_
                          refine o_cmpY X207 hx (hb hby at_341) (teq (by decide : (1 : Int32) = (1 : Int32))).1 (by decide) (pc' := 348) (by decide) ?_
                          refine o_iconst X207 hx (0 : Int32) (hb hby at_348) (pc' := 349) rfl (by decide) ?_
                          refine o_iload X207 hx (hb hby at_349) (pc' := 351) rfl rfl ?_
                          refine o_iconst X207 hx (2 : Int32) (hb hby at_351) (pc' := 352) rfl (by decide) ?_
                          refine o_cmpN X207 hx (hb hby at_352) (tlt (by decide : (2 : Int32) < (3 : Int32))).2.2.2 (pc' := 355) rfl ?_
                          refine o_iload X207 hx (hb hby at_355) (pc' := 357) rfl rfl ?_
                          refine o_iconst X207 hx (2 : Int32) (hb hby at_357) (pc' := 358) rfl (by decide) ?_
                          refine o_cmpN X207 hx (hb hby at_358) (feq (by decide : ¬ ((1 : Int32) = (2 : Int32)))).1 (pc' := 361) rfl ?_
                          refine o_iconst X207 hx (1 : Int32) (hb hby at_361) (pc' := 362) rfl (by decide) ?_
                          refine o_goto X207 hx (hb hby at_362) (by decide) (pc' := 366) (by decide) ?_
                          refine o_iload X207 hx (hb hby at_366) (pc' := 368) rfl rfl ?_
                          refine o_iload X207 hx (hb hby at_368) (pc' := 370) rfl rfl ?_
                          refine o_iload X207 hx (hb hby at_370) (pc' := 372) rfl rfl ?_
                          refine o_lloadN X207 hx (hb hby at_372) (pc' := 373) rfl rfl ?_
                          refine o_lload X207 hx (hb hby at_373) (pc' := 375) rfl rfl ?_
                          refine o_lloadN X207 hx (hb hby at_375) (pc' := 376) rfl rfl ?_
                          refine o_lload X207 hx (hb hby at_376) (pc' := 378) rfl rfl ?_
                          refine o_lload X207 hx (hb hby at_378) (pc' := 380) rfl rfl ?_
                          refine o_lload X207 hx (hb hby at_380) (pc' := 382) rfl rfl ?_
                          refine o_callS X207 hx hZ 0 (argsL := [.int (1 : Int32), .int (0 : Int32), .int (1 : Int32), .int (1 : Int32), .int (-1 : Int32), .int (0 : Int32), .long q0, .long (o0 q0 q1 q2 q3), .long q1, .long (1 : Int64), .long q2, .long (o1 q0 q1 q2 q3)]) (rest := []) hown (w 53 _ rfl) (w 54 _ rfl) (w 55 _ rfl) (w 56 _ rfl) (by decide) (rm10 l Z a0 hw [] (1 : Int32) (0 : Int32) (1 : Int32) (1 : Int32) (-1 : Int32) (0 : Int32) q0 (o0 q0 q1 q2 q3) q1 (1 : Int64) q2 (o1 q0 q1 q2 q3) T201.heap n0 Z201 ) (by decide) (by decide) (cells' := 8) rfl (slots' := 33) rfl (by decide) (by decide) e207 (by rw [hml]; rfl) (lenOf pd_5 rfl) rfl rfl (hb hby at_382) (pc' := 385) rfl ?_
                          intro T208 v208 L208 X208 hQ208
                          obtain ⟨rfl, Nq208, e208⟩ := hQ208
                          have N208 := Fr.app N207 Nq208
                          show Go p e below _ (T208.setTop (mkF m 385 _ [.int (o3 (1 : Int32) (0 : Int32) (1 : Int32) (1 : Int32) (-1 : Int32) (0 : Int32) q0 (o0 q0 q1 q2 q3) q1 (1 : Int64) q2 (o1 q0 q1 q2 q3))]))
                          rw [← hOWE]
                          exact o_retZ X208 hx (own_narZ (o24 (1 : Int32) (0 : Int32) (1 : Int32) (1 : Int32) (-1 : Int32) (0 : Int32) q0 (o0 q0 q1 q2 q3) q1 (1 : Int64) q2 (o1 q0 q1 q2 q3))) hlk hrt (hb hby at_385) (by decide) (by decide) (by rw [e208]; exact ⟨(by rw [o7, o10, o9, o8, if_neg hs16, if_neg hs26, if_neg hs45, if_neg hm120_102, if_pos hm137_184, if_neg hc231_191, if_neg hs192, if_pos hs200, if_pos hm274_202]), N208⟩)
                        · obtain ⟨rfl, Nq201, Kq201, P201_0, P201_1, P201_2, P201_3, P201_4, P201_5, P201_6, P201_7, P201_8⟩ := hQ201
                          have N201 := Fr.app N190 Nq201
                          have E209_b4 := Exa.keep E185_b4 Kq201
                          have E209_b6 := Exa.keep E185_b6 Kq201
                          have E209_b8 := Exa.keep E185_b8 Kq201
                          have E209_b10 := Exa.keep E185_b10 Kq201
                          have Z201 : n0 ≤ T201.heap.size := Nat.le_trans Z183 Kq201.1
                          show Go p e below _ (T201.setTop (mkF m 277 _ []))
                          refine o_aload X201 hx (hb hby at_277) (pc' := 279) rfl rfl rfl ?_
                          refine o_aload X201 hx (hb hby at_279) (pc' := 281) rfl rfl rfl ?_
                          refine o_callV X201 hx hZ 0 (argsL := [.ref b4]) (rest := []) (a := b12) hown (w 48 _ rfl) (w 49 _ rfl) (w 51 _ rfl) (w 50 _ rfl) (w 4 _ rfl) (w 52 _ rfl) (by decide) (rm9s12 l Z a0 hw [] _ _ _ _ _ T201.heap n0 Z201 P201_0 P201_1 P201_5 E209_b4 E209_b8 P201_6 On14_0 ne_b12_bn14_0 (Ne.symm ne_b4_b12) (Ne.symm ne_b4_bn14_0) (Ne.symm ne_b8_b12) (Ne.symm ne_b8_bn14_0) ne_b4_b8) P201_0 (by decide) (by decide) (cells' := 8) rfl (slots' := 33) rfl (by decide) (by decide) rfl (by rw [hml]; rfl) (lenOf pd_4 rfl) rfl rfl (hb hby at_281) (pc' := 284) rfl ?_
                          intro T210 v210 L210 X210 hQ210
                          obtain ⟨rfl, Nq210, e210⟩ := hQ210
                          have N210 := Fr.app N201 Nq210
                          show Go p e below _ (T210.setTop (mkF m 284 _ [.int (0 : Int32)]))
                          refine o_istore X210 hx (hb hby at_284) (pc' := 286) rfl (L' := #[.val (.long q0), .second, .val (.long q1), .second, .val (.long q2), .second, .val (.int q3), .val (.int (3 : Int32)), .val (.int (1 : Int32)), .val (.int (o2 q0 q1 q2 q3)), .val (.long (o0 q0 q1 q2 q3)), .second, .val (.long (1 : Int64)), .second, .val (.long (o1 q0 q1 q2 q3)), .second, .val (.ref b4), .val (.ref b6), .val (.ref b8), .val (.ref b10), .val (.ref b12), .val (.int (1 : Int32)), .val (.int (0 : Int32)), .val (.int (2 : Int32)), .val (.int (0 : Int32)), .val (.int (0 : Int32)), .unset, .unset]) rfl ?_
                          refine o_aload X210 hx (hb hby at_286) (pc' := 288) rfl rfl rfl ?_
                          refine o_aload X210 hx (hb hby at_288) (pc' := 290) rfl rfl rfl ?_
                          refine o_callV X210 hx hZ 0 (argsL := [.ref b6]) (rest := []) (a := b12) hown (w 48 _ rfl) (w 49 _ rfl) (w 51 _ rfl) (w 50 _ rfl) (w 4 _ rfl) (w 52 _ rfl) (by decide) (rm9s14 l Z a0 hw [] _ _ _ _ _ _ T201.heap n0 Z201 P201_0 P201_1 P201_5 E209_b4 E209_b8 E209_b6 P201_6 On14_0 ne_b12_bn14_0 (Ne.symm ne_b4_b12) (Ne.symm ne_b4_bn14_0) (Ne.symm ne_b8_b12) (Ne.symm ne_b8_bn14_0) ne_b4_b8 (Ne.symm ne_b6_b12) (Ne.symm ne_b6_bn14_0) ne_b4_b6 (Ne.symm ne_b6_b8)) P201_0 (by decide) (by decide) (cells' := 8) rfl (slots' := 33) rfl (by decide) (by decide) e210 (by rw [hml]; rfl) (lenOf pd_4 rfl) rfl rfl (hb hby at_290) (pc' := 293) rfl ?_
                          intro T211 v211 L211 X211 hQ211
                          obtain ⟨rfl, Nq211, e211⟩ := hQ211
                          have N211 := Fr.app N210 Nq211
                          show Go p e below _ (T211.setTop (mkF m 293 _ [.int (-1 : Int32)]))
                          refine o_istore X211 hx (hb hby at_293) (pc' := 295) rfl (L' := #[.val (.long q0), .second, .val (.long q1), .second, .val (.long q2), .second, .val (.int q3), .val (.int (3 : Int32)), .val (.int (1 : Int32)), .val (.int (o2 q0 q1 q2 q3)), .val (.long (o0 q0 q1 q2 q3)), .second, .val (.long (1 : Int64)), .second, .val (.long (o1 q0 q1 q2 q3)), .second, .val (.ref b4), .val (.ref b6), .val (.ref b8), .val (.ref b10), .val (.ref b12), .val (.int (1 : Int32)), .val (.int (0 : Int32)), .val (.int (2 : Int32)), .val (.int (0 : Int32)), .val (.int (0 : Int32)), .val (.int (-1 : Int32)), .unset]) rfl ?_
                          refine o_aload X211 hx (hb hby at_295) (pc' := 297) rfl rfl rfl ?_
                          refine o_aload X211 hx (hb hby at_297) (pc' := 299) rfl rfl rfl ?_
                          refine o_callV X211 hx hZ 0 (argsL := [.ref b8]) (rest := []) (a := b12) hown (w 48 _ rfl) (w 49 _ rfl) (w 51 _ rfl) (w 50 _ rfl) (w 4 _ rfl) (w 52 _ rfl) (by decide) (rm9s13 l Z a0 hw [] _ _ _ _ _ T201.heap n0 Z201 P201_0 P201_1 P201_5 E209_b4 E209_b8 P201_6 On14_0 ne_b12_bn14_0 (Ne.symm ne_b4_b12) (Ne.symm ne_b4_bn14_0) (Ne.symm ne_b8_b12) (Ne.symm ne_b8_bn14_0) ne_b4_b8) P201_0 (by decide) (by decide) (cells' := 8) rfl (slots' := 33) rfl (by decide) (by decide) e211 (by rw [hml]; rfl) (lenOf pd_4 rfl) rfl rfl (hb hby at_299) (pc' := 302) rfl ?_
                          intro T212 v212 L212 X212 hQ212
                          obtain ⟨rfl, Nq212, e212⟩ := hQ212
                          have N212 := Fr.app N211 Nq212
                          show Go p e below _ (T212.setTop (mkF m 302 _ [.int (1 : Int32)]))
                          refine o_istore X212 hx (hb hby at_302) (pc' := 304) rfl (L' := #[.val (.long q0), .second, .val (.long q1), .second, .val (.long q2), .second, .val (.int q3), .val (.int (3 : Int32)), .val (.int (1 : Int32)), .val (.int (o2 q0 q1 q2 q3)), .val (.long (o0 q0 q1 q2 q3)), .second, .val (.long (1 : Int64)), .second, .val (.long (o1 q0 q1 q2 q3)), .second, .val (.ref b4), .val (.ref b6), .val (.ref b8), .val (.ref b10), .val (.ref b12), .val (.int (1 : Int32)), .val (.int (0 : Int32)), .val (.int (2 : Int32)), .val (.int (0 : Int32)), .val (.int (0 : Int32)), .val (.int (-1 : Int32)), .val (.int (1 : Int32))]) rfl ?_
                          refine o_aload X212 hx (hb hby at_304) (pc' := 306) rfl rfl rfl ?_
                          refine o_aload X212 hx (hb hby at_306) (pc' := 308) rfl rfl rfl ?_
                          refine o_callV X212 hx hZ 0 (argsL := [.ref b10]) (rest := []) (a := b12) hown (w 48 _ rfl) (w 49 _ rfl) (w 51 _ rfl) (w 50 _ rfl) (w 4 _ rfl) (w 52 _ rfl) (by decide) (rm9s14 l Z a0 hw [] _ _ _ _ _ _ T201.heap n0 Z201 P201_0 P201_1 P201_5 E209_b4 E209_b8 E209_b10 P201_6 On14_0 ne_b12_bn14_0 (Ne.symm ne_b4_b12) (Ne.symm ne_b4_bn14_0) (Ne.symm ne_b8_b12) (Ne.symm ne_b8_bn14_0) ne_b4_b8 (Ne.symm ne_b10_b12) (Ne.symm ne_b10_bn14_0) ne_b4_b10 ne_b8_b10) P201_0 (by decide) (by decide) (cells' := 8) rfl (slots' := 33) rfl (by decide) (by decide) e212 (by rw [hml]; rfl) (lenOf pd_4 rfl) rfl rfl (hb hby at_308) (pc' := 311) rfl ?_
                          intro T213 v213 L213 X213 hQ213
                          obtain ⟨rfl, Nq213, e213⟩ := hQ213
                          have N213 := Fr.app N212 Nq213
                          show Go p e below _ (T213.setTop (mkF m 311 _ [.int (-1 : Int32)]))
                          refine o_iconst X213 hx (-1 : Int32) (hb hby at_311) (pc' := 312) rfl (by decide) ?_
                          refine o_cmpY X213 hx (hb hby at_312) (teq (by decide : (-1 : Int32) = (-1 : Int32))).1 (by decide) (pc' := 317) (by decide) ?_
                          refine o_iload X213 hx (hb hby at_317) (pc' := 319) rfl rfl ?_
                          refine o_ifN X213 hx (hb hby at_319) (tlt (by decide : (0 : Int32) < (3 : Int32))).2.2.2 (pc' := 322) rfl ?_
                          refine o_iload X213 hx (hb hby at_322) (pc' := 324) rfl rfl ?_
                          refine o_ifN X213 hx (hb hby at_324) (feq (by decide : ¬ ((1 : Int32) = (0 : Int32)))).1 (pc' := 327) rfl ?_
                          refine o_iconst X213 hx (1 : Int32) (hb hby at_327) (pc' := 328) rfl (by decide) ?_
                          refine o_goto X213 hx (hb hby at_328) (by decide) (pc' := 332) (by decide) ?_
                          refine o_iload X213 hx (hb hby at_332) (pc' := 334) rfl rfl ?_
                          refine o_iconst X213 hx (1 : Int32) (hb hby at_334) (pc' := 335) rfl (by decide) ?_
                          refine o_cmpN X213 hx (hb hby at_335) (tlt (by decide : (1 : Int32) < (3 : Int32))).2.2.2 (pc' := 338) rfl ?_
                          refine o_iload X213 hx (hb hby at_338) (pc' := 340) rfl rfl ?_
                          refine o_iconst X213 hx (1 : Int32) (hb hby at_340) (pc' := 341) rfl (by decide) ?_
                          refine o_cmpY X213 hx (hb hby at_341) (teq (by decide : (1 : Int32) = (1 : Int32))).1 (by decide) (pc' := 348) (by decide) ?_
                          refine o_iconst X213 hx (0 : Int32) (hb hby at_348) (pc' := 349) rfl (by decide) ?_
                          refine o_iload X213 hx (hb hby at_349) (pc' := 351) rfl rfl ?_
                          refine o_iconst X213 hx (2 : Int32) (hb hby at_351) (pc' := 352) rfl (by decide) ?_
                          refine o_cmpN X213 hx (hb hby at_352) (tlt (by decide : (2 : Int32) < (3 : Int32))).2.2.2 (pc' := 355) rfl ?_
                          refine o_iload X213 hx (hb hby at_355) (pc' := 357) rfl rfl ?_
                          refine o_iconst X213 hx (2 : Int32) (hb hby at_357) (pc' := 358) rfl (by decide) ?_
                          refine o_cmpN X213 hx (hb hby at_358) (feq (by decide : ¬ ((1 : Int32) = (2 : Int32)))).1 (pc' := 361) rfl ?_
                          refine o_iconst X213 hx (1 : Int32) (hb hby at_361) (pc' := 362) rfl (by decide) ?_
                          refine o_goto X213 hx (hb hby at_362) (by decide) (pc' := 366) (by decide) ?_
                          refine o_iload X213 hx (hb hby at_366) (pc' := 368) rfl rfl ?_
                          refine o_iload X213 hx (hb hby at_368) (pc' := 370) rfl rfl ?_
                          refine o_iload X213 hx (hb hby at_370) (pc' := 372) rfl rfl ?_
                          refine o_lloadN X213 hx (hb hby at_372) (pc' := 373) rfl rfl ?_
                          refine o_lload X213 hx (hb hby at_373) (pc' := 375) rfl rfl ?_
                          refine o_lloadN X213 hx (hb hby at_375) (pc' := 376) rfl rfl ?_
                          refine o_lload X213 hx (hb hby at_376) (pc' := 378) rfl rfl ?_
                          refine o_lload X213 hx (hb hby at_378) (pc' := 380) rfl rfl ?_
                          refine o_lload X213 hx (hb hby at_380) (pc' := 382) rfl rfl ?_
                          refine o_callS X213 hx hZ 0 (argsL := [.int (1 : Int32), .int (0 : Int32), .int (1 : Int32), .int (0 : Int32), .int (-1 : Int32), .int (1 : Int32), .long q0, .long (o0 q0 q1 q2 q3), .long q1, .long (1 : Int64), .long q2, .long (o1 q0 q1 q2 q3)]) (rest := []) hown (w 53 _ rfl) (w 54 _ rfl) (w 55 _ rfl) (w 56 _ rfl) (by decide) (rm10 l Z a0 hw [] (1 : Int32) (0 : Int32) (1 : Int32) (0 : Int32) (-1 : Int32) (1 : Int32) q0 (o0 q0 q1 q2 q3) q1 (1 : Int64) q2 (o1 q0 q1 q2 q3) T201.heap n0 Z201 ) (by decide) (by decide) (cells' := 8) rfl (slots' := 33) rfl (by decide) (by decide) e213 (by rw [hml]; rfl) (lenOf pd_5 rfl) rfl rfl (hb hby at_382) (pc' := 385) rfl ?_
                          intro T214 v214 L214 X214 hQ214
                          obtain ⟨rfl, Nq214, e214⟩ := hQ214
                          have N214 := Fr.app N213 Nq214
                          show Go p e below _ (T214.setTop (mkF m 385 _ [.int (o3 (1 : Int32) (0 : Int32) (1 : Int32) (0 : Int32) (-1 : Int32) (1 : Int32) q0 (o0 q0 q1 q2 q3) q1 (1 : Int64) q2 (o1 q0 q1 q2 q3))]))
                          rw [← hOWE]
                          exact o_retZ X214 hx (own_narZ (o24 (1 : Int32) (0 : Int32) (1 : Int32) (0 : Int32) (-1 : Int32) (1 : Int32) q0 (o0 q0 q1 q2 q3) q1 (1 : Int64) q2 (o1 q0 q1 q2 q3))) hlk hrt (hb hby at_385) (by decide) (by decide) (by rw [e214]; exact ⟨(by rw [o7, o10, o9, o8, if_neg hs16, if_neg hs26, if_neg hs45, if_neg hm120_102, if_pos hm137_184, if_neg hc231_191, if_neg hs192, if_pos hs200, if_neg hm274_202]), N214⟩)
                      · have hs215 : (o4 q0 q1 q2 q3) = (2 : Int32) := (((o46 q0 q1 q2 q3)).resolve_left hs192).resolve_left hs200
                        rw [hs215]
                        refine o_iload X190 hx (hb hby at_236) (pc' := 238) rfl rfl ?_
                        refine o_iload X190 hx (hb hby at_238) (pc' := 240) rfl rfl ?_
                        refine o_cmpY X190 hx (hb hby at_240) (tlt (by decide : (2 : Int32) < (3 : Int32))).1 (by decide) (pc' := 245) (by decide) ?_
                        refine o_iload X190 hx (hb hby at_245) (pc' := 247) rfl rfl ?_
                        refine o_ifY X190 hx (hb hby at_247) (feq (by decide : ¬ ((2 : Int32) = (0 : Int32)))).2 (by decide) (pc' := 255) (by decide) ?_
                        refine o_iload X190 hx (hb hby at_255) (pc' := 257) rfl rfl ?_
                        refine o_iconst X190 hx (1 : Int32) (hb hby at_257) (pc' := 258) rfl (by decide) ?_
                        refine o_cmpY X190 hx (hb hby at_258) (feq (by decide : ¬ ((2 : Int32) = (1 : Int32)))).2 (by decide) (pc' := 266) (by decide) ?_
                        refine o_iload X190 hx (hb hby at_266) (pc' := 268) rfl rfl ?_
                        refine o_istore X190 hx (hb hby at_268) (pc' := 270) rfl (L' := #[.val (.long q0), .second, .val (.long q1), .second, .val (.long q2), .second, .val (.int q3), .val (.int (3 : Int32)), .val (.int (2 : Int32)), .val (.int (o2 q0 q1 q2 q3)), .val (.long (o0 q0 q1 q2 q3)), .second, .val (.long (1 : Int64)), .second, .val (.long (o1 q0 q1 q2 q3)), .second, .val (.ref b4), .val (.ref b6), .val (.ref b8), .val (.ref b10), .val (.ref b12), .val (.int (1 : Int32)), .val (.int (0 : Int32)), .val (.int (2 : Int32)), .val (.int (2 : Int32)), .unset, .unset, .unset]) rfl ?_
                        refine o_aload X190 hx (hb hby at_270) (pc' := 272) rfl rfl rfl ?_
                        refine o_iload X190 hx (hb hby at_272) (pc' := 274) rfl rfl ?_
                        refine o_callV X190 hx hZ 0 (argsL := [.int (2 : Int32)]) (rest := []) (a := b12) hown (w 63 _ rfl) (w 64 _ rfl) (w 66 _ rfl) (w 65 _ rfl) (w 4 _ rfl) (w 67 _ rfl) (by decide) (rm13s33 l Z a0 hw [] _ _ _ _ _ _ _ _ _ _ _ _ _ _ _ _ _ _ _ _ _ _ _ _ _ _ T183.heap n0 Z183 P183_0 P183_1 P183_2 P183_3 P183_4 P183_5 g_b12 E185_b6 E185_b4 E185_b8 P183_6 On14_0 gn14_0 P183_7 gn14_1 P183_8 gn14_2 ne_b12_bn14_0 (Ne.symm ne_b6_b12) (Ne.symm ne_b6_bn14_0) (Ne.symm ne_b4_b12) (Ne.symm ne_b4_bn14_0) (Ne.symm ne_b4_b6) (Ne.symm ne_b8_b12) (Ne.symm ne_b8_bn14_0) ne_b6_b8 ne_b4_b8 ne_b12_bn14_1 nn14_0_1 ne_b6_bn14_1 ne_b4_bn14_1 ne_b8_bn14_1 ne_b12_bn14_2 nn14_0_2 ne_b6_bn14_2 ne_b4_bn14_2 ne_b8_bn14_2 nn14_1_2) P183_0 (by decide) (by decide) (cells' := 8) rfl (slots' := 33) rfl (by decide) (by decide) e190 (by rw [hml]; rfl) (lenOf pd_10 rfl) rfl rfl (hb hby at_274) (pc' := 277) rfl ?_
                        intro T216 v216 L216 X216 hQ216
                        obtain ⟨rfl, Nq216, Kq216, P216_0, P216_1, P216_2, P216_3, P216_4, P216_5, P216_6, P216_7, P216_8⟩ := hQ216
                        have N216 := Fr.app N190 Nq216
                        have E217_b4 := Exa.keep E185_b4 Kq216
                        have E217_b6 := Exa.keep E185_b6 Kq216
                        have E217_b8 := Exa.keep E185_b8 Kq216
                        have E217_b10 := Exa.keep E185_b10 Kq216
                        have Z216 : n0 ≤ T216.heap.size := Nat.le_trans Z183 Kq216.1
                        show Go p e below _ (T216.setTop (mkF m 277 _ []))
                        refine o_aload X216 hx (hb hby at_277) (pc' := 279) rfl rfl rfl ?_
                        refine o_aload X216 hx (hb hby at_279) (pc' := 281) rfl rfl rfl ?_
                        refine o_callV X216 hx hZ 0 (argsL := [.ref b4]) (rest := []) (a := b12) hown (w 48 _ rfl) (w 49 _ rfl) (w 51 _ rfl) (w 50 _ rfl) (w 4 _ rfl) (w 52 _ rfl) (by decide) (rm9s13 l Z a0 hw [] _ _ _ _ _ T216.heap n0 Z216 P216_0 P216_1 P216_5 E217_b6 E217_b4 P216_6 On14_0 ne_b12_bn14_0 (Ne.symm ne_b6_b12) (Ne.symm ne_b6_bn14_0) (Ne.symm ne_b4_b12) (Ne.symm ne_b4_bn14_0) (Ne.symm ne_b4_b6)) P216_0 (by decide) (by decide) (cells' := 8) rfl (slots' := 33) rfl (by decide) (by decide) rfl (by rw [hml]; rfl) (lenOf pd_4 rfl) rfl rfl (hb hby at_281) (pc' := 284) rfl ?_
                        intro T218 v218 L218 X218 hQ218
                        obtain ⟨rfl, Nq218, e218⟩ := hQ218
                        have N218 := Fr.app N216 Nq218
                        show Go p e below _ (T218.setTop (mkF m 284 _ [.int (1 : Int32)]))
                        refine o_istore X218 hx (hb hby at_284) (pc' := 286) rfl (L' := #[.val (.long q0), .second, .val (.long q1), .second, .val (.long q2), .second, .val (.int q3), .val (.int (3 : Int32)), .val (.int (2 : Int32)), .val (.int (o2 q0 q1 q2 q3)), .val (.long (o0 q0 q1 q2 q3)), .second, .val (.long (1 : Int64)), .second, .val (.long (o1 q0 q1 q2 q3)), .second, .val (.ref b4), .val (.ref b6), .val (.ref b8), .val (.ref b10), .val (.ref b12), .val (.int (1 : Int32)), .val (.int (0 : Int32)), .val (.int (2 : Int32)), .val (.int (2 : Int32)), .val (.int (1 : Int32)), .unset, .unset]) rfl ?_
                        refine o_aload X218 hx (hb hby at_286) (pc' := 288) rfl rfl rfl ?_
                        refine o_aload X218 hx (hb hby at_288) (pc' := 290) rfl rfl rfl ?_
                        refine o_callV X218 hx hZ 0 (argsL := [.ref b6]) (rest := []) (a := b12) hown (w 48 _ rfl) (w 49 _ rfl) (w 51 _ rfl) (w 50 _ rfl) (w 4 _ rfl) (w 52 _ rfl) (by decide) (rm9s12 l Z a0 hw [] _ _ _ _ _ T216.heap n0 Z216 P216_0 P216_1 P216_5 E217_b6 E217_b4 P216_6 On14_0 ne_b12_bn14_0 (Ne.symm ne_b6_b12) (Ne.symm ne_b6_bn14_0) (Ne.symm ne_b4_b12) (Ne.symm ne_b4_bn14_0) (Ne.symm ne_b4_b6)) P216_0 (by decide) (by decide) (cells' := 8) rfl (slots' := 33) rfl (by decide) (by decide) e218 (by rw [hml]; rfl) (lenOf pd_4 rfl) rfl rfl (hb hby at_290) (pc' := 293) rfl ?_
                        intro T219 v219 L219 X219 hQ219
                        obtain ⟨rfl, Nq219, e219⟩ := hQ219
                        have N219 := Fr.app N218 Nq219
                        show Go p e below _ (T219.setTop (mkF m 293 _ [.int (0 : Int32)]))
                        refine o_istore X219 hx (hb hby at_293) (pc' := 295) rfl (L' := #[.val (.long q0), .second, .val (.long q1), .second, .val (.long q2), .second, .val (.int q3), .val (.int (3 : Int32)), .val (.int (2 : Int32)), .val (.int (o2 q0 q1 q2 q3)), .val (.long (o0 q0 q1 q2 q3)), .second, .val (.long (1 : Int64)), .second, .val (.long (o1 q0 q1 q2 q3)), .second, .val (.ref b4), .val (.ref b6), .val (.ref b8), .val (.ref b10), .val (.ref b12), .val (.int (1 : Int32)), .val (.int (0 : Int32)), .val (.int (2 : Int32)), .val (.int (2 : Int32)), .val (.int (1 : Int32)), .val (.int (0 : Int32)), .unset]) rfl ?_
                        refine o_aload X219 hx (hb hby at_295) (pc' := 297) rfl rfl rfl ?_
                        refine o_aload X219 hx (hb hby at_297) (pc' := 299) rfl rfl rfl ?_
                        refine o_callV X219 hx hZ 0 (argsL := [.ref b8]) (rest := []) (a := b12) hown (w 48 _ rfl) (w 49 _ rfl) (w 51 _ rfl) (w 50 _ rfl) (w 4 _ rfl) (w 52 _ rfl) (by decide) (rm9s14 l Z a0 hw [] _ _ _ _ _ _ T216.heap n0 Z216 P216_0 P216_1 P216_5 E217_b6 E217_b4 E217_b8 P216_6 On14_0 ne_b12_bn14_0 (Ne.symm ne_b6_b12) (Ne.symm ne_b6_bn14_0) (Ne.symm ne_b4_b12) (Ne.symm ne_b4_bn14_0) (Ne.symm ne_b4_b6) (Ne.symm ne_b8_b12) (Ne.symm ne_b8_bn14_0) ne_b6_b8 ne_b4_b8) P216_0 (by decide) (by decide) (cells' := 8) rfl (slots' := 33) rfl (by decide) (by decide) e219 (by rw [hml]; rfl) (lenOf pd_4 rfl) rfl rfl (hb hby at_299) (pc' := 302) rfl ?_
                        intro T220 v220 L220 X220 hQ220
                        obtain ⟨rfl, Nq220, e220⟩ := hQ220
                        have N220 := Fr.app N219 Nq220
                        show Go p e below _ (T220.setTop (mkF m 302 _ [.int (-1 : Int32)]))
                        refine o_istore X220 hx (hb hby at_302) (pc' := 304) rfl (L' := #[.val (.long q0), .second, .val (.long q1), .second, .val (.long q2), .second, .val (.int q3), .val (.int (3 : Int32)), .val (.int (2 : Int32)), .val (.int (o2 q0 q1 q2 q3)), .val (.long (o0 q0 q1 q2 q3)), .second, .val (.long (1 : Int64)), .second, .val (.long (o1 q0 q1 q2 q3)), .second, .val (.ref b4), .val (.ref b6), .val (.ref b8), .val (.ref b10), .val (.ref b12), .val (.int (1 : Int32)), .val (.int (0 : Int32)), .val (.int (2 : Int32)), .val (.int (2 : Int32)), .val (.int (1 : Int32)), .val (.int (0 : Int32)), .val (.int (-1 : Int32))]) rfl ?_
                        refine o_aload X220 hx (hb hby at_304) (pc' := 306) rfl rfl rfl ?_
                        refine o_aload X220 hx (hb hby at_306) (pc' := 308) rfl rfl rfl ?_
                        refine o_callV X220 hx hZ 0 (argsL := [.ref b10]) (rest := []) (a := b12) hown (w 48 _ rfl) (w 49 _ rfl) (w 51 _ rfl) (w 50 _ rfl) (w 4 _ rfl) (w 52 _ rfl) (by decide) (rm9s14 l Z a0 hw [] _ _ _ _ _ _ T216.heap n0 Z216 P216_0 P216_1 P216_5 E217_b6 E217_b4 E217_b10 P216_6 On14_0 ne_b12_bn14_0 (Ne.symm ne_b6_b12) (Ne.symm ne_b6_bn14_0) (Ne.symm ne_b4_b12) (Ne.symm ne_b4_bn14_0) (Ne.symm ne_b4_b6) (Ne.symm ne_b10_b12) (Ne.symm ne_b10_bn14_0) ne_b6_b10 ne_b4_b10) P216_0 (by decide) (by decide) (cells' := 8) rfl (slots' := 33) rfl (by decide) (by decide) e220 (by rw [hml]; rfl) (lenOf pd_4 rfl) rfl rfl (hb hby at_308) (pc' := 311) rfl ?_
                        intro T221 v221 L221 X221 hQ221
                        obtain ⟨rfl, Nq221, e221⟩ := hQ221
                        have N221 := Fr.app N220 Nq221
                        show Go p e below _ (T221.setTop (mkF m 311 _ [.int (-1 : Int32)]))
                        refine o_iconst X221 hx (-1 : Int32) (hb hby at_311) (pc' := 312) rfl (by decide) ?_
                        refine o_cmpY X221 hx (hb hby at_312) (teq (by decide : (-1 : Int32) = (-1 : Int32))).1 (by decide) (pc' := 317) (by decide) ?_
                        refine o_iload X221 hx (hb hby at_317) (pc' := 319) rfl rfl ?_
                        refine o_ifN X221 hx (hb hby at_319) (tlt (by decide : (0 : Int32) < (3 : Int32))).2.2.2 (pc' := 322) rfl ?_
                        refine o_iload X221 hx (hb hby at_322) (pc' := 324) rfl rfl ?_
                        refine o_ifN X221 hx (hb hby at_324) (feq (by decide : ¬ ((2 : Int32) = (0 : Int32)))).1 (pc' := 327) rfl ?_
                        refine o_iconst X221 hx (1 : Int32) (hb hby at_327) (pc' := 328) rfl (by decide) ?_
                        refine o_goto X221 hx (hb hby at_328) (by decide) (pc' := 332) (by decide) ?_
                        refine o_iload X221 hx (hb hby at_332) (pc' := 334) rfl rfl ?_
                        refine o_iconst X221 hx (1 : Int32) (hb hby at_334) (pc' := 335) rfl (by decide) ?_
                        refine o_cmpN X221 hx (hb hby at_335) (tlt (by decide : (1 : Int32) < (3 : Int32))).2.2.2 (pc' := 338) rfl ?_
                        refine o_iload X221 hx (hb hby at_338) (pc' := 340) rfl rfl ?_
                        refine o_iconst X221 hx (1 : Int32) (hb hby at_340) (pc' := 341) rfl (by decide) ?_
                        refine o_cmpN X221 hx (hb hby at_341) (feq (by decide : ¬ ((2 : Int32) = (1 : Int32)))).1 (pc' := 344) rfl ?_
                        refine o_iconst X221 hx (1 : Int32) (hb hby at_344) (pc' := 345) rfl (by decide) ?_
                        refine o_goto X221 hx (hb hby at_345) (by decide) (pc' := 349) (by decide) ?_
                        refine o_iload X221 hx (hb hby at_349) (pc' := 351) rfl rfl ?_
                        refine o_iconst X221 hx (2 : Int32) (hb hby at_351) (pc' := 352) rfl (by decide) ?_
                        refine o_cmpN X221 hx (hb hby at_352) (tlt (by decide : (2 : Int32) < (3 : Int32))).2.2.2 (pc' := 355) rfl ?_
                        refine o_iload X221 hx (hb hby at_355) (pc' := 357) rfl rfl ?_
                        refine o_iconst X221 hx (2 : Int32) (hb hby at_357) (pc' := 358) rfl (by decide) ?_
                        refine o_cmpY X221 hx (hb hby at_358) (teq (by decide : (2 : Int32) = (2 : Int32))).1 (by decide) (pc' := 365) (by decide) ?_
                        refine o_iconst X221 hx (0 : Int32) (hb hby at_365) (pc' := 366) rfl (by decide) ?_
                        refine o_iload X221 hx (hb hby at_366) (pc' := 368) rfl rfl ?_
                        refine o_iload X221 hx (hb hby at_368) (pc' := 370) rfl rfl ?_
                        refine o_iload X221 hx (hb hby at_370) (pc' := 372) rfl rfl ?_
                        refine o_lloadN X221 hx (hb hby at_372) (pc' := 373) rfl rfl ?_
                        refine o_lload X221 hx (hb hby at_373) (pc' := 375) rfl rfl ?_
                        refine o_lloadN X221 hx (hb hby at_375) (pc' := 376) rfl rfl ?_
                        refine o_lload X221 hx (hb hby at_376) (pc' := 378) rfl rfl ?_
                        refine o_lload X221 hx (hb hby at_378) (pc' := 380) rfl rfl ?_
                        refine o_lload X221 hx (hb hby at_380) (pc' := 382) rfl rfl ?_
                        refine o_callS X221 hx hZ 0 (argsL := [.int (1 : Int32), .int (1 : Int32), .int (0 : Int32), .int (1 : Int32), .int (0 : Int32), .int (-1 : Int32), .long q0, .long (o0 q0 q1 q2 q3), .long q1, .long (1 : Int64), .long q2, .long (o1 q0 q1 q2 q3)]) (rest := []) hown (w 53 _ rfl) (w 54 _ rfl) (w 55 _ rfl) (w 56 _ rfl) (by decide) (rm10 l Z a0 hw [] (1 : Int32) (1 : Int32) (0 : Int32) (1 : Int32) (0 : Int32) (-1 : Int32) q0 (o0 q0 q1 q2 q3) q1 (1 : Int64) q2 (o1 q0 q1 q2 q3) T216.heap n0 Z216 ) (by decide) (by decide) (cells' := 8) rfl (slots' := 33) rfl (by decide) (by decide) e221 (by rw [hml]; rfl) (lenOf pd_5 rfl) rfl rfl (hb hby at_382) (pc' := 385) rfl ?_
                        intro T222 v222 L222 X222 hQ222
                        obtain ⟨rfl, Nq222, e222⟩ := hQ222
                        have N222 := Fr.app N221 Nq222
                        show Go p e below _ (T222.setTop (mkF m 385 _ [.int (o3 (1 : Int32) (1 : Int32) (0 : Int32) (1 : Int32) (0 : Int32) (-1 : Int32) q0 (o0 q0 q1 q2 q3) q1 (1 : Int64) q2 (o1 q0 q1 q2 q3))]))
                        rw [← hOWE]
                        exact o_retZ X222 hx (own_narZ (o24 (1 : Int32) (1 : Int32) (0 : Int32) (1 : Int32) (0 : Int32) (-1 : Int32) q0 (o0 q0 q1 q2 q3) q1 (1 : Int64) q2 (o1 q0 q1 q2 q3))) hlk hrt (hb hby at_385) (by decide) (by decide) (by rw [e222]; exact ⟨(by rw [o7, o10, o9, o8, if_neg hs16, if_neg hs26, if_neg hs45, if_neg hm120_102, if_pos hm137_184, if_neg hc231_191, if_neg hs192, if_neg hs200]), N222⟩)
                · obtain ⟨rfl, Nq183, Kq183, P183_0, P183_1, P183_2, P183_3, P183_4, P183_5, P183_6, P183_7, P183_8⟩ := hQ183
                  have N183 := Fr.app N101 Nq183
                  have E223_b4 := Exa.keep E182_b4 Kq183
                  have E223_b6 := Exa.keep E182_b6 Kq183
                  have E223_b8 := Exa.keep E182_b8 Kq183
                  have E223_b10 := Exa.keep E182_b10 Kq183
                  have Z183 : n0 ≤ T183.heap.size := Nat.le_trans Z101 Kq183.1
                  show Go p e below _ (T183.setTop (mkF m 140 _ []))
                  refine o_aload X183 hx (hb hby at_140) (pc' := 142) rfl rfl rfl ?_
                  refine o_aload X183 hx (hb hby at_142) (pc' := 144) rfl rfl rfl ?_
                  refine o_callV X183 hx hZ 0 (argsL := [.ref b4]) (rest := []) (a := b12) hown (w 48 _ rfl) (w 49 _ rfl) (w 51 _ rfl) (w 50 _ rfl) (w 4 _ rfl) (w 52 _ rfl) (by decide) (rm9s24 l Z a0 hw [] _ _ _ _ _ _ T183.heap n0 Z183 P183_0 P183_1 P183_5 E223_b8 E223_b4 E223_b6 P183_6 On14_0 ne_b12_bn14_0 (Ne.symm ne_b8_b12) (Ne.symm ne_b8_bn14_0) (Ne.symm ne_b4_b12) (Ne.symm ne_b4_bn14_0) (Ne.symm ne_b4_b8) (Ne.symm ne_b6_b12) (Ne.symm ne_b6_bn14_0) (Ne.symm ne_b6_b8) ne_b4_b6) P183_0 (by decide) (by decide) (cells' := 8) rfl (slots' := 33) rfl (by decide) (by decide) rfl (by rw [hml]; rfl) (lenOf pd_4 rfl) rfl rfl (hb hby at_144) (pc' := 147) rfl ?_
                  intro T224 v224 L224 X224 hQ224
                  obtain ⟨rfl, Nq224, e224⟩ := hQ224
                  have N224 := Fr.app N183 Nq224
                  show Go p e below _ (T224.setTop (mkF m 147 _ [.int (1 : Int32)]))
                  refine o_istore X224 hx (hb hby at_147) (pc' := 149) rfl (L' := #[.val (.long q0), .second, .val (.long q1), .second, .val (.long q2), .second, .val (.int q3), .val (.int (3 : Int32)), .val (.int (o4 q0 q1 q2 q3)), .val (.int (o2 q0 q1 q2 q3)), .val (.long (o0 q0 q1 q2 q3)), .second, .val (.long (1 : Int64)), .second, .val (.long (o1 q0 q1 q2 q3)), .second, .val (.ref b4), .val (.ref b6), .val (.ref b8), .val (.ref b10), .val (.ref b12), .val (.int (1 : Int32)), .unset, .unset, .unset, .unset, .unset, .unset]) rfl ?_
                  refine o_aload X224 hx (hb hby at_149) (pc' := 151) rfl rfl rfl ?_
                  refine o_aload X224 hx (hb hby at_151) (pc' := 153) rfl rfl rfl ?_
                  refine o_callV X224 hx hZ 0 (argsL := [.ref b6]) (rest := []) (a := b12) hown (w 48 _ rfl) (w 49 _ rfl) (w 51 _ rfl) (w 50 _ rfl) (w 4 _ rfl) (w 52 _ rfl) (by decide) (rm9s25 l Z a0 hw [] _ _ _ _ _ _ T183.heap n0 Z183 P183_0 P183_1 P183_5 E223_b8 E223_b4 E223_b6 P183_6 On14_0 ne_b12_bn14_0 (Ne.symm ne_b8_b12) (Ne.symm ne_b8_bn14_0) (Ne.symm ne_b4_b12) (Ne.symm ne_b4_bn14_0) (Ne.symm ne_b4_b8) (Ne.symm ne_b6_b12) (Ne.symm ne_b6_bn14_0) (Ne.symm ne_b6_b8) ne_b4_b6) P183_0 (by decide) (by decide) (cells' := 8) rfl (slots' := 33) rfl (by decide) (by decide) e224 (by rw [hml]; rfl) (lenOf pd_4 rfl) rfl rfl (hb hby at_153) (pc' := 156) rfl ?_
                  intro T225 v225 L225 X225 hQ225
                  obtain ⟨rfl, Nq225, e225⟩ := hQ225
                  have N225 := Fr.app N224 Nq225
                  show Go p e below _ (T225.setTop (mkF m 156 _ [.int (2 : Int32)]))
                  refine o_istore X225 hx (hb hby at_156) (pc' := 158) rfl (L' := #[.val (.long q0), .second, .val (.long q1), .second, .val (.long q2), .second, .val (.int q3), .val (.int (3 : Int32)), .val (.int (o4 q0 q1 q2 q3)), .val (.int (o2 q0 q1 q2 q3)), .val (.long (o0 q0 q1 q2 q3)), .second, .val (.long (1 : Int64)), .second, .val (.long (o1 q0 q1 q2 q3)), .second, .val (.ref b4), .val (.ref b6), .val (.ref b8), .val (.ref b10), .val (.ref b12), .val (.int (1 : Int32)), .val (.int (2 : Int32)), .unset, .unset, .unset, .unset, .unset]) rfl ?_
                  refine o_aload X225 hx (hb hby at_158) (pc' := 160) rfl rfl rfl ?_
                  refine o_aload X225 hx (hb hby at_160) (pc' := 162) rfl rfl rfl ?_
                  refine o_callV X225 hx hZ 0 (argsL := [.ref b8]) (rest := []) (a := b12) hown (w 48 _ rfl) (w 49 _ rfl) (w 51 _ rfl) (w 50 _ rfl) (w 4 _ rfl) (w 52 _ rfl) (by decide) (rm9s23 l Z a0 hw [] _ _ _ _ _ _ T183.heap n0 Z183 P183_0 P183_1 P183_5 E223_b8 E223_b4 E223_b6 P183_6 On14_0 ne_b12_bn14_0 (Ne.symm ne_b8_b12) (Ne.symm ne_b8_bn14_0) (Ne.symm ne_b4_b12) (Ne.symm ne_b4_bn14_0) (Ne.symm ne_b4_b8) (Ne.symm ne_b6_b12) (Ne.symm ne_b6_bn14_0) (Ne.symm ne_b6_b8) ne_b4_b6) P183_0 (by decide) (by decide) (cells' := 8) rfl (slots' := 33) rfl (by decide) (by decide) e225 (by rw [hml]; rfl) (lenOf pd_4 rfl) rfl rfl (hb hby at_162) (pc' := 165) rfl ?_
                  intro T226 v226 L226 X226 hQ226
                  obtain ⟨rfl, Nq226, e226⟩ := hQ226
                  have N226 := Fr.app N225 Nq226
                  show Go p e below _ (T226.setTop (mkF m 165 _ [.int (0 : Int32)]))
                  refine o_istore X226 hx (hb hby at_165) (pc' := 167) rfl (L' := #[.val (.long q0), .second, .val (.long q1), .second, .val (.long q2), .second, .val (.int q3), .val (.int (3 : Int32)), .val (.int (o4 q0 q1 q2 q3)), .val (.int (o2 q0 q1 q2 q3)), .val (.long (o0 q0 q1 q2 q3)), .second, .val (.long (1 : Int64)), .second, .val (.long (o1 q0 q1 q2 q3)), .second, .val (.ref b4), .val (.ref b6), .val (.ref b8), .val (.ref b10), .val (.ref b12), .val (.int (1 : Int32)), .val (.int (2 : Int32)), .val (.int (0 : Int32)), .unset, .unset, .unset, .unset]) rfl ?_
                  refine o_aload X226 hx (hb hby at_167) (pc' := 169) rfl rfl rfl ?_
                  refine o_aload X226 hx (hb hby at_169) (pc' := 171) rfl rfl rfl ?_
                  refine o_callV X226 hx hZ 0 (argsL := [.ref b10]) (rest := []) (a := b12) hown (w 48 _ rfl) (w 49 _ rfl) (w 51 _ rfl) (w 50 _ rfl) (w 4 _ rfl) (w 52 _ rfl) (by decide) (rm9s26 l Z a0 hw [] _ _ _ _ _ _ _ T183.heap n0 Z183 P183_0 P183_1 P183_5 E223_b8 E223_b4 E223_b6 E223_b10 P183_6 On14_0 ne_b12_bn14_0 (Ne.symm ne_b8_b12) (Ne.symm ne_b8_bn14_0) (Ne.symm ne_b4_b12) (Ne.symm ne_b4_bn14_0) (Ne.symm ne_b4_b8) (Ne.symm ne_b6_b12) (Ne.symm ne_b6_bn14_0) (Ne.symm ne_b6_b8) ne_b4_b6 (Ne.symm ne_b10_b12) (Ne.symm ne_b10_bn14_0) ne_b8_b10 ne_b4_b10 ne_b6_b10) P183_0 (by decide) (by decide) (cells' := 8) rfl (slots' := 33) rfl (by decide) (by decide) e226 (by rw [hml]; rfl) (lenOf pd_4 rfl) rfl rfl (hb hby at_171) (pc' := 174) rfl ?_
                  intro T227 v227 L227 X227 hQ227
                  obtain ⟨rfl, Nq227, e227⟩ := hQ227
                  have N227 := Fr.app N226 Nq227
                  show Go p e below _ (T227.setTop (mkF m 174 _ [.int (-1 : Int32)]))
                  refine o_iconst X227 hx (-1 : Int32) (hb hby at_174) (pc' := 175) rfl (by decide) ?_
                  refine o_cmpY X227 hx (hb hby at_175) (teq (by decide : (-1 : Int32) = (-1 : Int32))).1 (by decide) (pc' := 180) (by decide) ?_
                  refine o_iload X227 hx (hb hby at_180) (pc' := 182) rfl rfl ?_
                  refine o_ifN X227 hx (hb hby at_182) (tlt (by decide : (0 : Int32) < (3 : Int32))).2.2.2 (pc' := 185) rfl ?_
                  refine o_iconst X227 hx (1 : Int32) (hb hby at_185) (pc' := 186) rfl (by decide) ?_
                  refine o_goto X227 hx (hb hby at_186) (by decide) (pc' := 190) (by decide) ?_
                  refine o_iload X227 hx (hb hby at_190) (pc' := 192) rfl rfl ?_
                  refine o_iconst X227 hx (1 : Int32) (hb hby at_192) (pc' := 193) rfl (by decide) ?_
                  refine o_cmpN X227 hx (hb hby at_193) (tlt (by decide : (1 : Int32) < (3 : Int32))).2.2.2 (pc' := 196) rfl ?_
                  refine o_iconst X227 hx (1 : Int32) (hb hby at_196) (pc' := 197) rfl (by decide) ?_
                  refine o_goto X227 hx (hb hby at_197) (by decide) (pc' := 201) (by decide) ?_
                  refine o_iload X227 hx (hb hby at_201) (pc' := 203) rfl rfl ?_
                  refine o_iconst X227 hx (2 : Int32) (hb hby at_203) (pc' := 204) rfl (by decide) ?_
                  refine o_cmpN X227 hx (hb hby at_204) (tlt (by decide : (2 : Int32) < (3 : Int32))).2.2.2 (pc' := 207) rfl ?_
                  refine o_iconst X227 hx (1 : Int32) (hb hby at_207) (pc' := 208) rfl (by decide) ?_
                  refine o_goto X227 hx (hb hby at_208) (by decide) (pc' := 212) (by decide) ?_
                  refine o_iload X227 hx (hb hby at_212) (pc' := 214) rfl rfl ?_
                  refine o_iload X227 hx (hb hby at_214) (pc' := 216) rfl rfl ?_
                  refine o_iload X227 hx (hb hby at_216) (pc' := 218) rfl rfl ?_
                  refine o_lloadN X227 hx (hb hby at_218) (pc' := 219) rfl rfl ?_
                  refine o_lload X227 hx (hb hby at_219) (pc' := 221) rfl rfl ?_
                  refine o_lloadN X227 hx (hb hby at_221) (pc' := 222) rfl rfl ?_
                  refine o_lload X227 hx (hb hby at_222) (pc' := 224) rfl rfl ?_
                  refine o_lload X227 hx (hb hby at_224) (pc' := 226) rfl rfl ?_
                  refine o_lload X227 hx (hb hby at_226) (pc' := 228) rfl rfl ?_
                  refine o_callS X227 hx hZ 0 (argsL := [.int (1 : Int32), .int (1 : Int32), .int (1 : Int32), .int (1 : Int32), .int (2 : Int32), .int (0 : Int32), .long q0, .long (o0 q0 q1 q2 q3), .long q1, .long (1 : Int64), .long q2, .long (o1 q0 q1 q2 q3)]) (rest := []) hown (w 53 _ rfl) (w 54 _ rfl) (w 55 _ rfl) (w 56 _ rfl) (by decide) (rm10 l Z a0 hw [] (1 : Int32) (1 : Int32) (1 : Int32) (1 : Int32) (2 : Int32) (0 : Int32) q0 (o0 q0 q1 q2 q3) q1 (1 : Int64) q2 (o1 q0 q1 q2 q3) T183.heap n0 Z183 ) (by decide) (by decide) (cells' := 8) rfl (slots' := 33) rfl (by decide) (by decide) e227 (by rw [hml]; rfl) (lenOf pd_5 rfl) rfl rfl (hb hby at_228) (pc' := 231) rfl ?_
                  intro T228 v228 L228 X228 hQ228
                  obtain ⟨rfl, Nq228, e228⟩ := hQ228
                  have N228 := Fr.app N227 Nq228
                  show Go p e below _ (T228.setTop (mkF m 231 _ [.int (o3 (1 : Int32) (1 : Int32) (1 : Int32) (1 : Int32) (2 : Int32) (0 : Int32) q0 (o0 q0 q1 q2 q3) q1 (1 : Int64) q2 (o1 q0 q1 q2 q3))]))
                  by_cases hc231_229 : (o3 (1 : Int32) (1 : Int32) (1 : Int32) (1 : Int32) (2 : Int32) (0 : Int32) q0 (o0 q0 q1 q2 q3) q1 (1 : Int64) q2 (o1 q0 q1 q2 q3)) = (0 : Int32)
                  · refine o_ifN X228 hx (hb hby at_231) (teq hc231_229).2 (pc' := 234) rfl ?_
                    refine o_iconst X228 hx (0 : Int32) (hb hby at_234) (pc' := 235) rfl (by decide) ?_
                    rw [← hOWE]
                    exact o_retZ X228 hx rfl hlk hrt (hb hby at_235) (by decide) (by decide) (by rw [e228]; exact ⟨(by rw [o7, o10, o9, o8, if_neg hs16, if_neg hs26, if_neg hs45, if_neg hm120_102, if_neg hm137_184, if_pos hc231_229]), N228⟩)
                  · refine o_ifY X228 hx (hb hby at_231) (feq hc231_229).2 (by decide) (pc' := 236) (by decide) ?_
                    by_cases hs230 : (o4 q0 q1 q2 q3) = (0 : Int32)
                    · rw [hs230]
                      refine o_iload X228 hx (hb hby at_236) (pc' := 238) rfl rfl ?_
                      refine o_iload X228 hx (hb hby at_238) (pc' := 240) rfl rfl ?_
                      refine o_cmpY X228 hx (hb hby at_240) (tlt (by decide : (0 : Int32) < (3 : Int32))).1 (by decide) (pc' := 245) (by decide) ?_
                      refine o_iload X228 hx (hb hby at_245) (pc' := 247) rfl rfl ?_
                      refine o_ifN X228 hx (hb hby at_247) (teq (by decide : (0 : Int32) = (0 : Int32))).2 (pc' := 250) rfl ?_
                      refine o_iload X228 hx (hb hby at_250) (pc' := 252) rfl rfl ?_
                      refine o_goto X228 hx (hb hby at_252) (by decide) (pc' := 268) (by decide) ?_
                      refine o_istore X228 hx (hb hby at_268) (pc' := 270) rfl (L' := #[.val (.long q0), .second, .val (.long q1), .second, .val (.long q2), .second, .val (.int q3), .val (.int (3 : Int32)), .val (.int (0 : Int32)), .val (.int (o2 q0 q1 q2 q3)), .val (.long (o0 q0 q1 q2 q3)), .second, .val (.long (1 : Int64)), .second, .val (.long (o1 q0 q1 q2 q3)), .second, .val (.ref b4), .val (.ref b6), .val (.ref b8), .val (.ref b10), .val (.ref b12), .val (.int (1 : Int32)), .val (.int (2 : Int32)), .val (.int (0 : Int32)), .val (.int (1 : Int32)), .unset, .unset, .unset]) rfl ?_
                      refine o_aload X228 hx (hb hby at_270) (pc' := 272) rfl rfl rfl ?_
                      refine o_iload X228 hx (hb hby at_272) (pc' := 274) rfl rfl ?_
                      refine o_callV X228 hx hZ 0 (argsL := [.int (1 : Int32)]) (rest := []) (a := b12) hown (w 63 _ rfl) (w 64 _ rfl) (w 66 _ rfl) (w 65 _ rfl) (w 4 _ rfl) (w 67 _ rfl) (by decide) (rm13s30 l Z a0 hw [] _ _ _ _ _ _ _ _ _ _ _ _ _ _ _ _ _ _ _ _ _ _ _ _ _ _ T183.heap n0 Z183 P183_0 P183_1 P183_2 P183_3 P183_4 P183_5 g_b12 E223_b8 E223_b4 E223_b6 P183_6 On14_0 gn14_0 P183_7 gn14_1 P183_8 gn14_2 ne_b12_bn14_0 (Ne.symm ne_b8_b12) (Ne.symm ne_b8_bn14_0) (Ne.symm ne_b4_b12) (Ne.symm ne_b4_bn14_0) (Ne.symm ne_b4_b8) (Ne.symm ne_b6_b12) (Ne.symm ne_b6_bn14_0) (Ne.symm ne_b6_b8) ne_b4_b6 ne_b12_bn14_1 nn14_0_1 ne_b8_bn14_1 ne_b4_bn14_1 ne_b6_bn14_1 ne_b12_bn14_2 nn14_0_2 ne_b8_bn14_2 ne_b4_bn14_2 ne_b6_bn14_2 nn14_1_2) P183_0 (by decide) (by decide) (cells' := 8) rfl (slots' := 33) rfl (by decide) (by decide) e228 (by rw [hml]; rfl) (lenOf pd_10 rfl) rfl rfl (hb hby at_274) (pc' := 277) rfl ?_
                      intro T231 v231 L231 X231 hQ231
                      rcases hQ231 with ⟨hm274_232, hQ231⟩ | ⟨hm274_232, hQ231⟩
                      · obtain ⟨rfl, Nq231, Kq231, P231_0, P231_1, P231_2, P231_3, P231_4, P231_5, P231_6, P231_7, P231_8⟩ := hQ231
                        have N231 := Fr.app N228 Nq231
                        have E233_b4 := Exa.keep E223_b4 Kq231
                        have E233_b6 := Exa.keep E223_b6 Kq231
                        have E233_b8 := Exa.keep E223_b8 Kq231
                        have E233_b10 := Exa.keep E223_b10 Kq231
                        have Z231 : n0 ≤ T231.heap.size := Nat.le_trans Z183 Kq231.1
                        show Go p e below _ (T231.setTop (mkF m 277 _ []))
                        refine o_aload X231 hx (hb hby at_277) (pc' := 279) rfl rfl rfl ?_
                        refine o_aload X231 hx (hb hby at_279) (pc' := 281) rfl rfl rfl ?_
                        refine o_callV X231 hx hZ 0 (argsL := [.ref b4]) (rest := []) (a := b12) hown (w 48 _ rfl) (w 49 _ rfl) (w 51 _ rfl) (w 50 _ rfl) (w 4 _ rfl) (w 52 _ rfl) (by decide) (rm9s14 l Z a0 hw [] _ _ _ _ _ _ T231.heap n0 Z231 P231_0 P231_1 P231_5 E233_b8 E233_b6 E233_b4 P231_6 On14_0 ne_b12_bn14_0 (Ne.symm ne_b8_b12) (Ne.symm ne_b8_bn14_0) (Ne.symm ne_b6_b12) (Ne.symm ne_b6_bn14_0) (Ne.symm ne_b6_b8) (Ne.symm ne_b4_b12) (Ne.symm ne_b4_bn14_0) (Ne.symm ne_b4_b8) (Ne.symm ne_b4_b6)) P231_0 (by decide) (by decide) (cells' := 8) rfl (slots' := 33) rfl (by decide) (by decide) rfl (by rw [hml]; rfl) (lenOf pd_4 rfl) rfl rfl (hb hby at_281) (pc' := 284) rfl ?_
                        intro T234 v234 L234 X234 hQ234
                        obtain ⟨rfl, Nq234, e234⟩ := hQ234
                        have N234 := Fr.app N231 Nq234
                        show Go p e below _ (T234.setTop (mkF m 284 _ [.int (-1 : Int32)]))
                        refine o_istore X234 hx (hb hby at_284) (pc' := 286) rfl (L' := #[.val (.long q0), .second, .val (.long q1), .second, .val (.long q2), .second, .val (.int q3), .val (.int (3 : Int32)), .val (.int (0 : Int32)), .val (.int (o2 q0 q1 q2 q3)), .val (.long (o0 q0 q1 q2 q3)), .second, .val (.long (1 : Int64)), .second, .val (.long (o1 q0 q1 q2 q3)), .second, .val (.ref b4), .val (.ref b6), .val (.ref b8), .val (.ref b10), .val (.ref b12), .val (.int (1 : Int32)), .val (.int (2 : Int32)), .val (.int (0 : Int32)), .val (.int (1 : Int32)), .val (.int (-1 : Int32)), .unset, .unset]) rfl ?_
                        refine o_aload X234 hx (hb hby at_286) (pc' := 288) rfl rfl rfl ?_
                        refine o_aload X234 hx (hb hby at_288) (pc' := 290) rfl rfl rfl ?_
                        refine o_callV X234 hx hZ 0 (argsL := [.ref b6]) (rest := []) (a := b12) hown (w 48 _ rfl) (w 49 _ rfl) (w 51 _ rfl) (w 50 _ rfl) (w 4 _ rfl) (w 52 _ rfl) (by decide) (rm9s13 l Z a0 hw [] _ _ _ _ _ T231.heap n0 Z231 P231_0 P231_1 P231_5 E233_b8 E233_b6 P231_6 On14_0 ne_b12_bn14_0 (Ne.symm ne_b8_b12) (Ne.symm ne_b8_bn14_0) (Ne.symm ne_b6_b12) (Ne.symm ne_b6_bn14_0) (Ne.symm ne_b6_b8)) P231_0 (by decide) (by decide) (cells' := 8) rfl (slots' := 33) rfl (by decide) (by decide) e234 (by rw [hml]; rfl) (lenOf pd_4 rfl) rfl rfl (hb hby at_290) (pc' := 293) rfl ?_
                        intro T235 v235 L235 X235 hQ235
                        obtain ⟨rfl, Nq235, e235⟩ := hQ235
                        have N235 := Fr.app N234 Nq235
                        show Go p e below _ (T235.setTop (mkF m 293 _ [.int (1 : Int32)]))
                        refine o_istore X235 hx (hb hby at_293) (pc' := 295) rfl (L' := #[.val (.long q0), .second, .val (.long q1), .second, .val (.long q2), .second, .val (.int q3), .val (.int (3 : Int32)), .val (.int (0 : Int32)), .val (.int (o2 q0 q1 q2 q3)), .val (.long (o0 q0 q1 q2 q3)), .second, .val (.long (1 : Int64)), .second, .val (.long (o1 q0 q1 q2 q3)), .second, .val (.ref b4), .val (.ref b6), .val (.ref b8), .val (.ref b10), .val (.ref b12), .val (.int (1 : Int32)), .val (.int (2 : Int32)), .val (.int (0 : Int32)), .val (.int (1 : Int32)), .val (.int (-1 : Int32)), .val (.int (1 : Int32)), .unset]) rfl ?_
                        refine o_aload X235 hx (hb hby at_295) (pc' := 297) rfl rfl rfl ?_
                        refine o_aload X235 hx (hb hby at_297) (pc' := 299) rfl rfl rfl ?_
                        refine o_callV X235 hx hZ 0 (argsL := [.ref b8]) (rest := []) (a := b12) hown (w 48 _ rfl) (w 49 _ rfl) (w 51 _ rfl) (w 50 _ rfl) (w 4 _ rfl) (w 52 _ rfl) (by decide) (rm9s12 l Z a0 hw [] _ _ _ _ _ T231.heap n0 Z231 P231_0 P231_1 P231_5 E233_b8 E233_b6 P231_6 On14_0 ne_b12_bn14_0 (Ne.symm ne_b8_b12) (Ne.symm ne_b8_bn14_0) (Ne.symm ne_b6_b12) (Ne.symm ne_b6_bn14_0) (Ne.symm ne_b6_b8)) P231_0 (by decide) (by decide) (cells' := 8) rfl (slots' := 33) rfl (by decide) (by decide) e235 (by rw [hml]; rfl) (lenOf pd_4 rfl) rfl rfl (hb hby at_299) (pc' := 302) rfl ?_
                        intro T236 v236 L236 X236 hQ236
                        obtain ⟨rfl, Nq236, e236⟩ := hQ236
                        have N236 := Fr.app N235 Nq236
                        show Go p e below _ (T236.setTop (mkF m 302 _ [.int (0 : Int32)]))
                        refine o_istore X236 hx (hb hby at_302) (pc' := 304) rfl (L' := #[.val (.long q0), .second, .val (.long q1), .second, .val (.long q2), .second, .val (.int q3), .val (.int (3 : Int32)), .val (.int (0 : Int32)), .val (.int (o2 q0 q1 q2 q3)), .val (.long (o0 q0 q1 q2 q3)), .second, .val (.long (1 : Int64)), .second, .val (.long (o1 q0 q1 q2 q3)), .second, .val (.ref b4), .val (.ref b6), .val (.ref b8), .val (.ref b10), .val (.ref b12), .val (.int (1 : Int32)), .val (.int (2 : Int32)), .val (.int (0 : Int32)), .val (.int (1 : Int32)), .val (.int (-1 : Int32)), .val (.int (1 : Int32)), .val (.int (0 : Int32))]) rfl ?_
                        refine o_aload X236 hx (hb hby at_304) (pc' := 306) rfl rfl rfl ?_
                        refine o_aload X236 hx (hb hby at_306) (pc' := 308) rfl rfl rfl ?_
                        refine o_callV X236 hx hZ 0 (argsL := [.ref b10]) (rest := []) (a := b12) hown (w 48 _ rfl) (w 49 _ rfl) (w 51 _ rfl) (w 50 _ rfl) (w 4 _ rfl) (w 52 _ rfl) (by decide) (rm9s14 l Z a0 hw [] _ _ _ _ _ _ T231.heap n0 Z231 P231_0 P231_1 P231_5 E233_b8 E233_b6 E233_b10 P231_6 On14_0 ne_b12_bn14_0 (Ne.symm ne_b8_b12) (Ne.symm ne_b8_bn14_0) (Ne.symm ne_b6_b12) (Ne.symm ne_b6_bn14_0) (Ne.symm ne_b6_b8) (Ne.symm ne_b10_b12) (Ne.symm ne_b10_bn14_0) ne_b8_b10 ne_b6_b10) P231_0 (by decide) (by decide) (cells' := 8) rfl (slots' := 33) rfl (by decide) (by decide) e236 (by rw [hml]; rfl) (lenOf pd_4 rfl) rfl rfl (hb hby at_308) (pc' := 311) rfl ?_
                        intro T237 v237 L237 X237 hQ237
                        obtain ⟨rfl, Nq237, e237⟩ := hQ237
                        have N237 := Fr.app N236 Nq237
                        show Go p e below _ (T237.setTop (mkF m 311 _ [.int (-1 : Int32)]))
                        refine o_iconst X237 hx (-1 : Int32) (hb hby at_311) (pc' := 312) rfl (by decide) ?_
                        refine o_cmpY X237 hx (hb hby at_312) (teq (by decide : (-1 : Int32) = (-1 : Int32))).1 (by decide) (pc' := 317) (by decide) ?_
                        refine o_iload X237 hx (hb hby at_317) (pc' := 319) rfl rfl ?_
                        refine o_ifN X237 hx (hb hby at_319) (tlt (by decide : (0 : Int32) < (3 : Int32))).2.2.2 (pc' := 322) rfl ?_
                        refine o_iload X237 hx (hb hby at_322) (pc' := 324) rfl rfl ?_
                        refine o_ifY X237 hx (hb hby at_324) (teq (by decide : (0 : Int32) = (0 : Int32))).1 (by decide) (pc' := 331) (by decide) ?_
                        refine o_iconst X237 hx (0 : Int32) (hb hby at_331) (pc' := 332) rfl (by decide) ?_
                        refine o_iload X237 hx (hb hby at_332) (pc' := 334) rfl rfl ?_
                        refine o_iconst X237 hx (1 : Int32) (hb hby at_334) (pc' := 335) rfl (by decide) ?_
                        refine o_cmpN X237 hx (hb hby at_335) (tlt (by decide : (1 : Int32) < (3 : Int32))).2.2.2 (pc' := 338) rfl ?_
                        refine o_iload X237 hx (hb hby at_338) (pc' := 340) rfl rfl ?_
                        refine o_iconst X237 hx (1 : Int32) (hb hby at_340) (pc' := 341) rfl (by decide) ?_
                        refine o_cmpN X237 hx (hb hby at_341) (feq (by decide : ¬ ((0 : Int32) = (1 : Int32)))).1 (pc' := 344) rfl ?_
                        refine o_iconst X237 hx (1 : Int32) (hb hby at_344) (pc' := 345) rfl (by decide) ?_
                        refine o_goto X237 hx (hb hby at_345) (by decide) (pc' := 349) (by decide) ?_
                        refine o_iload X237 hx (hb hby at_349) (pc' := 351) rfl rfl ?_
                        refine o_iconst X237 hx (2 : Int32) (hb hby at_351) (pc' := 352) rfl (by decide) ?_
                        refine o_cmpN X237 hx (hb hby at_352) (tlt (by decide : (2 : Int32) < (3 : Int32))).2.2.2 (pc' := 355) rfl ?_
                        refine o_iload X237 hx (hb hby at_355) (pc' := 357) rfl rfl ?_
                        refine o_iconst X237 hx (2 : Int32) (hb hby at_357) (pc' := 358) rfl (by decide) ?_
                        refine o_cmpN X237 hx (hb hby at_358) (feq (by decide : ¬ ((0 : Int32) = (2 : Int32)))).1 (pc' := 361) rfl ?_
                        refine o_iconst X237 hx (1 : Int32) (hb hby at_361) (pc' := 362) rfl (by decide) ?_
                        refine o_goto X237 hx (hb hby at_362) (by decide) (pc' := 366) (by decide) ?_
                        refine o_iload X237 hx (hb hby at_366) (pc' := 368) rfl rfl ?_
                        refine o_iload X237 hx (hb hby at_368) (pc' := 370) rfl rfl ?_
                        refine o_iload X237 hx (hb hby at_370) (pc' := 372) rfl rfl ?_
                        refine o_lloadN X237 hx (hb hby at_372) (pc' := 373) rfl rfl ?_
                        refine o_lload X237 hx (hb hby at_373) (pc' := 375) rfl rfl ?_
                        refine o_lloadN X237 hx (hb hby at_375) (pc' := 376) rfl rfl ?_
                        refine o_lload X237 hx (hb hby at_376) (pc' := 378) rfl rfl ?_
                        refine o_lload X237 hx (hb hby at_378) (pc' := 380) rfl rfl ?_
                        refine o_lload X237 hx (hb hby at_380) (pc' := 382) rfl rfl ?_
                        refine o_callS X237 hx hZ 0 (argsL := [.int (0 : Int32), .int (1 : Int32), .int (1 : Int32), .int (-1 : Int32), .int (1 : Int32), .int (0 : Int32), .long q0, .long (o0 q0 q1 q2 q3), .long q1, .long (1 : Int64), .long q2, .long (o1 q0 q1 q2 q3)]) (rest := []) hown (w 53 _ rfl) (w 54 _ rfl) (w 55 _ rfl) (w 56 _ rfl) (by decide) (rm10 l Z a0 hw [] (0 : Int32) (1 : Int32) (1 : Int32) (-1 : Int32) (1 : Int32) (0 : Int32) q0 (o0 q0 q1 q2 q3) q1 (1 : Int64) q2 (o1 q0 q1 q2 q3) T231.heap n0 Z231 ) (by decide) (by decide) (cells' := 8) rfl (slots' := 33) rfl (by decide) (by decide) e237 (by rw [hml]; rfl) (lenOf pd_5 rfl) rfl rfl (hb hby at_382) (pc' := 385) rfl ?_
                        intro T238 v238 L238 X238 hQ238
                        obtain ⟨rfl, Nq238, e238⟩ := hQ238
                        have N238 := Fr.app N237 Nq238
                        show Go p e below _ (T238.setTop (mkF m 385 _ [.int (o3 (0 : Int32) (1 : Int32) (1 : Int32) (-1 : Int32) (1 : Int32) (0 : Int32) q0 (o0 q0 q1 q2 q3) q1 (1 : Int64) q2 (o1 q0 q1 q2 q3))]))
                        rw [← hOWE]
                        exact o_retZ X238 hx (own_narZ (o24 (0 : Int32) (1 : Int32) (1 : Int32) (-1 : Int32) (1 : Int32) (0 : Int32) q0 (o0 q0 q1 q2 q3) q1 (1 : Int64) q2 (o1 q0 q1 q2 q3))) hlk hrt (hb hby at_385) (by decide) (by decide) (by rw [e238]; exact ⟨(by rw [o7, o10, o9, o8, if_neg hs16, if_neg hs26, if_neg hs45, if_neg hm120_102, if_neg hm137_184, if_neg hc231_229, if_pos hs230, if_pos hm274_232]), N238⟩)
                      · obtain ⟨-, hQ231⟩ := hQ231.resolve_left (fun q => hm137_184 q.1)
                        obtain ⟨rfl, Nq231, Kq231, P231_0, P231_1, P231_2, P231_3, P231_4, P231_5, P231_6, P231_7, P231_8⟩ := hQ231
                        have N231 := Fr.app N228 Nq231
                        have E239_b4 := Exa.keep E223_b4 Kq231
                        have E239_b6 := Exa.keep E223_b6 Kq231
                        have E239_b8 := Exa.keep E223_b8 Kq231
                        have E239_b10 := Exa.keep E223_b10 Kq231
                        have Z231 : n0 ≤ T231.heap.size := Nat.le_trans Z183 Kq231.1
                        show Go p e below _ (T231.setTop (mkF m 277 _ []))
                        refine o_aload X231 hx (hb hby at_277) (pc' := 279) rfl rfl rfl ?_
                        refine o_aload X231 hx (hb hby at_279) (pc' := 281) rfl rfl rfl ?_
                        refine o_callV X231 hx hZ 0 (argsL := [.ref b4]) (rest := []) (a := b12) hown (w 48 _ rfl) (w 49 _ rfl) (w 51 _ rfl) (w 50 _ rfl) (w 4 _ rfl) (w 52 _ rfl) (by decide) (rm9s14 l Z a0 hw [] _ _ _ _ _ _ T231.heap n0 Z231 P231_0 P231_1 P231_5 E239_b8 E239_b6 E239_b4 P231_6 On14_0 ne_b12_bn14_0 (Ne.symm ne_b8_b12) (Ne.symm ne_b8_bn14_0) (Ne.symm ne_b6_b12) (Ne.symm ne_b6_bn14_0) (Ne.symm ne_b6_b8) (Ne.symm ne_b4_b12) (Ne.symm ne_b4_bn14_0) (Ne.symm ne_b4_b8) (Ne.symm ne_b4_b6)) P231_0 (by decide) (by decide) (cells' := 8) rfl (slots' := 33) rfl (by decide) (by decide) rfl (by rw [hml]; rfl) (lenOf pd_4 rfl) rfl rfl (hb hby at_281) (pc' := 284) rfl ?_
                        intro T240 v240 L240 X240 hQ240
                        obtain ⟨rfl, Nq240, e240⟩ := hQ240
                        have N240 := Fr.app N231 Nq240
                        show Go p e below _ (T240.setTop (mkF m 284 _ [.int (-1 : Int32)]))
                        refine o_istore X240 hx (hb hby at_284) (pc' := 286) rfl (L' := #[.val (.long q0), .second, .val (.long q1), .second, .val (.long q2), .second, .val (.int q3), .val (.int (3 : Int32)), .val (.int (0 : Int32)), .val (.int (o2 q0 q1 q2 q3)), .val (.long (o0 q0 q1 q2 q3)), .second, .val (.long (1 : Int64)), .second, .val (.long (o1 q0 q1 q2 q3)), .second, .val (.ref b4), .val (.ref b6), .val (.ref b8), .val (.ref b10), .val (.ref b12), .val (.int (1 : Int32)), .val (.int (2 : Int32)), .val (.int (0 : Int32)), .val (.int (1 : Int32)), .val (.int (-1 : Int32)), .unset, .unset]) rfl ?_
                        refine o_aload X240 hx (hb hby at_286) (pc' := 288) rfl rfl rfl ?_
                        refine o_aload X240 hx (hb hby at_288) (pc' := 290) rfl rfl rfl ?_
                        refine o_callV X240 hx hZ 0 (argsL := [.ref b6]) (rest := []) (a := b12) hown (w 48 _ rfl) (w 49 _ rfl) (w 51 _ rfl) (w 50 _ rfl) (w 4 _ rfl) (w 52 _ rfl) (by decide) (rm9s13 l Z a0 hw [] _ _ _ _ _ T231.heap n0 Z231 P231_0 P231_1 P231_5 E239_b8 E239_b6 P231_6 On14_0 ne_b12_bn14_0 (Ne.symm ne_b8_b12) (Ne.symm ne_b8_bn14_0) (Ne.symm ne_b6_b12) (Ne.symm ne_b6_bn14_0) (Ne.symm ne_b6_b8)) P231_0 (by decide) (by decide) (cells' := 8) rfl (slots' := 33) rfl (by decide) (by decide) e240 (by rw [hml]; rfl) (lenOf pd_4 rfl) rfl rfl (hb hby at_290) (pc' := 293) rfl ?_
                        intro T241 v241 L241 X241 hQ241
                        obtain ⟨rfl, Nq241, e241⟩ := hQ241
                        have N241 := Fr.app N240 Nq241
                        show Go p e below _ (T241.setTop (mkF m 293 _ [.int (1 : Int32)]))
                        refine o_istore X241 hx (hb hby at_293) (pc' := 295) rfl (L' := #[.val (.long q0), .second, .val (.long q1), .second, .val (.long q2), .second, .val (.int q3), .val (.int (3 : Int32)), .val (.int (0 : Int32)), .val (.int (o2 q0 q1 q2 q3)), .val (.long (o0 q0 q1 q2 q3)), .second, .val (.long (1 : Int64)), .second, .val (.long (o1 q0 q1 q2 q3)), .second, .val (.ref b4), .val (.ref b6), .val (.ref b8), .val (.ref b10), .val (.ref b12), .val (.int (1 : Int32)), .val (.int (2 : Int32)), .val (.int (0 : Int32)), .val (.int (1 : Int32)), .val (.int (-1 : Int32)), .val (.int (1 : Int32)), .unset]) rfl ?_
                        refine o_aload X241 hx (hb hby at_295) (pc' := 297) rfl rfl rfl ?_
                        refine o_aload X241 hx (hb hby at_297) (pc' := 299) rfl rfl rfl ?_
                        refine o_callV X241 hx hZ 0 (argsL := [.ref b8]) (rest := []) (a := b12) hown (w 48 _ rfl) (w 49 _ rfl) (w 51 _ rfl) (w 50 _ rfl) (w 4 _ rfl) (w 52 _ rfl) (by decide) (rm9s12 l Z a0 hw [] _ _ _ _ _ T231.heap n0 Z231 P231_0 P231_1 P231_5 E239_b8 E239_b6 P231_6 On14_0 ne_b12_bn14_0 (Ne.symm ne_b8_b12) (Ne.symm ne_b8_bn14_0) (Ne.symm ne_b6_b12) (Ne.symm ne_b6_bn14_0) (Ne.symm ne_b6_b8)) P231_0 (by decide) (by decide) (cells' := 8) rfl (slots' := 33) rfl (by decide) (by decide) e241 (by rw [hml]; rfl) (lenOf pd_4 rfl) rfl rfl (hb hby at_299) (pc' := 302) rfl ?_
                        intro T242 v242 L242 X242 hQ242
                        obtain ⟨rfl, Nq242, e242⟩ := hQ242
                        have N242 := Fr.app N241 Nq242
                        show Go p e below _ (T242.setTop (mkF m 302 _ [.int (0 : Int32)]))
                        refine o_istore X242 hx (hb hby at_302) (pc' := 304) rfl (L' := #[.val (.long q0), .second, .val (.long q1), .second, .val (.long q2), .second, .val (.int q3), .val (.int (3 : Int32)), .val (.int (0 : Int32)), .val (.int (o2 q0 q1 q2 q3)), .val (.long (o0 q0 q1 q2 q3)), .second, .val (.long (1 : Int64)), .second, .val (.long (o1 q0 q1 q2 q3)), .second, .val (.ref b4), .val (.ref b6), .val (.ref b8), .val (.ref b10), .val (.ref b12), .val (.int (1 : Int32)), .val (.int (2 : Int32)), .val (.int (0 : Int32)), .val (.int (1 : Int32)), .val (.int (-1 : Int32)), .val (.int (1 : Int32)), .val (.int (0 : Int32))]) rfl ?_
                        refine o_aload X242 hx (hb hby at_304) (pc' := 306) rfl rfl rfl ?_
                        refine o_aload X242 hx (hb hby at_306) (pc' := 308) rfl rfl rfl ?_
                        refine o_callV X242 hx hZ 0 (argsL := [.ref b10]) (rest := []) (a := b12) hown (w 48 _ rfl) (w 49 _ rfl) (w 51 _ rfl) (w 50 _ rfl) (w 4 _ rfl) (w 52 _ rfl) (by decide) (rm9s14 l Z a0 hw [] _ _ _ _ _ _ T231.heap n0 Z231 P231_0 P231_1 P231_5 E239_b8 E239_b6 E239_b10 P231_6 On14_0 ne_b12_bn14_0 (Ne.symm ne_b8_b12) (Ne.symm ne_b8_bn14_0) (Ne.symm ne_b6_b12) (Ne.symm ne_b6_bn14_0) (Ne.symm ne_b6_b8) (Ne.symm ne_b10_b12) (Ne.symm ne_b10_bn14_0) ne_b8_b10 ne_b6_b10) P231_0 (by decide) (by decide) (cells' := 8) rfl (slots' := 33) rfl (by decide) (by decide) e242 (by rw [hml]; rfl) (lenOf pd_4 rfl) rfl rfl (hb hby at_308) (pc' := 311) rfl ?_
                        intro T243 v243 L243 X243 hQ243
                        obtain ⟨rfl, Nq243, e243⟩ := hQ243
                        have N243 := Fr.app N242 Nq243
                        show Go p e below _ (T243.setTop (mkF m 311 _ [.int (-1 : Int32)]))
                        refine o_iconst X243 hx (-1 : Int32) (hb hby at_311) (pc' := 312) rfl (by decide) ?_
                        refine o_cmpY X243 hx (hb hby at_312) (teq (by decide : (-1 : Int32) = (-1 : Int32))).1 (by decide) (pc' := 317) (by decide) ?_
                        refine o_iload X243 hx (hb hby at_317) (pc' := 319) rfl rfl ?_
                        refine o_ifN X243 hx (hb hby at_319) (tlt (by decide : (0 : Int32) < (3 : Int32))).2.2.2 (pc' := 322) rfl ?_
                        refine o_iload X243 hx (hb hby at_322) (pc' := 324) rfl rfl ?_
                        refine o_ifY X243 hx (hb hby at_324) (teq (by decide : (0 : Int32) = (0 : Int32))).1 (by decide) (pc' := 331) (by decide) ?_
                        refine o_iconst X243 hx (0 : Int32) (hb hby at_331) (pc' := 332) rfl (by decide) ?_
                        refine o_iload X243 hx (hb hby at_332) (pc' := 334) rfl rfl ?_
                        refine o_iconst X243 hx (1 : Int32) (hb hby at_334) (pc' := 335) rfl (by decide) ?_
                        refine o_cmpN X243 hx (hb hby at_335) (tlt (by decide : (1 : Int32) < (3 : Int32))).2.2.2 (pc' := 338) rfl ?_
                        refine o_iload X243 hx (hb hby at_338) (pc' := 340) rfl rfl ?_
                        refine o_iconst X243 hx (1 : Int32) (hb hby at_340) (pc' := 341) rfl (by decide) ?_
                        refine o_cmpN X243 hx (hb hby at_341) (feq (by decide : ¬ ((0 : Int32) = (1 : Int32)))).1 (pc' := 344) rfl ?_
                        refine o_iconst X243 hx (1 : Int32) (hb hby at_344) (pc' := 345) rfl (by decide) ?_
                        refine o_goto X243 hx (hb hby at_345) (by decide) (pc' := 349) (by decide) ?_
                        refine o_iload X243 hx (hb hby at_349) (pc' := 351) rfl rfl ?_
                        refine o_iconst X243 hx (2 : Int32) (hb hby at_351) (pc' := 352) rfl (by decide) ?_
                        refine o_cmpN X243 hx (hb hby at_352) (tlt (by decide : (2 : Int32) < (3 : Int32))).2.2.2 (pc' := 355) rfl ?_
                        refine o_iload X243 hx (hb hby at_355) (pc' := 357) rfl rfl ?_
                        refine o_iconst X243 hx (2 : Int32) (hb hby at_357) (pc' := 358) rfl (by decide) ?_
                        refine o_cmpN X243 hx (hb hby at_358) (feq (by decide : ¬ ((0 : Int32) = (2 : Int32)))).1 (pc' := 361) rfl ?_
                        refine o_iconst X243 hx (1 : Int32) (hb hby at_361) (pc' := 362) rfl (by decide) ?_
                        refine o_goto X243 hx (hb hby at_362) (by decide) (pc' := 366) (by decide) ?_
                        refine o_iload X243 hx (hb hby at_366) (pc' := 368) rfl rfl ?_
                        refine o_iload X243 hx (hb hby at_368) (pc' := 370) rfl rfl ?_
                        refine o_iload X243 hx (hb hby at_370) (pc' := 372) rfl rfl ?_
                        refine o_lloadN X243 hx (hb hby at_372) (pc' := 373) rfl rfl ?_
                        refine o_lload X243 hx (hb hby at_373) (pc' := 375) rfl rfl ?_
                        refine o_lloadN X243 hx (hb hby at_375) (pc' := 376) rfl rfl ?_
                        refine o_lload X243 hx (hb hby at_376) (pc' := 378) rfl rfl ?_
                        refine o_lload X243 hx (hb hby at_378) (pc' := 380) rfl rfl ?_
                        refine o_lload X243 hx (hb hby at_380) (pc' := 382) rfl rfl ?_
                        refine o_callS X243 hx hZ 0 (argsL := [.int (0 : Int32), .int (1 : Int32), .int (1 : Int32), .int (-1 : Int32), .int (1 : Int32), .int (0 : Int32), .long q0, .long (o0 q0 q1 q2 q3), .long q1, .long (1 : Int64), .long q2, .long (o1 q0 q1 q2 q3)]) (rest := []) hown (w 53 _ rfl) (w 54 _ rfl) (w 55 _ rfl) (w 56 _ rfl) (by decide) (rm10 l Z a0 hw [] (0 : Int32) (1 : Int32) (1 : Int32) (-1 : Int32) (1 : Int32) (0 : Int32) q0 (o0 q0 q1 q2 q3) q1 (1 : Int64) q2 (o1 q0 q1 q2 q3) T231.heap n0 Z231 ) (by decide) (by decide) (cells' := 8) rfl (slots' := 33) rfl (by decide) (by decide) e243 (by rw [hml]; rfl) (lenOf pd_5 rfl) rfl rfl (hb hby at_382) (pc' := 385) rfl ?_
                        intro T244 v244 L244 X244 hQ244
                        obtain ⟨rfl, Nq244, e244⟩ := hQ244
                        have N244 := Fr.app N243 Nq244
                        show Go p e below _ (T244.setTop (mkF m 385 _ [.int (o3 (0 : Int32) (1 : Int32) (1 : Int32) (-1 : Int32) (1 : Int32) (0 : Int32) q0 (o0 q0 q1 q2 q3) q1 (1 : Int64) q2 (o1 q0 q1 q2 q3))]))
                        rw [← hOWE]
                        exact o_retZ X244 hx (own_narZ (o24 (0 : Int32) (1 : Int32) (1 : Int32) (-1 : Int32) (1 : Int32) (0 : Int32) q0 (o0 q0 q1 q2 q3) q1 (1 : Int64) q2 (o1 q0 q1 q2 q3))) hlk hrt (hb hby at_385) (by decide) (by decide) (by rw [e244]; exact ⟨(by rw [o7, o10, o9, o8, if_neg hs16, if_neg hs26, if_neg hs45, if_neg hm120_102, if_neg hm137_184, if_neg hc231_229, if_pos hs230, if_neg hm274_232]), N244⟩)
                    · by_cases hs245 : (o4 q0 q1 q2 q3) = (1 : Int32)
                      · rw [hs245]
                        refine o_iload X228 hx (hb hby at_236) (pc' := 238) rfl rfl ?_
                        refine o_iload X228 hx (hb hby at_238) (pc' := 240) rfl rfl ?_
                        refine o_cmpY X228 hx (hb hby at_240) (tlt (by decide : (1 : Int32) < (3 : Int32))).1 (by decide) (pc' := 245) (by decide) ?_
                        refine o_iload X228 hx (hb hby at_245) (pc' := 247) rfl rfl ?_
                        refine o_ifY X228 hx (hb hby at_247) (feq (by decide : ¬ ((1 : Int32) = (0 : Int32)))).2 (by decide) (pc' := 255) (by decide) ?_
                        refine o_iload X228 hx (hb hby at_255) (pc' := 257) rfl rfl ?_
                        refine o_iconst X228 hx (1 : Int32) (hb hby at_257) (pc' := 258) rfl (by decide) ?_
                        refine o_cmpN X228 hx (hb hby at_258) (teq (by decide : (1 : Int32) = (1 : Int32))).2 (pc' := 261) rfl ?_
                        refine o_iload X228 hx (hb hby at_261) (pc' := 263) rfl rfl ?_
                        refine o_goto X228 hx (hb hby at_263) (by decide) (pc' := 268) (by decide) ?_
                        refine o_istore X228 hx (hb hby at_268) (pc' := 270) rfl (L' := #[.val (.long q0), .second, .val (.long q1), .second, .val (.long q2), .second, .val (.int q3), .val (.int (3 : Int32)), .val (.int (1 : Int32)), .val (.int (o2 q0 q1 q2 q3)), .val (.long (o0 q0 q1 q2 q3)), .second, .val (.long (1 : Int64)), .second, .val (.long (o1 q0 q1 q2 q3)), .second, .val (.ref b4), .val (.ref b6), .val (.ref b8), .val (.ref b10), .val (.ref b12), .val (.int (1 : Int32)), .val (.int (2 : Int32)), .val (.int (0 : Int32)), .val (.int (2 : Int32)), .unset, .unset, .unset]) rfl ?_
                        refine o_aload X228 hx (hb hby at_270) (pc' := 272) rfl rfl rfl ?_
                        refine o_iload X228 hx (hb hby at_272) (pc' := 274) rfl rfl ?_
                        refine o_callV X228 hx hZ 0 (argsL := [.int (2 : Int32)]) (rest := []) (a := b12) hown (w 63 _ rfl) (w 64 _ rfl) (w 66 _ rfl) (w 65 _ rfl) (w 4 _ rfl) (w 67 _ rfl) (by decide) (rm13s33 l Z a0 hw [] _ _ _ _ _ _ _ _ _ _ _ _ _ _ _ _ _ _ _ _ _ _ _ _ _ _ T183.heap n0 Z183 P183_0 P183_1 P183_2 P183_3 P183_4 P183_5 g_b12 E223_b8 E223_b4 E223_b6 P183_6 On14_0 gn14_0 P183_7 gn14_1 P183_8 gn14_2 ne_b12_bn14_0 (Ne.symm ne_b8_b12) (Ne.symm ne_b8_bn14_0) (Ne.symm ne_b4_b12) (Ne.symm ne_b4_bn14_0) (Ne.symm ne_b4_b8) (Ne.symm ne_b6_b12) (Ne.symm ne_b6_bn14_0) (Ne.symm ne_b6_b8) ne_b4_b6 ne_b12_bn14_1 nn14_0_1 ne_b8_bn14_1 ne_b4_bn14_1 ne_b6_bn14_1 ne_b12_bn14_2 nn14_0_2 ne_b8_bn14_2 ne_b4_bn14_2 ne_b6_bn14_2 nn14_1_2) P183_0 (by decide) (by decide) (cells' := 8) rfl (slots' := 33) rfl (by decide) (by decide) e228 (by rw [hml]; rfl) (lenOf pd_10 rfl) rfl rfl (hb hby at_274) (pc' := 277) rfl ?_
                        intro T246 v246 L246 X246 hQ246
                        obtain ⟨rfl, Nq246, Kq246, P246_0, P246_1, P246_2, P246_3, P246_4, P246_5, P246_6, P246_7, P246_8⟩ := hQ246
                        have N246 := Fr.app N228 Nq246
                        have E247_b4 := Exa.keep E223_b4 Kq246
                        have E247_b6 := Exa.keep E223_b6 Kq246
                        have E247_b8 := Exa.keep E223_b8 Kq246
                        have E247_b10 := Exa.keep E223_b10 Kq246
                        have Z246 : n0 ≤ T246.heap.size := Nat.le_trans Z183 Kq246.1
                        show Go p e below _ (T246.setTop (mkF m 277 _ []))
                        refine o_aload X246 hx (hb hby at_277) (pc' := 279) rfl rfl rfl ?_
                        refine o_aload X246 hx (hb hby at_279) (pc' := 281) rfl rfl rfl ?_
                        refine o_callV X246 hx hZ 0 (argsL := [.ref b4]) (rest := []) (a := b12) hown (w 48 _ rfl) (w 49 _ rfl) (w 51 _ rfl) (w 50 _ rfl) (w 4 _ rfl) (w 52 _ rfl) (by decide) (rm9s13 l Z a0 hw [] _ _ _ _ _ T246.heap n0 Z246 P246_0 P246_1 P246_5 E247_b8 E247_b4 P246_6 On14_0 ne_b12_bn14_0 (Ne.symm ne_b8_b12) (Ne.symm ne_b8_bn14_0) (Ne.symm ne_b4_b12) (Ne.symm ne_b4_bn14_0) (Ne.symm ne_b4_b8)) P246_0 (by decide) (by decide) (cells' := 8) rfl (slots' := 33) rfl (by decide) (by decide) rfl (by rw [hml]; rfl) (lenOf pd_4 rfl) rfl rfl (hb hby at_281) (pc' := 284) rfl ?_
                        intro T248 v248 L248 X248 hQ248
                        obtain ⟨rfl, Nq248, e248⟩ := hQ248
                        have N248 := Fr.app N246 Nq248
                        show Go p e below _ (T248.setTop (mkF m 284 _ [.int (1 : Int32)]))
                        refine o_istore X248 hx (hb hby at_284) (pc' := 286) rfl (L' := #[.val (.long q0), .second, .val (.long q1), .second, .val (.long q2), .second, .val (.int q3), .val (.int (3 : Int32)), .val (.int (1 : Int32)), .val (.int (o2 q0 q1 q2 q3)), .val (.long (o0 q0 q1 q2 q3)), .second, .val (.long (1 : Int64)), .second, .val (.long (o1 q0 q1 q2 q3)), .second, .val (.ref b4), .val (.ref b6), .val (.ref b8), .val (.ref b10), .val (.ref b12), .val (.int (1 : Int32)), .val (.int (2 : Int32)), .val (.int (0 : Int32)), .val (.int (2 : Int32)), .val (.int (1 : Int32)), .unset, .unset]) rfl ?_
                        refine o_aload X248 hx (hb hby at_286) (pc' := 288) rfl rfl rfl ?_
                        refine o_aload X248 hx (hb hby at_288) (pc' := 290) rfl rfl rfl ?_
                        refine o_callV X248 hx hZ 0 (argsL := [.ref b6]) (rest := []) (a := b12) hown (w 48 _ rfl) (w 49 _ rfl) (w 51 _ rfl) (w 50 _ rfl) (w 4 _ rfl) (w 52 _ rfl) (by decide) (rm9s14 l Z a0 hw [] _ _ _ _ _ _ T246.heap n0 Z246 P246_0 P246_1 P246_5 E247_b8 E247_b4 E247_b6 P246_6 On14_0 ne_b12_bn14_0 (Ne.symm ne_b8_b12) (Ne.symm ne_b8_bn14_0) (Ne.symm ne_b4_b12) (Ne.symm ne_b4_bn14_0) (Ne.symm ne_b4_b8) (Ne.symm ne_b6_b12) (Ne.symm ne_b6_bn14_0) (Ne.symm ne_b6_b8) ne_b4_b6) P246_0 (by decide) (by decide) (cells' := 8) rfl (slots' := 33) rfl (by decide) (by decide) e248 (by rw [hml]; rfl) (lenOf pd_4 rfl) rfl rfl (hb hby at_290) (pc' := 293) rfl ?_
                        intro T249 v249 L249 X249 hQ249
                        obtain ⟨rfl, Nq249, e249⟩ := hQ249
                        have N249 := Fr.app N248 Nq249
                        show Go p e below _ (T249.setTop (mkF m 293 _ [.int (-1 : Int32)]))
                        refine o_istore X249 hx (hb hby at_293) (pc' := 295) rfl (L' := #[.val (.long q0), .second, .val (.long q1), .second, .val (.long q2), .second, .val (.int q3), .val (.int (3 : Int32)), .val (.int (1 : Int32)), .val (.int (o2 q0 q1 q2 q3)), .val (.long (o0 q0 q1 q2 q3)), .second, .val (.long (1 : Int64)), .second, .val (.long (o1 q0 q1 q2 q3)), .second, .val (.ref b4), .val (.ref b6), .val (.ref b8), .val (.ref b10), .val (.ref b12), .val (.int (1 : Int32)), .val (.int (2 : Int32)), .val (.int (0 : Int32)), .val (.int (2 : Int32)), .val (.int (1 : Int32)), .val (.int (-1 : Int32)), .unset]) rfl ?_
                        refine o_aload X249 hx (hb hby at_295) (pc' := 297) rfl rfl rfl ?_
                        refine o_aload X249 hx (hb hby at_297) (pc' := 299) rfl rfl rfl ?_
                        refine o_callV X249 hx hZ 0 (argsL := [.ref b8]) (rest := []) (a := b12) hown (w 48 _ rfl) (w 49 _ rfl) (w 51 _ rfl) (w 50 _ rfl) (w 4 _ rfl) (w 52 _ rfl) (by decide) (rm9s12 l Z a0 hw [] _ _ _ _ _ T246.heap n0 Z246 P246_0 P246_1 P246_5 E247_b8 E247_b4 P246_6 On14_0 ne_b12_bn14_0 (Ne.symm ne_b8_b12) (Ne.symm ne_b8_bn14_0) (Ne.symm ne_b4_b12) (Ne.symm ne_b4_bn14_0) (Ne.symm ne_b4_b8)) P246_0 (by decide) (by decide) (cells' := 8) rfl (slots' := 33) rfl (by decide) (by decide) e249 (by rw [hml]; rfl) (lenOf pd_4 rfl) rfl rfl (hb hby at_299) (pc' := 302) rfl ?_
                        intro T250 v250 L250 X250 hQ250
                        obtain ⟨rfl, Nq250, e250⟩ := hQ250
                        have N250 := Fr.app N249 Nq250
                        show Go p e below _ (T250.setTop (mkF m 302 _ [.int (0 : Int32)]))
                        refine o_istore X250 hx (hb hby at_302) (pc' := 304) rfl (L' := #[.val (.long q0), .second, .val (.long q1), .second, .val (.long q2), .second, .val (.int q3), .val (.int (3 : Int32)), .val (.int (1 : Int32)), .val (.int (o2 q0 q1 q2 q3)), .val (.long (o0 q0 q1 q2 q3)), .second, .val (.long (1 : Int64)), .second, .val (.long (o1 q0 q1 q2 q3)), .second, .val (.ref b4), .val (.ref b6), .val (.ref b8), .val (.ref b10), .val (.ref b12), .val (.int (1 : Int32)), .val (.int (2 : Int32)), .val (.int (0 : Int32)), .val (.int (2 : Int32)), .val (.int (1 : Int32)), .val (.int (-1 : Int32)), .val (.int (0 : Int32))]) rfl ?_
                        refine o_aload X250 hx (hb hby at_304) (pc' := 306) rfl rfl rfl ?_
                        refine o_aload X250 hx (hb hby at_306) (pc' := 308) rfl rfl rfl ?_
                        refine o_callV X250 hx hZ 0 (argsL := [.ref b10]) (rest := []) (a := b12) hown (w 48 _ rfl) (w 49 _ rfl) (w 51 _ rfl) (w 50 _ rfl) (w 4 _ rfl) (w 52 _ rfl) (by decide) (rm9s14 l Z a0 hw [] _ _ _ _ _ _ T246.heap n0 Z246 P246_0 P246_1 P246_5 E247_b8 E247_b4 E247_b10 P246_6 On14_0 ne_b12_bn14_0 (Ne.symm ne_b8_b12) (Ne.symm ne_b8_bn14_0) (Ne.symm ne_b4_b12) (Ne.symm ne_b4_bn14_0) (Ne.symm ne_b4_b8) (Ne.symm ne_b10_b12) (Ne.symm ne_b10_bn14_0) ne_b8_b10 ne_b4_b10) P246_0 (by decide) (by decide) (cells' := 8) rfl (slots' := 33) rfl (by decide) (by decide) e250 (by rw [hml]; rfl) (lenOf pd_4 rfl) rfl rfl (hb hby at_308) (pc' := 311) rfl ?_
                        intro T251 v251 L251 X251 hQ251
                        obtain ⟨rfl, Nq251, e251⟩ := hQ251
                        have N251 := Fr.app N250 Nq251
                        show Go p e below _ (T251.setTop (mkF m 311 _ [.int (-1 : Int32)]))
                        refine o_iconst X251 hx (-1 : Int32) (hb hby at_311) (pc' := 312) rfl (by decide) ?_
                        refine o_cmpY X251 hx (hb hby at_312) (teq (by decide : (-1 : Int32) = (-1 : Int32))).1 (by decide) (pc' := 317) (by decide) ?_
                        refine o_iload X251 hx (hb hby at_317) (pc' := 319) rfl rfl ?_
                        refine o_ifN X251 hx (hb hby at_319) (tlt (by decide : (0 : Int32) < (3 : Int32))).2.2.2 (pc' := 322) rfl ?_
                        refine o_iload X251 hx (hb hby at_322) (pc' := 324) rfl rfl ?_
                        refine o_ifN X251 hx (hb hby at_324) (feq (by decide : ¬ ((1 : Int32) = (0 : Int32)))).1 (pc' := 327) rfl ?_
                        refine o_iconst X251 hx (1 : Int32) (hb hby at_327) (pc' := 328) rfl (by decide) ?_
                        refine o_goto X251 hx (hb hby at_328) (by decide) (pc' := 332) (by decide) ?_
                        refine o_iload X251 hx (hb hby at_332) (pc' := 334) rfl rfl ?_
                        refine o_iconst X251 hx (1 : Int32) (hb hby at_334) (pc' := 335) rfl (by decide) ?_
                        refine o_cmpN X251 hx (hb hby at_335) (tlt (by decide : (1 : Int32) < (3 : Int32))).2.2.2 (pc' := 338) rfl ?_
                        refine o_iload X251 hx (hb hby at_338) (pc' := 340) rfl rfl ?_
                        refine o_iconst X251 hx (1 : Int32) (hb hby at_340) (pc' := 341) rfl (by decide) ?_
                        refine o_cmpY X251 hx (hb hby at_341) (teq (by decide : (1 : Int32) = (1 : Int32))).1 (by decide) (pc' := 348) (by decide) ?_
                        refine o_iconst X251 hx (0 : Int32) (hb hby at_348) (pc' := 349) rfl (by decide) ?_
                        refine o_iload X251 hx (hb hby at_349) (pc' := 351) rfl rfl ?_
                        refine o_iconst X251 hx (2 : Int32) (hb hby at_351) (pc' := 352) rfl (by decide) ?_
                        refine o_cmpN X251 hx (hb hby at_352) (tlt (by decide : (2 : Int32) < (3 : Int32))).2.2.2 (pc' := 355) rfl ?_
                        refine o_iload X251 hx (hb hby at_355) (pc' := 357) rfl rfl ?_
                        refine o_iconst X251 hx (2 : Int32) (hb hby at_357) (pc' := 358) rfl (by decide) ?_
                        refine o_cmpN X251 hx (hb hby at_358) (feq (by decide : ¬ ((1 : Int32) = (2 : Int32)))).1 (pc' := 361) rfl ?_
                        refine o_iconst X251 hx (1 : Int32) (hb hby at_361) (pc' := 362) rfl (by decide) ?_
                        refine o_goto X251 hx (hb hby at_362) (by decide) (pc' := 366) (by decide) ?_
                        refine o_iload X251 hx (hb hby at_366) (pc' := 368) rfl rfl ?_
                        refine o_iload X251 hx (hb hby at_368) (pc' := 370) rfl rfl ?_
                        refine o_iload X251 hx (hb hby at_370) (pc' := 372) rfl rfl ?_
                        refine o_lloadN X251 hx (hb hby at_372) (pc' := 373) rfl rfl ?_
                        refine o_lload X251 hx (hb hby at_373) (pc' := 375) rfl rfl ?_
                        refine o_lloadN X251 hx (hb hby at_375) (pc' := 376) rfl rfl ?_
                        refine o_lload X251 hx (hb hby at_376) (pc' := 378) rfl rfl ?_
                        refine o_lload X251 hx (hb hby at_378) (pc' := 380) rfl rfl ?_
                        refine o_lload X251 hx (hb hby at_380) (pc' := 382) rfl rfl ?_
                        refine o_callS X251 hx hZ 0 (argsL := [.int (1 : Int32), .int (0 : Int32), .int (1 : Int32), .int (1 : Int32), .int (-1 : Int32), .int (0 : Int32), .long q0, .long (o0 q0 q1 q2 q3), .long q1, .long (1 : Int64), .long q2, .long (o1 q0 q1 q2 q3)]) (rest := []) hown (w 53 _ rfl) (w 54 _ rfl) (w 55 _ rfl) (w 56 _ rfl) (by decide) (rm10 l Z a0 hw [] (1 : Int32) (0 : Int32) (1 : Int32) (1 : Int32) (-1 : Int32) (0 : Int32) q0 (o0 q0 q1 q2 q3) q1 (1 : Int64) q2 (o1 q0 q1 q2 q3) T246.heap n0 Z246 ) (by decide) (by decide) (cells' := 8) rfl (slots' := 33) rfl (by decide) (by decide) e251 (by rw [hml]; rfl) (lenOf pd_5 rfl) rfl rfl (hb hby at_382) (pc' := 385) rfl ?_
                        intro T252 v252 L252 X252 hQ252
                        obtain ⟨rfl, Nq252, e252⟩ := hQ252
                        have N252 := Fr.app N251 Nq252
                        show Go p e below _ (T252.setTop (mkF m 385 _ [.int (o3 (1 : Int32) (0 : Int32) (1 : Int32) (1 : Int32) (-1 : Int32) (0 : Int32) q0 (o0 q0 q1 q2 q3) q1 (1 : Int64) q2 (o1 q0 q1 q2 q3))]))
                        rw [← hOWE]
                        exact o_retZ X252 hx (own_narZ (o24 (1 : Int32) (0 : Int32) (1 : Int32) (1 : Int32) (-1 : Int32) (0 : Int32) q0 (o0 q0 q1 q2 q3) q1 (1 : Int64) q2 (o1 q0 q1 q2 q3))) hlk hrt (hb hby at_385) (by decide) (by decide) (by rw [e252]; exact ⟨(by rw [o7, o10, o9, o8, if_neg hs16, if_neg hs26, if_neg hs45, if_neg hm120_102, if_neg hm137_184, if_neg hc231_229, if_neg hs230, if_pos hs245]), N252⟩)
                      · have hs253 : (o4 q0 q1 q2 q3) = (2 : Int32) := (((o46 q0 q1 q2 q3)).resolve_left hs230).resolve_left hs245
                        rw [hs253]
                        refine o_iload X228 hx (hb hby at_236) (pc' := 238) rfl rfl ?_
                        refine o_iload X228 hx (hb hby at_238) (pc' := 240) rfl rfl ?_
                        refine o_cmpY X228 hx (hb hby at_240) (tlt (by decide : (2 : Int32) < (3 : Int32))).1 (by decide) (pc' := 245) (by decide) ?_
                        refine o_iload X228 hx (hb hby at_245) (pc' := 247) rfl rfl ?_
                        refine o_ifY X228 hx (hb hby at_247) (feq (by decide : ¬ ((2 : Int32) = (0 : Int32)))).2 (by decide) (pc' := 255) (by decide) ?_
                        refine o_iload X228 hx (hb hby at_255) (pc' := 257) rfl rfl ?_
                        refine o_iconst X228 hx (1 : Int32) (hb hby at_257) (pc' := 258) rfl (by decide) ?_
                        refine o_cmpY X228 hx (hb hby at_258) (feq (by decide : ¬ ((2 : Int32) = (1 : Int32)))).2 (by decide) (pc' := 266) (by decide) ?_
                        refine o_iload X228 hx (hb hby at_266) (pc' := 268) rfl rfl ?_
                        refine o_istore X228 hx (hb hby at_268) (pc' := 270) rfl (L' := #[.val (.long q0), .second, .val (.long q1), .second, .val (.long q2), .second, .val (.int q3), .val (.int (3 : Int32)), .val (.int (2 : Int32)), .val (.int (o2 q0 q1 q2 q3)), .val (.long (o0 q0 q1 q2 q3)), .second, .val (.long (1 : Int64)), .second, .val (.long (o1 q0 q1 q2 q3)), .second, .val (.ref b4), .val (.ref b6), .val (.ref b8), .val (.ref b10), .val (.ref b12), .val (.int (1 : Int32)), .val (.int (2 : Int32)), .val (.int (0 : Int32)), .val (.int (0 : Int32)), .unset, .unset, .unset]) rfl ?_
                        refine o_aload X228 hx (hb hby at_270) (pc' := 272) rfl rfl rfl ?_
                        refine o_iload X228 hx (hb hby at_272) (pc' := 274) rfl rfl ?_
                        refine o_callV X228 hx hZ 0 (argsL := [.int (0 : Int32)]) (rest := []) (a := b12) hown (w 63 _ rfl) (w 64 _ rfl) (w 66 _ rfl) (w 65 _ rfl) (w 4 _ rfl) (w 67 _ rfl) (by decide) (rm13s27 l Z a0 hw [] _ _ _ _ _ _ _ _ _ _ _ _ _ _ _ _ _ _ _ _ _ _ _ _ _ _ T183.heap n0 Z183 P183_0 P183_1 P183_2 P183_3 P183_4 P183_5 g_b12 E223_b8 E223_b4 E223_b6 P183_6 On14_0 gn14_0 P183_7 gn14_1 P183_8 gn14_2 ne_b12_bn14_0 (Ne.symm ne_b8_b12) (Ne.symm ne_b8_bn14_0) (Ne.symm ne_b4_b12) (Ne.symm ne_b4_bn14_0) (Ne.symm ne_b4_b8) (Ne.symm ne_b6_b12) (Ne.symm ne_b6_bn14_0) (Ne.symm ne_b6_b8) ne_b4_b6 ne_b12_bn14_1 nn14_0_1 ne_b8_bn14_1 ne_b4_bn14_1 ne_b6_bn14_1 ne_b12_bn14_2 nn14_0_2 ne_b8_bn14_2 ne_b4_bn14_2 ne_b6_bn14_2 nn14_1_2) P183_0 (by decide) (by decide) (cells' := 8) rfl (slots' := 33) rfl (by decide) (by decide) e228 (by rw [hml]; rfl) (lenOf pd_10 rfl) rfl rfl (hb hby at_274) (pc' := 277) rfl ?_
                        intro T254 v254 L254 X254 hQ254
                        rcases hQ254 with ⟨hm274_255, hQ254⟩ | ⟨hm274_255, hQ254⟩
                        · obtain ⟨rfl, Nq254, Kq254, P254_0, P254_1, P254_2, P254_3, P254_4, P254_5, P254_6, P254_7, P254_8⟩ := hQ254
                          have N254 := Fr.app N228 Nq254
                          have E256_b4 := Exa.keep E223_b4 Kq254
                          have E256_b6 := Exa.keep E223_b6 Kq254
                          have E256_b8 := Exa.keep E223_b8 Kq254
                          have E256_b10 := Exa.keep E223_b10 Kq254
                          have Z254 : n0 ≤ T254.heap.size := Nat.le_trans Z183 Kq254.1
                          show Go p e below _ (T254.setTop (mkF m 277 _ []))
                          refine o_aload X254 hx (hb hby at_277) (pc' := 279) rfl rfl rfl ?_
                          refine o_aload X254 hx (hb hby at_279) (pc' := 281) rfl rfl rfl ?_
                          refine o_callV X254 hx hZ 0 (argsL := [.ref b4]) (rest := []) (a := b12) hown (w 48 _ rfl) (w 49 _ rfl) (w 51 _ rfl) (w 50 _ rfl) (w 4 _ rfl) (w 52 _ rfl) (by decide) (rm9s13 l Z a0 hw [] _ _ _ _ _ T254.heap n0 Z254 P254_0 P254_1 P254_5 E256_b6 E256_b4 P254_6 On14_0 ne_b12_bn14_0 (Ne.symm ne_b6_b12) (Ne.symm ne_b6_bn14_0) (Ne.symm ne_b4_b12) (Ne.symm ne_b4_bn14_0) (Ne.symm ne_b4_b6)) P254_0 (by decide) (by decide) (cells' := 8) rfl (slots' := 33) rfl (by decide) (by decide) rfl (by rw [hml]; rfl) (lenOf pd_4 rfl) rfl rfl (hb hby at_281) (pc' := 284) rfl ?_
                          intro T257 v257 L257 X257 hQ257
                          obtain ⟨rfl, Nq257, e257⟩ := hQ257
                          have N257 := Fr.app N254 Nq257
                          show Go p e below _ (T257.setTop (mkF m 284 _ [.int (1 : Int32)]))
                          refine o_istore X257 hx (hb hby at_284) (pc' := 286) rfl (L' := #[.val (.long q0), .second, .val (.long q1), .second, .val (.long q2), .second, .val (.int q3), .val (.int (3 : Int32)), .val (.int (2 : Int32)), .val (.int (o2 q0 q1 q2 q3)), .val (.long (o0 q0 q1 q2 q3)), .second, .val (.long (1 : Int64)), .second, .val (.long (o1 q0 q1 q2 q3)), .second, .val (.ref b4), .val (.ref b6), .val (.ref b8), .val (.ref b10), .val (.ref b12), .val (.int (1 : Int32)), .val (.int (2 : Int32)), .val (.int (0 : Int32)), .val (.int (0 : Int32)), .val (.int (1 : Int32)), .unset, .unset]) rfl ?_
                          refine o_aload X257 hx (hb hby at_286) (pc' := 288) rfl rfl rfl ?_
                          refine o_aload X257 hx (hb hby at_288) (pc' := 290) rfl rfl rfl ?_
                          refine o_callV X257 hx hZ 0 (argsL := [.ref b6]) (rest := []) (a := b12) hown (w 48 _ rfl) (w 49 _ rfl) (w 51 _ rfl) (w 50 _ rfl) (w 4 _ rfl) (w 52 _ rfl) (by decide) (rm9s12 l Z a0 hw [] _ _ _ _ _ T254.heap n0 Z254 P254_0 P254_1 P254_5 E256_b6 E256_b4 P254_6 On14_0 ne_b12_bn14_0 (Ne.symm ne_b6_b12) (Ne.symm ne_b6_bn14_0) (Ne.symm ne_b4_b12) (Ne.symm ne_b4_bn14_0) (Ne.symm ne_b4_b6)) P254_0 (by decide) (by decide) (cells' := 8) rfl (slots' := 33) rfl (by decide) (by decide) e257 (by rw [hml]; rfl) (lenOf pd_4 rfl) rfl rfl (hb hby at_290) (pc' := 293) rfl ?_
                          intro T258 v258 L258 X258 hQ258
                          obtain ⟨rfl, Nq258, e258⟩ := hQ258
                          have N258 := Fr.app N257 Nq258
                          show Go p e below _ (T258.setTop (mkF m 293 _ [.int (0 : Int32)]))
                          refine o_istore X258 hx (hb hby at_293) (pc' := 295) rfl (L' := #[.val (.long q0), .second, .val (.long q1), .second, .val (.long q2), .second, .val (.int q3), .val (.int (3 : Int32)), .val (.int (2 : Int32)), .val (.int (o2 q0 q1 q2 q3)), .val (.long (o0 q0 q1 q2 q3)), .second, .val (.long (1 : Int64)), .second, .val (.long (o1 q0 q1 q2 q3)), .second, .val (.ref b4), .val (.ref b6), .val (.ref b8), .val (.ref b10), .val (.ref b12), .val (.int (1 : Int32)), .val (.int (2 : Int32)), .val (.int (0 : Int32)), .val (.int (0 : Int32)), .val (.int (1 : Int32)), .val (.int (0 : Int32)), .unset]) rfl ?_
                          refine o_aload X258 hx (hb hby at_295) (pc' := 297) rfl rfl rfl ?_
                          refine o_aload X258 hx (hb hby at_297) (pc' := 299) rfl rfl rfl ?_
                          refine o_callV X258 hx hZ 0 (argsL := [.ref b8]) (rest := []) (a := b12) hown (w 48 _ rfl) (w 49 _ rfl) (w 51 _ rfl) (w 50 _ rfl) (w 4 _ rfl) (w 52 _ rfl) (by decide) (rm9s14 l Z a0 hw [] _ _ _ _ _ _ T254.heap n0 Z254 P254_0 P254_1 P254_5 E256_b6 E256_b4 E256_b8 P254_6 On14_0 ne_b12_bn14_0 (Ne.symm ne_b6_b12) (Ne.symm ne_b6_bn14_0) (Ne.symm ne_b4_b12) (Ne.symm ne_b4_bn14_0) (Ne.symm ne_b4_b6) (Ne.symm ne_b8_b12) (Ne.symm ne_b8_bn14_0) ne_b6_b8 ne_b4_b8) P254_0 (by decide) (by decide) (cells' := 8) rfl (slots' := 33) rfl (by decide) (by decide) e258 (by rw [hml]; rfl) (lenOf pd_4 rfl) rfl rfl (hb hby at_299) (pc' := 302) rfl ?_
                          intro T259 v259 L259 X259 hQ259
                          obtain ⟨rfl, Nq259, e259⟩ := hQ259
                          have N259 := Fr.app N258 Nq259
                          show Go p e below _ (T259.setTop (mkF m 302 _ [.int (-1 : Int32)]))
                          refine o_istore X259 hx (hb hby at_302) (pc' := 304) rfl (L' := #[.val (.long q0), .second, .val (.long q1), .second, .val (.long q2), .second, .val (.int q3), .val (.int (3 : Int32)), .val (.int (2 : Int32)), .val (.int (o2 q0 q1 q2 q3)), .val (.long (o0 q0 q1 q2 q3)), .second, .val (.long (1 : Int64)), .second, .val (.long (o1 q0 q1 q2 q3)), .second, .val (.ref b4), .val (.ref b6), .val (.ref b8), .val (.ref b10), .val (.ref b12), .val (.int (1 : Int32)), .val (.int (2 : Int32)), .val (.int (0 : Int32)), .val (.int (0 : Int32)), .val (.int (1 : Int32)), .val (.int (0 : Int32)), .val (.int (-1 : Int32))]) rfl ?_
                          refine o_aload X259 hx (hb hby at_304) (pc' := 306) rfl rfl rfl ?_
                          refine o_aload X259 hx (hb hby at_306) (pc' := 308) rfl rfl rfl ?_
                          refine o_callV X259 hx hZ 0 (argsL := [.ref b10]) (rest := []) (a := b12) hown (w 48 _ rfl) (w 49 _ rfl) (w 51 _ rfl) (w 50 _ rfl) (w 4 _ rfl) (w 52 _ rfl) (by decide) (rm9s14 l Z a0 hw [] _ _ _ _ _ _ T254.heap n0 Z254 P254_0 P254_1 P254_5 E256_b6 E256_b4 E256_b10 P254_6 On14_0 ne_b12_bn14_0 (Ne.symm ne_b6_b12) (Ne.symm ne_b6_bn14_0) (Ne.symm ne_b4_b12) (Ne.symm ne_b4_bn14_0) (Ne.symm ne_b4_b6) (Ne.symm ne_b10_b12) (Ne.symm ne_b10_bn14_0) ne_b6_b10 ne_b4_b10) P254_0 (by decide) (by decide) (cells' := 8) rfl (slots' := 33) rfl (by decide) (by decide) e259 (by rw [hml]; rfl) (lenOf pd_4 rfl) rfl rfl (hb hby at_308) (pc' := 311) rfl ?_
                          intro T260 v260 L260 X260 hQ260
                          obtain ⟨rfl, Nq260, e260⟩ := hQ260
                          have N260 := Fr.app N259 Nq260
                          show Go p e below _ (T260.setTop (mkF m 311 _ [.int (-1 : Int32)]))
                          refine o_iconst X260 hx (-1 : Int32) (hb hby at_311) (pc' := 312) rfl (by decide) ?_
                          refine o_cmpY X260 hx (hb hby at_312) (teq (by decide : (-1 : Int32) = (-1 : Int32))).1 (by decide) (pc' := 317) (by decide) ?_
                          refine o_iload X260 hx (hb hby at_317) (pc' := 319) rfl rfl ?_
                          refine o_ifN X260 hx (hb hby at_319) (tlt (by decide : (0 : Int32) < (3 : Int32))).2.2.2 (pc' := 322) rfl ?_
                          refine o_iload X260 hx (hb hby at_322) (pc' := 324) rfl rfl ?_
                          refine o_ifN X260 hx (hb hby at_324) (feq (by decide : ¬ ((2 : Int32) = (0 : Int32)))).1 (pc' := 327) rfl ?_
                          refine o_iconst X260 hx (1 : Int32) (hb hby at_327) (pc' := 328) rfl (by decide) ?_
                          refine o_goto X260 hx (hb hby at_328) (by decide) (pc' := 332) (by decide) ?_
                          refine o_iload X260 hx (hb hby at_332) (pc' := 334) rfl rfl ?_
                          refine o_iconst X260 hx (1 : Int32) (hb hby at_334) (pc' := 335) rfl (by decide) ?_
                          refine o_cmpN X260 hx (hb hby at_335) (tlt (by decide : (1 : Int32) < (3 : Int32))).2.2.2 (pc' := 338) rfl ?_
                          refine o_iload X260 hx (hb hby at_338) (pc' := 340) rfl rfl ?_
                          refine o_iconst X260 hx (1 : Int32) (hb hby at_340) (pc' := 341) rfl (by decide) ?_
                          refine o_cmpN X260 hx (hb hby at_341) (feq (by decide : ¬ ((2 : Int32) = (1 : Int32)))).1 (pc' := 344) rfl ?_
                          refine o_iconst X260 hx (1 : Int32) (hb hby at_344) (pc' := 345) rfl (by decide) ?_
                          refine o_goto X260 hx (hb hby at_345) (by decide) (pc' := 349) (by decide) ?_
                          refine o_iload X260 hx (hb hby at_349) (pc' := 351) rfl rfl ?_
                          refine o_iconst X260 hx (2 : Int32) (hb hby at_351) (pc' := 352) rfl (by decide) ?_
                          refine o_cmpN X260 hx (hb hby at_352) (tlt (by decide : (2 : Int32) < (3 : Int32))).2.2.2 (pc' := 355) rfl ?_
                          refine o_iload X260 hx (hb hby at_355) (pc' := 357) rfl rfl ?_
                          refine o_iconst X260 hx (2 : Int32) (hb hby at_357) (pc' := 358) rfl (by decide) ?_
                          refine o_cmpY X260 hx (hb hby at_358) (teq (by decide : (2 : Int32) = (2 : Int32))).1 (by decide) (pc' := 365) (by decide) ?_
                          refine o_iconst X260 hx (0 : Int32) (hb hby at_365) (pc' := 366) rfl (by decide) ?_
                          refine o_iload X260 hx (hb hby at_366) (pc' := 368) rfl rfl ?_
                          refine o_iload X260 hx (hb hby at_368) (pc' := 370) rfl rfl ?_
                          refine o_iload X260 hx (hb hby at_370) (pc' := 372) rfl rfl ?_
                          refine o_lloadN X260 hx (hb hby at_372) (pc' := 373) rfl rfl ?_
                          refine o_lload X260 hx (hb hby at_373) (pc' := 375) rfl rfl ?_
                          refine o_lloadN X260 hx (hb hby at_375) (pc' := 376) rfl rfl ?_
                          refine o_lload X260 hx (hb hby at_376) (pc' := 378) rfl rfl ?_
                          refine o_lload X260 hx (hb hby at_378) (pc' := 380) rfl rfl ?_
                          refine o_lload X260 hx (hb hby at_380) (pc' := 382) rfl rfl ?_
                          refine o_callS X260 hx hZ 0 (argsL := [.int (1 : Int32), .int (1 : Int32), .int (0 : Int32), .int (1 : Int32), .int (0 : Int32), .int (-1 : Int32), .long q0, .long (o0 q0 q1 q2 q3), .long q1, .long (1 : Int64), .long q2, .long (o1 q0 q1 q2 q3)]) (rest := []) hown (w 53 _ rfl) (w 54 _ rfl) (w 55 _ rfl) (w 56 _ rfl) (by decide) (rm10 l Z a0 hw [] (1 : Int32) (1 : Int32) (0 : Int32) (1 : Int32) (0 : Int32) (-1 : Int32) q0 (o0 q0 q1 q2 q3) q1 (1 : Int64) q2 (o1 q0 q1 q2 q3) T254.heap n0 Z254 ) (by decide) (by decide) (cells' := 8) rfl (slots' := 33) rfl (by decide) (by decide) e260 (by rw [hml]; rfl) (lenOf pd_5 rfl) rfl rfl (hb hby at_382) (pc' := 385) rfl ?_
                          intro T261 v261 L261 X261 hQ261
                          obtain ⟨rfl, Nq261, e261⟩ := hQ261
                          have N261 := Fr.app N260 Nq261
                          show Go p e below _ (T261.setTop (mkF m 385 _ [.int (o3 (1 : Int32) (1 : Int32) (0 : Int32) (1 : Int32) (0 : Int32) (-1 : Int32) q0 (o0 q0 q1 q2 q3) q1 (1 : Int64) q2 (o1 q0 q1 q2 q3))]))
                          rw [← hOWE]
                          exact o_retZ X261 hx (own_narZ (o24 (1 : Int32) (1 : Int32) (0 : Int32) (1 : Int32) (0 : Int32) (-1 : Int32) q0 (o0 q0 q1 q2 q3) q1 (1 : Int64) q2 (o1 q0 q1 q2 q3))) hlk hrt (hb hby at_385) (by decide) (by decide) (by rw [e261]; exact ⟨(by rw [o7, o10, o9, o8, if_neg hs16, if_neg hs26, if_neg hs45, if_neg hm120_102, if_neg hm137_184, if_neg hc231_229, if_neg hs230, if_neg hs245, if_pos hm274_255]), N261⟩)
                        · obtain ⟨rfl, Nq254, Kq254, P254_0, P254_1, P254_2, P254_3, P254_4, P254_5, P254_6, P254_7, P254_8⟩ := hQ254
                          have N254 := Fr.app N228 Nq254
                          have E262_b4 := Exa.keep E223_b4 Kq254
                          have E262_b6 := Exa.keep E223_b6 Kq254
                          have E262_b8 := Exa.keep E223_b8 Kq254
                          have E262_b10 := Exa.keep E223_b10 Kq254
                          have Z254 : n0 ≤ T254.heap.size := Nat.le_trans Z183 Kq254.1
                          show Go p e below _ (T254.setTop (mkF m 277 _ []))
                          refine o_aload X254 hx (hb hby at_277) (pc' := 279) rfl rfl rfl ?_
                          refine o_aload X254 hx (hb hby at_279) (pc' := 281) rfl rfl rfl ?_
                          refine o_callV X254 hx hZ 0 (argsL := [.ref b4]) (rest := []) (a := b12) hown (w 48 _ rfl) (w 49 _ rfl) (w 51 _ rfl) (w 50 _ rfl) (w 4 _ rfl) (w 52 _ rfl) (by decide) (rm9s12 l Z a0 hw [] _ _ _ _ _ T254.heap n0 Z254 P254_0 P254_1 P254_5 E262_b4 E262_b6 P254_6 On14_0 ne_b12_bn14_0 (Ne.symm ne_b4_b12) (Ne.symm ne_b4_bn14_0) (Ne.symm ne_b6_b12) (Ne.symm ne_b6_bn14_0) ne_b4_b6) P254_0 (by decide) (by decide) (cells' := 8) rfl (slots' := 33) rfl (by decide) (by decide) rfl (by rw [hml]; rfl) (lenOf pd_4 rfl) rfl rfl (hb hby at_281) (pc' := 284) rfl ?_
                          intro T263 v263 L263 X263 hQ263
                          obtain ⟨rfl, Nq263, e263⟩ := hQ263
                          have N263 := Fr.app N254 Nq263
                          show Go p e below _ (T263.setTop (mkF m 284 _ [.int (0 : Int32)]))
                          refine o_istore X263 hx (hb hby at_284) (pc' := 286) rfl (L' := #[.val (.long q0), .second, .val (.long q1), .second, .val (.long q2), .second, .val (.int q3), .val (.int (3 : Int32)), .val (.int (2 : Int32)), .val (.int (o2 q0 q1 q2 q3)), .val (.long (o0 q0 q1 q2 q3)), .second, .val (.long (1 : Int64)), .second, .val (.long (o1 q0 q1 q2 q3)), .second, .val (.ref b4), .val (.ref b6), .val (.ref b8), .val (.ref b10), .val (.ref b12), .val (.int (1 : Int32)), .val (.int (2 : Int32)), .val (.int (0 : Int32)), .val (.int (0 : Int32)), .val (.int (0 : Int32)), .unset, .unset]) rfl ?_
                          refine o_aload X263 hx (hb hby at_286) (pc' := 288) rfl rfl rfl ?_
                          refine o_aload X263 hx (hb hby at_288) (pc' := 290) rfl rfl rfl ?_
                          refine o_callV X263 hx hZ 0 (argsL := [.ref b6]) (rest := []) (a := b12) hown (w 48 _ rfl) (w 49 _ rfl) (w 51 _ rfl) (w 50 _ rfl) (w 4 _ rfl) (w 52 _ rfl) (by decide) (rm9s13 l Z a0 hw [] _ _ _ _ _ T254.heap n0 Z254 P254_0 P254_1 P254_5 E262_b4 E262_b6 P254_6 On14_0 ne_b12_bn14_0 (Ne.symm ne_b4_b12) (Ne.symm ne_b4_bn14_0) (Ne.symm ne_b6_b12) (Ne.symm ne_b6_bn14_0) ne_b4_b6) P254_0 (by decide) (by decide) (cells' := 8) rfl (slots' := 33) rfl (by decide) (by decide) e263 (by rw [hml]; rfl) (lenOf pd_4 rfl) rfl rfl (hb hby at_290) (pc' := 293) rfl ?_
                          intro T264 v264 L264 X264 hQ264
                          obtain ⟨rfl, Nq264, e264⟩ := hQ264
                          have N264 := Fr.app N263 Nq264
                          show Go p e below _ (T264.setTop (mkF m 293 _ [.int (1 : Int32)]))
                          refine o_istore X264 hx (hb hby at_293) (pc' := 295) rfl (L' := #[.val (.long q0), .second, .val (.long q1), .second, .val (.long q2), .second, .val (.int q3), .val (.int (3 : Int32)), .val (.int (2 : Int32)), .val (.int (o2 q0 q1 q2 q3)), .val (.long (o0 q0 q1 q2 q3)), .second, .val (.long (1 : Int64)), .second, .val (.long (o1 q0 q1 q2 q3)), .second, .val (.ref b4), .val (.ref b6), .val (.ref b8), .val (.ref b10), .val (.ref b12), .val (.int (1 : Int32)), .val (.int (2 : Int32)), .val (.int (0 : Int32)), .val (.int (0 : Int32)), .val (.int (0 : Int32)), .val (.int (1 : Int32)), .unset]) rfl ?_
                          refine o_aload X264 hx (hb hby at_295) (pc' := 297) rfl rfl rfl ?_
                          refine o_aload X264 hx (hb hby at_297) (pc' := 299) rfl rfl rfl ?_
                          refine o_callV X264 hx hZ 0 (argsL := [.ref b8]) (rest := []) (a := b12) hown (w 48 _ rfl) (w 49 _ rfl) (w 51 _ rfl) (w 50 _ rfl) (w 4 _ rfl) (w 52 _ rfl) (by decide) (rm9s14 l Z a0 hw [] _ _ _ _ _ _ T254.heap n0 Z254 P254_0 P254_1 P254_5 E262_b4 E262_b6 E262_b8 P254_6 On14_0 ne_b12_bn14_0 (Ne.symm ne_b4_b12) (Ne.symm ne_b4_bn14_0) (Ne.symm ne_b6_b12) (Ne.symm ne_b6_bn14_0) ne_b4_b6 (Ne.symm ne_b8_b12) (Ne.symm ne_b8_bn14_0) ne_b4_b8 ne_b6_b8) P254_0 (by decide) (by decide) (cells' := 8) rfl (slots' := 33) rfl (by decide) (by decide) e264 (by rw [hml]; rfl) (lenOf pd_4 rfl) rfl rfl (hb hby at_299) (pc' := 302) rfl ?_
                          intro T265 v265 L265 X265 hQ265
                          obtain ⟨rfl, Nq265, e265⟩ := hQ265
                          have N265 := Fr.app N264 Nq265
                          show Go p e below _ (T265.setTop (mkF m 302 _ [.int (-1 : Int32)]))
                          refine o_istore X265 hx (hb hby at_302) (pc' := 304) rfl (L' := #[.val (.long q0), .second, .val (.long q1), .second, .val (.long q2), .second, .val (.int q3), .val (.int (3 : Int32)), .val (.int (2 : Int32)), .val (.int (o2 q0 q1 q2 q3)), .val (.long (o0 q0 q1 q2 q3)), .second, .val (.long (1 : Int64)), .second, .val (.long (o1 q0 q1 q2 q3)), .second, .val (.ref b4), .val (.ref b6), .val (.ref b8), .val (.ref b10), .val (.ref b12), .val (.int (1 : Int32)), .val (.int (2 : Int32)), .val (.int (0 : Int32)), .val (.int (0 : Int32)), .val (.int (0 : Int32)), .val (.int (1 : Int32)), .val (.int (-1 : Int32))]) rfl ?_
                          refine o_aload X265 hx (hb hby at_304) (pc' := 306) rfl rfl rfl ?_
                          refine o_aload X265 hx (hb hby at_306) (pc' := 308) rfl rfl rfl ?_
                          refine o_callV X265 hx hZ 0 (argsL := [.ref b10]) (rest := []) (a := b12) hown (w 48 _ rfl) (w 49 _ rfl) (w 51 _ rfl) (w 50 _ rfl) (w 4 _ rfl) (w 52 _ rfl) (by decide) (rm9s14 l Z a0 hw [] _ _ _ _ _ _ T254.heap n0 Z254 P254_0 P254_1 P254_5 E262_b4 E262_b6 E262_b10 P254_6 On14_0 ne_b12_bn14_0 (Ne.symm ne_b4_b12) (Ne.symm ne_b4_bn14_0) (Ne.symm ne_b6_b12) (Ne.symm ne_b6_bn14_0) ne_b4_b6 (Ne.symm ne_b10_b12) (Ne.symm ne_b10_bn14_0) ne_b4_b10 ne_b6_b10) P254_0 (by decide) (by decide) (cells' := 8) rfl (slots' := 33) rfl (by decide) (by decide) e265 (by rw [hml]; rfl) (lenOf pd_4 rfl) rfl rfl (hb hby at_308) (pc' := 311) rfl ?_
                          intro T266 v266 L266 X266 hQ266
                          obtain ⟨rfl, Nq266, e266⟩ := hQ266
                          have N266 := Fr.app N265 Nq266
                          show Go p e below _ (T266.setTop (mkF m 311 _ [.int (-1 : Int32)]))
                          refine o_iconst X266 hx (-1 : Int32) (hb hby at_311) (pc' := 312) rfl (by decide) ?_
                          refine o_cmpY X266 hx (hb hby at_312) (teq (by decide : (-1 : Int32) = (-1 : Int32))).1 (by decide) (pc' := 317) (by decide) ?_
                          refine o_iload X266 hx (hb hby at_317) (pc' := 319) rfl rfl ?_
                          refine o_ifN X266 hx (hb hby at_319) (tlt (by decide : (0 : Int32) < (3 : Int32))).2.2.2 (pc' := 322) rfl ?_
                          refine o_iload X266 hx (hb hby at_322) (pc' := 324) rfl rfl ?_
                          refine o_ifN X266 hx (hb hby at_324) (feq (by decide : ¬ ((2 : Int32) = (0 : Int32)))).1 (pc' := 327) rfl ?_
                          refine o_iconst X266 hx (1 : Int32) (hb hby at_327) (pc' := 328) rfl (by decide) ?_
                          refine o_goto X266 hx (hb hby at_328) (by decide) (pc' := 332) (by decide) ?_
                          refine o_iload X266 hx (hb hby at_332) (pc' := 334) rfl rfl ?_
                          refine o_iconst X266 hx (1 : Int32) (hb hby at_334) (pc' := 335) rfl (by decide) ?_
                          refine o_cmpN X266 hx (hb hby at_335) (tlt (by decide : (1 : Int32) < (3 : Int32))).2.2.2 (pc' := 338) rfl ?_
                          refine o_iload X266 hx (hb hby at_338) (pc' := 340) rfl rfl ?_
                          refine o_iconst X266 hx (1 : Int32) (hb hby at_340) (pc' := 341) rfl (by decide) ?_
                          refine o_cmpN X266 hx (hb hby at_341) (feq (by decide : ¬ ((2 : Int32) = (1 : Int32)))).1 (pc' := 344) rfl ?_
                          refine o_iconst X266 hx (1 : Int32) (hb hby at_344) (pc' := 345) rfl (by decide) ?_
                          refine o_goto X266 hx (hb hby at_345) (by decide) (pc' := 349) (by decide) ?_
                          refine o_iload X266 hx (hb hby at_349) (pc' := 351) rfl rfl ?_
                          refine o_iconst X266 hx (2 : Int32) (hb hby at_351) (pc' := 352) rfl (by decide) ?_
                          refine o_cmpN X266 hx (hb hby at_352) (tlt (by decide : (2 : Int32) < (3 : Int32))).2.2.2 (pc' := 355) rfl ?_
                          refine o_iload X266 hx (hb hby at_355) (pc' := 357) rfl rfl ?_
                          refine o_iconst X266 hx (2 : Int32) (hb hby at_357) (pc' := 358) rfl (by decide) ?_
                          refine o_cmpY X266 hx (hb hby at_358) (teq (by decide : (2 : Int32) = (2 : Int32))).1 (by decide) (pc' := 365) (by decide) ?_
                          refine o_iconst X266 hx (0 : Int32) (hb hby at_365) (pc' := 366) rfl (by decide) ?_
                          refine o_iload X266 hx (hb hby at_366) (pc' := 368) rfl rfl ?_
                          refine o_iload X266 hx (hb hby at_368) (pc' := 370) rfl rfl ?_
                          refine o_iload X266 hx (hb hby at_370) (pc' := 372) rfl rfl ?_
                          refine o_lloadN X266 hx (hb hby at_372) (pc' := 373) rfl rfl ?_
                          refine o_lload X266 hx (hb hby at_373) (pc' := 375) rfl rfl ?_
                          refine o_lloadN X266 hx (hb hby at_375) (pc' := 376) rfl rfl ?_
                          refine o_lload X266 hx (hb hby at_376) (pc' := 378) rfl rfl ?_
                          refine o_lload X266 hx (hb hby at_378) (pc' := 380) rfl rfl ?_
                          refine o_lload X266 hx (hb hby at_380) (pc' := 382) rfl rfl ?_
                          refine o_callS X266 hx hZ 0 (argsL := [.int (1 : Int32), .int (1 : Int32), .int (0 : Int32), .int (0 : Int32), .int (1 : Int32), .int (-1 : Int32), .long q0, .long (o0 q0 q1 q2 q3), .long q1, .long (1 : Int64), .long q2, .long (o1 q0 q1 q2 q3)]) (rest := []) hown (w 53 _ rfl) (w 54 _ rfl) (w 55 _ rfl) (w 56 _ rfl) (by decide) (rm10 l Z a0 hw [] (1 : Int32) (1 : Int32) (0 : Int32) (0 : Int32) (1 : Int32) (-1 : Int32) q0 (o0 q0 q1 q2 q3) q1 (1 : Int64) q2 (o1 q0 q1 q2 q3) T254.heap n0 Z254 ) (by decide) (by decide) (cells' := 8) rfl (slots' := 33) rfl (by decide) (by decide) e266 (by rw [hml]; rfl) (lenOf pd_5 rfl) rfl rfl (hb hby at_382) (pc' := 385) rfl ?_
                          intro T267 v267 L267 X267 hQ267
                          obtain ⟨rfl, Nq267, e267⟩ := hQ267
                          have N267 := Fr.app N266 Nq267
                          show Go p e below _ (T267.setTop (mkF m 385 _ [.int (o3 (1 : Int32) (1 : Int32) (0 : Int32) (0 : Int32) (1 : Int32) (-1 : Int32) q0 (o0 q0 q1 q2 q3) q1 (1 : Int64) q2 (o1 q0 q1 q2 q3))]))
                          rw [← hOWE]
                          exact o_retZ X267 hx (own_narZ (o24 (1 : Int32) (1 : Int32) (0 : Int32) (0 : Int32) (1 : Int32) (-1 : Int32) q0 (o0 q0 q1 q2 q3) q1 (1 : Int64) q2 (o1 q0 q1 q2 q3))) hlk hrt (hb hby at_385) (by decide) (by decide) (by rw [e267]; exact ⟨(by rw [o7, o10, o9, o8, if_neg hs16, if_neg hs26, if_neg hs45, if_neg hm120_102, if_neg hm137_184, if_neg hc231_229, if_neg hs230, if_neg hs245, if_neg hm274_255]), N267⟩)
      by_cases hc51_3 : (o2 q0 q1 q2 q3) = (0 : Int32)
      · refine o_ifY X0 hx (hb hby at_51) (teq hc51_3).1 (by decide) (pc' := 58) (by decide) ?_
        refine o_ldcJ X0 hx hZ (2 : Int64) hown (w 0 _ rfl) (hb hby at_58) (pc' := 61) rfl ?_
        exact J61_3 ((2 : Int64)) (by rw [o1, if_pos hc51_3])
      · refine o_ifN X0 hx (hb hby at_51) (feq hc51_3).1 (pc' := 54) rfl ?_
        refine o_lconst X0 hx (0 : Int64) (hb hby at_54) (pc' := 55) rfl (by decide) ?_
        refine o_goto X0 hx (hb hby at_55) (by decide) (pc' := 61) (by decide) ?_
        exact J61_3 ((0 : Int64)) (by rw [o1, if_neg hc51_3])
    by_cases hc34_2 : (o2 q0 q1 q2 q3) = (0 : Int32)
    · refine o_ifY X0 hx (hb hby at_34) (teq hc34_2).1 (by decide) (pc' := 43) (by decide) ?_
      refine o_lconst X0 hx (0 : Int64) (hb hby at_43) (pc' := 44) rfl (by decide) ?_
      exact J44_2 ((0 : Int64)) (by rw [o0, if_pos hc34_2])
    · refine o_ifN X0 hx (hb hby at_34) (feq hc34_2).1 (pc' := 37) rfl ?_
      refine o_ldcJ X0 hx hZ (2 : Int64) hown (w 0 _ rfl) (hb hby at_37) (pc' := 40) rfl ?_
      refine o_goto X0 hx (hb hby at_40) (by decide) (pc' := 44) (by decide) ?_
      exact J44_2 ((2 : Int64)) (by rw [o0, if_neg hc34_2])
  by_cases hc22_1 : ((uI q3 (4 : Int32)) &&& (1 : Int32)) = (0 : Int32)
  · refine o_ifY X0 hx (hb hby at_22) (teq hc22_1).1 (by decide) (pc' := 29) (by decide) ?_
    refine o_iconst X0 hx (0 : Int32) (hb hby at_29) (pc' := 30) rfl (by decide) ?_
    exact J30_1 ((0 : Int32)) (by rw [o2, if_pos hc22_1])
  · refine o_ifN X0 hx (hb hby at_22) (feq hc22_1).1 (pc' := 25) rfl ?_
    refine o_iconst X0 hx (1 : Int32) (hb hby at_25) (pc' := 26) rfl (by decide) ?_
    refine o_goto X0 hx (hb hby at_26) (by decide) (pc' := 30) (by decide) ?_
    exact J30_1 ((1 : Int32)) (by rw [o2, if_neg hc22_1])
theorem o34 (x1 x2 x3 x4 : Int64) : o5 x1 x2 x3 x4 = 0 ↔ ¬ (x1.toInt < x3.toInt ∨ (x1.toInt = x3.toInt ∧ x2.toInt < x4.toInt)) := by
  unfold o5
  by_cases h1 : x1 < x3
  · rw [if_pos h1]
    exact ⟨fun q => absurd q (by decide), fun q => absurd (Or.inl (Int64.lt_iff_toInt_lt.mp h1)) q⟩
  · rw [if_neg h1]
    by_cases h2 : x1 = x3
    · rw [if_pos h2]
      by_cases h3 : x2 < x4
      · rw [if_pos h3]
        exact ⟨fun q => absurd q (by decide), fun q => absurd (Or.inr ⟨by rw [h2], Int64.lt_iff_toInt_lt.mp h3⟩) q⟩
      · rw [if_neg h3]
        exact ⟨fun _ q => q.elim (fun a => h1 (Int64.lt_iff_toInt_lt.mpr a)) (fun a => h3 (Int64.lt_iff_toInt_lt.mpr a.2)), fun _ => rfl⟩
    · rw [if_neg h2]
      exact ⟨fun _ q => q.elim (fun a => h1 (Int64.lt_iff_toInt_lt.mpr a)) (fun a => h2 (Int64.toInt_inj.mp a.1)), fun _ => rfl⟩
theorem o40 (x1 x2 x3 x4 : Int64) : o12 x1 x2 x3 x4 = 0 ↔ ¬ (x1.toInt < x3.toInt ∨ (x1.toInt = x3.toInt ∧ x2.toInt < x4.toInt)) := by
  unfold o12
  by_cases h1 : x1 < x3
  · rw [if_pos h1]
    exact ⟨fun q => absurd q (by decide), fun q => absurd (Or.inl (Int64.lt_iff_toInt_lt.mp h1)) q⟩
  · rw [if_neg h1]
    by_cases h2 : x1 = x3
    · rw [if_pos h2]
      by_cases h3 : x2 < x4
      · rw [if_pos h3]
        exact ⟨fun q => absurd q (by decide), fun q => absurd (Or.inr ⟨by rw [h2], Int64.lt_iff_toInt_lt.mp h3⟩) q⟩
      · rw [if_neg h3]
        exact ⟨fun _ q => q.elim (fun a => h1 (Int64.lt_iff_toInt_lt.mpr a)) (fun a => h3 (Int64.lt_iff_toInt_lt.mpr a.2)), fun _ => rfl⟩
    · rw [if_neg h2]
      exact ⟨fun _ q => q.elim (fun a => h1 (Int64.lt_iff_toInt_lt.mpr a)) (fun a => h2 (Int64.toInt_inj.mp a.1)), fun _ => rfl⟩
theorem o58 (a b c d f g : Int64)  : o3 (0 : Int32) (0 : Int32) (0 : Int32) (-1 : Int32) (-1 : Int32) (-1 : Int32) a b c d f g = 1 := by
  simp +decide only [o18, o25, o33, o6, o19, o26, o20, o13, o27, o21, o14, o28, o22, o15, o16, o17, o23, o29, o30, o31, o32, o3, o11, o40, if_true, if_false, ite_self]
  try (repeat' split)
  all_goals first | rfl | (exfalso; omega)
theorem o55 (a b c d f g : Int64)  : o3 (1 : Int32) (0 : Int32) (0 : Int32) (0 : Int32) (-1 : Int32) (-1 : Int32) a b c d f g = 1 := by
  simp +decide only [o18, o25, o33, o6, o19, o26, o20, o13, o27, o21, o14, o28, o22, o15, o16, o17, o23, o29, o30, o31, o32, o3, o11, o40, if_true, if_false, ite_self]
  try (repeat' split)
  all_goals first | rfl | (exfalso; omega)
theorem o51 (a b c d f g : Int64) (h1 : ¬ (c.toInt < a.toInt ∨ (c.toInt = a.toInt ∧ d.toInt < b.toInt))) : o3 (1 : Int32) (1 : Int32) (0 : Int32) (0 : Int32) (1 : Int32) (-1 : Int32) a b c d f g = 1 := by
  simp +decide only [o18, o25, o33, o6, o19, o26, o20, o13, o27, o21, o14, o28, o22, o15, o16, o17, o23, o29, o30, o31, o32, o3, o11, o40, if_true, if_false, ite_self]
  try (repeat' split)
  all_goals first | rfl | (exfalso; omega)
theorem o59 (a b c d f g : Int64)  : o3 (0 : Int32) (1 : Int32) (0 : Int32) (-1 : Int32) (0 : Int32) (-1 : Int32) a b c d f g = 1 := by
  simp +decide only [o18, o25, o33, o6, o19, o26, o20, o13, o27, o21, o14, o28, o22, o15, o16, o17, o23, o29, o30, o31, o32, o3, o11, o40, if_true, if_false, ite_self]
  try (repeat' split)
  all_goals first | rfl | (exfalso; omega)
theorem o56 (a b c d f g : Int64) (h0 : ¬ (a.toInt < c.toInt ∨ (a.toInt = c.toInt ∧ b.toInt < d.toInt))) : o3 (1 : Int32) (1 : Int32) (0 : Int32) (1 : Int32) (0 : Int32) (-1 : Int32) a b c d f g = 1 := by
  simp +decide only [o18, o25, o33, o6, o19, o26, o20, o13, o27, o21, o14, o28, o22, o15, o16, o17, o23, o29, o30, o31, o32, o3, o11, o40, if_true, if_false, ite_self]
  try (repeat' split)
  all_goals first | rfl | (exfalso; omega)
theorem o64 (a b c d f g : Int64) (h1 : ¬ (c.toInt < a.toInt ∨ (c.toInt = a.toInt ∧ d.toInt < b.toInt))) (h2 : ¬ (f.toInt < a.toInt ∨ (f.toInt = a.toInt ∧ g.toInt < b.toInt))) : o3 (1 : Int32) (1 : Int32) (1 : Int32) (0 : Int32) (1 : Int32) (2 : Int32) a b c d f g = 1 := by
  simp +decide only [o18, o25, o33, o6, o19, o26, o20, o13, o27, o21, o14, o28, o22, o15, o16, o17, o23, o29, o30, o31, o32, o3, o11, o40, if_true, if_false, ite_self]
  try (repeat' split)
  all_goals first | rfl | (exfalso; omega)
theorem o52 (a b c d f g : Int64) (h1 : ¬ (c.toInt < f.toInt ∨ (c.toInt = f.toInt ∧ d.toInt < g.toInt))) : o3 (0 : Int32) (1 : Int32) (1 : Int32) (-1 : Int32) (1 : Int32) (0 : Int32) a b c d f g = 1 := by
  simp +decide only [o18, o25, o33, o6, o19, o26, o20, o13, o27, o21, o14, o28, o22, o15, o16, o17, o23, o29, o30, o31, o32, o3, o11, o40, if_true, if_false, ite_self]
  try (repeat' split)
  all_goals first | rfl | (exfalso; omega)
theorem o60 (a b c d f g : Int64) (h2 : ¬ (f.toInt < c.toInt ∨ (f.toInt = c.toInt ∧ g.toInt < d.toInt))) : o3 (0 : Int32) (1 : Int32) (1 : Int32) (-1 : Int32) (0 : Int32) (1 : Int32) a b c d f g = 1 := by
  simp +decide only [o18, o25, o33, o6, o19, o26, o20, o13, o27, o21, o14, o28, o22, o15, o16, o17, o23, o29, o30, o31, o32, o3, o11, o40, if_true, if_false, ite_self]
  try (repeat' split)
  all_goals first | rfl | (exfalso; omega)
theorem o61 (a b c d f g : Int64) (h2 : ¬ (f.toInt < a.toInt ∨ (f.toInt = a.toInt ∧ g.toInt < b.toInt))) : o3 (1 : Int32) (0 : Int32) (1 : Int32) (0 : Int32) (-1 : Int32) (1 : Int32) a b c d f g = 1 := by
  simp +decide only [o18, o25, o33, o6, o19, o26, o20, o13, o27, o21, o14, o28, o22, o15, o16, o17, o23, o29, o30, o31, o32, o3, o11, o40, if_true, if_false, ite_self]
  try (repeat' split)
  all_goals first | rfl | (exfalso; omega)
theorem o65 (a b c d f g : Int64) (h0 : ¬ (a.toInt < f.toInt ∨ (a.toInt = f.toInt ∧ b.toInt < g.toInt))) (h1 : ¬ (c.toInt < f.toInt ∨ (c.toInt = f.toInt ∧ d.toInt < g.toInt))) : o3 (1 : Int32) (1 : Int32) (1 : Int32) (2 : Int32) (1 : Int32) (0 : Int32) a b c d f g = 1 := by
  simp +decide only [o18, o25, o33, o6, o19, o26, o20, o13, o27, o21, o14, o28, o22, o15, o16, o17, o23, o29, o30, o31, o32, o3, o11, o40, if_true, if_false, ite_self]
  try (repeat' split)
  all_goals first | rfl | (exfalso; omega)
theorem o53 (a b c d f g : Int64) (h0 : ¬ (a.toInt < f.toInt ∨ (a.toInt = f.toInt ∧ b.toInt < g.toInt))) : o3 (1 : Int32) (0 : Int32) (1 : Int32) (1 : Int32) (-1 : Int32) (0 : Int32) a b c d f g = 1 := by
  simp +decide only [o18, o25, o33, o6, o19, o26, o20, o13, o27, o21, o14, o28, o22, o15, o16, o17, o23, o29, o30, o31, o32, o3, o11, o40, if_true, if_false, ite_self]
  try (repeat' split)
  all_goals first | rfl | (exfalso; omega)
theorem o66 (a b c d f g : Int64) (h0 : ¬ (a.toInt < c.toInt ∨ (a.toInt = c.toInt ∧ b.toInt < d.toInt))) (h2 : ¬ (f.toInt < c.toInt ∨ (f.toInt = c.toInt ∧ g.toInt < d.toInt))) : o3 (1 : Int32) (1 : Int32) (1 : Int32) (1 : Int32) (0 : Int32) (2 : Int32) a b c d f g = 1 := by
  simp +decide only [o18, o25, o33, o6, o19, o26, o20, o13, o27, o21, o14, o28, o22, o15, o16, o17, o23, o29, o30, o31, o32, o3, o11, o40, if_true, if_false, ite_self]
  try (repeat' split)
  all_goals first | rfl | (exfalso; omega)
theorem o67 (a b c d f g : Int64) (h0 : ¬ (a.toInt < f.toInt ∨ (a.toInt = f.toInt ∧ b.toInt < g.toInt))) (h1 : ¬ (c.toInt < f.toInt ∨ (c.toInt = f.toInt ∧ d.toInt < g.toInt))) : o3 (1 : Int32) (1 : Int32) (1 : Int32) (1 : Int32) (2 : Int32) (0 : Int32) a b c d f g = 1 := by
  simp +decide only [o18, o25, o33, o6, o19, o26, o20, o13, o27, o21, o14, o28, o22, o15, o16, o17, o23, o29, o30, o31, o32, o3, o11, o40, if_true, if_false, ite_self]
  try (repeat' split)
  all_goals first | rfl | (exfalso; omega)
theorem own_main (q0 q1 q2 : Int64) (q3 : Int32) : o7 q0 q1 q2 q3 = 1 := by
  have ho : (o0 q0 q1 q2 q3).toInt = 0 ∧ (o1 q0 q1 q2 q3).toInt = 2 ∨ (o0 q0 q1 q2 q3).toInt = 2 ∧ (o1 q0 q1 q2 q3).toInt = 0 := by
    unfold o0 o1
    by_cases h : o2 q0 q1 q2 q3 = 0
    · rw [if_pos h, if_pos h]; exact Or.inl ⟨rfl, rfl⟩
    · rw [if_neg h, if_neg h]; exact Or.inr ⟨rfl, rfl⟩
  have h1 : (1 : Int64).toInt = 1 := rfl
  unfold o7 o10 o9 o8
  generalize o0 q0 q1 q2 q3 = oa at *
  generalize o1 q0 q1 q2 q3 = oc at *
  by_cases g1 : (q3 &&& (3 : Int32)) = (0 : Int32)
  · rw [if_pos g1]
    rw [o58 q0 oa q1 1 q2 oc, if_neg (by decide : ¬ (1 : Int32) = 0)]
    by_cases g2 : (o4 q0 q1 q2 q3) = (0 : Int32)
    · rw [if_pos g2]
    · rw [if_neg g2]
      by_cases g3 : (o4 q0 q1 q2 q3) = (1 : Int32)
      · rw [if_pos g3]
      · rw [if_neg g3]
  · rw [if_neg g1]
    by_cases g4 : (q3 &&& (3 : Int32)) = (1 : Int32)
    · rw [if_pos g4]
      rw [o55 q0 oa q1 1 q2 oc, if_neg (by decide : ¬ (1 : Int32) = 0)]
      by_cases g5 : (o4 q0 q1 q2 q3) = (0 : Int32)
      · rw [if_pos g5]
        exact o58 q0 oa q1 1 q2 oc
      · rw [if_neg g5]
        by_cases g6 : (o4 q0 q1 q2 q3) = (1 : Int32)
        · rw [if_pos g6]
        · rw [if_neg g6]
    · rw [if_neg g4]
      by_cases g7 : (q3 &&& (3 : Int32)) = (2 : Int32)
      · rw [if_pos g7]
        by_cases g8 : (o5 q1 (1 : Int64) q0 oa) = (0 : Int32)
        · rw [if_pos g8]
          have g8' := (o34 _ _ _ _).mp g8
          rw [o51 q0 oa q1 1 q2 oc (by omega), if_neg (by decide : ¬ (1 : Int32) = 0)]
          by_cases g9 : (o4 q0 q1 q2 q3) = (0 : Int32)
          · rw [if_pos g9]
            exact o59 q0 oa q1 1 q2 oc
          · rw [if_neg g9]
            by_cases g10 : (o4 q0 q1 q2 q3) = (1 : Int32)
            · rw [if_pos g10]
              exact o55 q0 oa q1 1 q2 oc
            · rw [if_neg g10]
        · rw [if_neg g8]
          have g8' := Decidable.not_not.mp (mt (o34 _ _ _ _).mpr g8)
          rw [o56 q0 oa q1 1 q2 oc (by omega), if_neg (by decide : ¬ (1 : Int32) = 0)]
          by_cases g11 : (o4 q0 q1 q2 q3) = (0 : Int32)
          · rw [if_pos g11]
            exact o59 q0 oa q1 1 q2 oc
          · rw [if_neg g11]
            by_cases g12 : (o4 q0 q1 q2 q3) = (1 : Int32)
            · rw [if_pos g12]
              exact o55 q0 oa q1 1 q2 oc
            · rw [if_neg g12]
      · rw [if_neg g7]
        by_cases g13 : (o5 q1 (1 : Int64) q0 oa) = (0 : Int32)
        · rw [if_pos g13]
          have g13' := (o34 _ _ _ _).mp g13
          by_cases g14 : (o5 q2 oc q0 oa) = (0 : Int32)
          · rw [if_pos g14]
            have g14' := (o34 _ _ _ _).mp g14
            rw [o64 q0 oa q1 1 q2 oc (by omega) (by omega), if_neg (by decide : ¬ (1 : Int32) = 0)]
            by_cases g15 : (o4 q0 q1 q2 q3) = (0 : Int32)
            · rw [if_pos g15]
              by_cases g16 : (o5 q1 (1 : Int64) q2 oc) = (0 : Int32)
              · rw [if_pos g16]
                have g16' := (o34 _ _ _ _).mp g16
                exact o52 q0 oa q1 1 q2 oc (by omega)
              · rw [if_neg g16]
                have g16' := Decidable.not_not.mp (mt (o34 _ _ _ _).mpr g16)
                exact o60 q0 oa q1 1 q2 oc (by omega)
            · rw [if_neg g15]
              by_cases g17 : (o4 q0 q1 q2 q3) = (1 : Int32)
              · rw [if_pos g17]
                exact o61 q0 oa q1 1 q2 oc (by omega)
              · rw [if_neg g17]
                exact o51 q0 oa q1 1 q2 oc (by omega)
          · rw [if_neg g14]
            have g14' := Decidable.not_not.mp (mt (o34 _ _ _ _).mpr g14)
            rw [o65 q0 oa q1 1 q2 oc (by omega) (by omega), if_neg (by decide : ¬ (1 : Int32) = 0)]
            by_cases g18 : (o4 q0 q1 q2 q3) = (0 : Int32)
            · rw [if_pos g18]
              exact o52 q0 oa q1 1 q2 oc (by omega)
            · rw [if_neg g18]
              by_cases g19 : (o4 q0 q1 q2 q3) = (1 : Int32)
              · rw [if_pos g19]
                by_cases g20 : (o5 q0 oa q2 oc) = (0 : Int32)
                · rw [if_pos g20]
                  have g20' := (o34 _ _ _ _).mp g20
                  exact o53 q0 oa q1 1 q2 oc (by omega)
                · rw [if_neg g20]
                  have g20' := Decidable.not_not.mp (mt (o34 _ _ _ _).mpr g20)
                  exact o53 q0 oa q1 1 q2 oc (by omega)
              · rw [if_neg g19]
                exact o51 q0 oa q1 1 q2 oc (by omega)
        · rw [if_neg g13]
          have g13' := Decidable.not_not.mp (mt (o34 _ _ _ _).mpr g13)
          by_cases g21 : (o5 q2 oc q1 (1 : Int64)) = (0 : Int32)
          · rw [if_pos g21]
            have g21' := (o34 _ _ _ _).mp g21
            rw [o66 q0 oa q1 1 q2 oc (by omega) (by omega), if_neg (by decide : ¬ (1 : Int32) = 0)]
            by_cases g22 : (o4 q0 q1 q2 q3) = (0 : Int32)
            · rw [if_pos g22]
              exact o60 q0 oa q1 1 q2 oc (by omega)
            · rw [if_neg g22]
              by_cases g23 : (o4 q0 q1 q2 q3) = (1 : Int32)
              · rw [if_pos g23]
                by_cases g24 : (o5 q0 oa q2 oc) = (0 : Int32)
                · rw [if_pos g24]
                  have g24' := (o34 _ _ _ _).mp g24
                  exact o53 q0 oa q1 1 q2 oc (by omega)
                · rw [if_neg g24]
                  have g24' := Decidable.not_not.mp (mt (o34 _ _ _ _).mpr g24)
                  exact o61 q0 oa q1 1 q2 oc (by omega)
              · rw [if_neg g23]
                exact o56 q0 oa q1 1 q2 oc (by omega)
          · rw [if_neg g21]
            have g21' := Decidable.not_not.mp (mt (o34 _ _ _ _).mpr g21)
            rw [o67 q0 oa q1 1 q2 oc (by omega) (by omega), if_neg (by decide : ¬ (1 : Int32) = 0)]
            by_cases g25 : (o4 q0 q1 q2 q3) = (0 : Int32)
            · rw [if_pos g25]
              by_cases g26 : (o5 q1 (1 : Int64) q2 oc) = (0 : Int32)
              · rw [if_pos g26]
                have g26' := (o34 _ _ _ _).mp g26
                exact o52 q0 oa q1 1 q2 oc (by omega)
              · rw [if_neg g26]
                have g26' := Decidable.not_not.mp (mt (o34 _ _ _ _).mpr g26)
                exact o52 q0 oa q1 1 q2 oc (by omega)
            · rw [if_neg g25]
              by_cases g27 : (o4 q0 q1 q2 q3) = (1 : Int32)
              · rw [if_pos g27]
                exact o53 q0 oa q1 1 q2 oc (by omega)
              · rw [if_neg g27]
                by_cases g28 : (o5 q0 oa q1 (1 : Int64)) = (0 : Int32)
                · rw [if_pos g28]
                  have g28' := (o34 _ _ _ _).mp g28
                  exact o56 q0 oa q1 1 q2 oc (by omega)
                · rw [if_neg g28]
                  have g28' := Decidable.not_not.mp (mt (o34 _ _ _ _).mpr g28)
                  exact o51 q0 oa q1 1 q2 oc (by omega)
set_option maxRecDepth 65536 in
set_option maxHeartbeats 40000000 in
theorem comes_1 {Post : Tables → Env → Array Value → State → Outcome → State → Prop} (hpost : ∀ tb e args s v u, (limb_1_1.after args s (.returned v) u = true ∧ limb_1_2.after args s (.returned v) u = true ∧ True) → FrameEnd s (.returned v) u (Jvm.fieldLocs frame_1_writes args s ++ Jvm.arrayLocs frame_1_arrays args s ++ Jvm.staticLocs frame_1_statics s) 24 192 → Post tb e args s (.returned v) u) :
    ArmFor flags0 classFile x code maxLocals ret World_1 tables_1 room_1 Calls_1 rest_1 Pre_1 Post := by
  intro l hfl _ _ p e ha hc hk s m args below hf hA hF happ hP
  obtain ⟨hcalls, hrest, hpre⟩ := hP
  obtain ⟨-, -, -, hnamed, -, -, -, hat⟩ := (Spec.applies_iff hf).mp happ
  obtain ⟨hg, hn⟩ := and_e (Cond.before_iff.mp (show (Jvm.Cond.and given_1 narrow_1).before args s = true from hpre))
  obtain ⟨hcnt, r0⟩ := and_e hg
  obtain ⟨a0, r1⟩ := and_e r0
  obtain ⟨a1, r2⟩ := and_e r1
  obtain ⟨a2, r3⟩ := and_e r2
  obtain ⟨w0, w1, w2, w3, rfl⟩ : ∃ w0 w1 w2 w3 : Value, args = #[w0, w1, w2, w3] := by
    have hs : args.size = 4 := by simpa [Cond.value, given_1] using hcnt
    obtain ⟨L⟩ := args
    match L, hs with
    | [w0, w1, w2, w3], _ => exact ⟨w0, w1, w2, w3, rfl⟩
  have hw := fun d (hd : d ∈ tables_1) => atoms_spec (ws := Jvm.Cond.code x code maxLocals ret :: tables_1) hat d (List.mem_cons_of_mem _ hd)
  obtain ⟨q0, y0⟩ := isL_v a0
  obtain rfl : w0 = (.long q0) := Option.some.inj y0
  obtain ⟨q1, y1⟩ := isL_v a1
  obtain rfl : w1 = (.long q1) := Option.some.inj y1
  obtain ⟨q2, y2⟩ := isL_v a2
  obtain rfl : w2 = (.long q2) := Option.some.inj y2
  obtain ⟨q3, y3⟩ := is_v r3
  obtain rfl : w3 = (.int q3) := Option.some.inj y3
  obtain ⟨n, o, h1, h2, h3, _, L, rfl, ⟨rfl, N⟩, hq⟩ := rm0 l s _ hw tables_1 q0 q1 q2 q3 s.heap s.heap.size (Nat.le_refl _) p e ha hc hk s m _ below hf ((Spec.applies_iff_loose hf).mp happ).1 ⟨rfl, State.Warmed39.refl s, rfl⟩ trivial
  refine ⟨n, _, h1, h2, h3, hpost _ _ _ _ _ _ ⟨Cond.after_iff.mpr rfl, Cond.after_iff.mpr (eq_i res_at (Term.int_eval (1)) (congrArg Value.int (own_main q0 q1 q2 q3))), trivial⟩ ⟨hq.1, hq.2.1, (hq.2.2.sift fun y hy => Or.inr (N y hy)).mono (by decide) (by decide)⟩⟩
theorem main_1_1 : Claimed_1_1 := comes_1 fun _ _ _ _ _ _ h hF => ⟨h.1, hF⟩
theorem main_1_2 : Claimed_1_2 := comes_1 fun _ _ _ _ _ _ h hF => ⟨h.2.1, hF⟩
end Jvm.Pilot.@@N@@
namespace Jvm.Pilot.@@N@@
open Jvm Jvm.ClassFile Sem Op Lib Jvm.Free Jvm.Stand Jvm.Pilot.@@N@@.Jvm.D
/-! MADE BY PROGRAM (witnessworld.py) out of the Statement's table words and the real class files: 12 classes; the members and pool entries that the words name. The judged class is class 1, her method 1. -/
namespace start1
open Jvm.ClassFile
def u (s : String) : CpInfo := .utf8 (stringToUtf16 s)
/-- a pool by its gaps: so many unusable entries, then the entry; so many at the end -/
def gap : Nat → List CpInfo → List CpInfo
  | 0, r => r
  | n + 1, r => .unusable :: gap n r
def poolList (es : List (Nat × CpInfo)) (last : Nat) : List CpInfo := es.foldr (fun e r => gap e.1 (e.2 :: r)) (gap last [])
def pool (es : List (Nat × CpInfo)) (last : Nat) : Array CpInfo := ⟨poolList es last⟩
def fileOf (pool : Array CpInfo) (this : Nat) (attrs : Array Attribute := #[]) (ms : Array MethodInfo := #[]) (fl : Nat := 33) (sup : Nat := 0) (ifs : Array Nat := #[]) (fds : Array FieldInfo := #[]) : ClassFile where
  minorVersion := 0
  majorVersion := 65
  constantPool := pool
  accessFlags := fl
  thisClass := this
  superClass := sup
  interfaces := ifs
  fields := fds
  methods := ms
  attributes := attrs
def plain (name : String) (sup : Option ClassId) : Class where
  name := name
  kind := .ordinary
  loader := none
  accessFlags := 33
  super := sup
  interfaces := #[]
  cf := none
  fields := #[]
  methods := #[]
  instanceTypes := #[]
  staticTypes := #[]
  resolved := #[]
  callSites := []
  init := .initialized
  statics := none
  mirror := none

def pool0 : Array CpInfo := pool [(5, u "<init>"), (0, u "()V"), (1, .class_ 10), (1, u "java/lang/Object")] 113

def k0c0 : Code := { maxStack := 0, maxLocals := 1, code := object_method_1_code, exceptionTable := #[], attributes := #[] }
def k0m0 : Method := { name := "<init>", desc := "()V", sig := { parameters := [], returnType := none }, accessFlags := 1, code := some k0c0 }
/-- java/lang/Object -/
def k0 : Class := { plain "java/lang/Object" none with
  accessFlags := 33
  interfaces := #[]
  cf := some (fileOf pool0 8 #[] #[{ accessFlags := 1, nameIndex := 5, descriptorIndex := 6, attributes := #[] }] 33 0 #[] #[])
  fields := #[]
  methods := #[k0m0]
  instanceTypes := #[]
  staticTypes := #[]
  resolved := Array.replicate 124 none
  statics := none }

def pool1 : Array CpInfo := pool [(2, .class_ 4), (0, .nameAndType 5 6), (0, u "java/lang/Object"), (0, u "<init>"), (0, u "()V"), (0, .long 2), (1, .class_ 10), (0, u "com/example/tideway/tideway/engine/EndQueue"), (0, .methodref 9 3), (0, .methodref 9 13), (0, .nameAndType 14 15), (0, u "add"), (0, u "(Ljava/lang/Object;JJ)V"), (0, .methodref 9 17), (0, .nameAndType 18 19), (0, u "placeOf"), (0, u "(Ljava/lang/Object;)I"), (0, .methodref 21 22), (0, .class_ 23), (0, .nameAndType 24 25), (0, u "com/example/tideway/tideway/engine/EndQueuePlaceOfPinLaw"), (0, u "ok"), (0, u "(ZZZIIIJJJJJJ)Z"), (0, .methodref 9 27), (0, .nameAndType 28 29), (0, u "removeAt"), (0, u "(I)V"), (0, .methodref 21 31), (0, .nameAndType 32 33), (0, u "place"), (0, u "(ZII)Z"), (0, .methodref 21 35), (0, .nameAndType 36 37), (0, u "before"), (0, u "(JJJJ)Z"), (2, u "law"), (0, u "(JJJI)Z")] 5

def k1m0 : Method := { name := "<init>", desc := "()V", sig := { parameters := [], returnType := none }, accessFlags := 1, code := none }
def k1c1 : Code := { maxStack := 18, maxLocals := 28, code := code, exceptionTable := #[], attributes := #[] }
def k1m1 : Method := { name := "law", desc := "(JJJI)Z", sig := { parameters := [.long, .long, .long, .int], returnType := some .boolean }, accessFlags := 9, code := some k1c1 }
def k1c2 : Code := { maxStack := 8, maxLocals := 19, code := method_3_code, exceptionTable := #[], attributes := #[] }
def k1m2 : Method := { name := "ok", desc := "(ZZZIIIJJJJJJ)Z", sig := { parameters := [.boolean, .boolean, .boolean, .int, .int, .int, .long, .long, .long, .long, .long, .long], returnType := some .boolean }, accessFlags := 10, code := some k1c2 }
def k1c3 : Code := { maxStack := 2, maxLocals := 3, code := method_4_code, exceptionTable := #[], attributes := #[] }
def k1m3 : Method := { name := "place", desc := "(ZII)Z", sig := { parameters := [.boolean, .int, .int], returnType := some .boolean }, accessFlags := 10, code := some k1c3 }
def k1c4 : Code := { maxStack := 4, maxLocals := 8, code := method_5_code, exceptionTable := #[], attributes := #[] }
def k1m4 : Method := { name := "before", desc := "(JJJJ)Z", sig := { parameters := [.long, .long, .long, .long], returnType := some .boolean }, accessFlags := 10, code := some k1c4 }
/-- com/example/tideway/tideway/engine/EndQueuePlaceOfPinLaw -/
def k1 : Class := { plain "com/example/tideway/tideway/engine/EndQueuePlaceOfPinLaw" (some 0) with
  accessFlags := 49
  interfaces := #[]
  cf := some (fileOf pool1 21 #[] #[{ accessFlags := 1, nameIndex := 5, descriptorIndex := 6, attributes := #[] }, { accessFlags := 9, nameIndex := 40, descriptorIndex := 41, attributes := #[] }, { accessFlags := 10, nameIndex := 24, descriptorIndex := 25, attributes := #[] }, { accessFlags := 10, nameIndex := 32, descriptorIndex := 33, attributes := #[] }, { accessFlags := 10, nameIndex := 36, descriptorIndex := 37, attributes := #[] }] 49 2 #[] #[])
  fields := #[]
  methods := #[k1m0, k1m1, k1m2, k1m3, k1m4]
  instanceTypes := #[]
  staticTypes := #[]
  resolved := Array.replicate 47 none
  statics := none }

def pool2 : Array CpInfo := pool [(1, .methodref 2 3), (0, .class_ 4), (0, .nameAndType 5 6), (0, u "java/lang/Object"), (0, u "<init>"), (0, u "()V"), (0, .fieldref 8 9), (0, .class_ 10), (0, .nameAndType 11 12), (0, u "com/example/tideway/tideway/engine/EndQueue"), (0, u "elements"), (0, u "[Ljava/lang/Object;"), (0, .fieldref 8 14), (0, .nameAndType 15 16), (0, u "ends"), (0, u "[J"), (0, .fieldref 8 18), (0, .nameAndType 19 16), (0, u "orders"), (0, .fieldref 8 21), (0, .nameAndType 22 23), (0, u "placed"), (0, u "Ljava/util/function/ObjIntConsumer;"), (0, .methodref 8 25), (0, .nameAndType 5 26), (0, u "(Ljava/util/function/ObjIntConsumer;)V"), (0, .fieldref 8 28), (0, .nameAndType 29 30), (0, u "size"), (0, u "I"), (0, .methodref 8 32), (0, .nameAndType 33 34), (0, u "at"), (0, u "(I)Ljava/lang/Object;"), (9, .methodref 8 45), (0, .nameAndType 46 47), (0, u "put"), (0, u "(ILjava/lang/Object;JJ)V"), (0, .methodref 8 49), (0, .nameAndType 50 51), (0, u "siftUp"), (0, u "(I)I"), (0, .methodref 8 53), (0, .nameAndType 54 55), (0, u "siftDown"), (0, u "(I)V"), (6, u "removeAt"), (6, .methodref 8 70), (0, .nameAndType 71 72), (0, u "before"), (0, u "(JJJJ)Z"), (11, u "add"), (0, u "(Ljava/lang/Object;JJ)V"), (4, u "placeOf"), (0, u "(Ljava/lang/Object;)I")] 6

def k2c0 : Code := { maxStack := 2, maxLocals := 2, code := prog_31_method_1_code, exceptionTable := #[], attributes := #[] }
def k2m0 : Method := { name := "<init>", desc := "(Ljava/util/function/ObjIntConsumer;)V", sig := { parameters := [(.object "java/util/function/ObjIntConsumer")], returnType := none }, accessFlags := 0, code := some k2c0 }
def k2c1 : Code := { maxStack := 2, maxLocals := 1, code := prog_31_method_2_code, exceptionTable := #[], attributes := #[] }
def k2m1 : Method := { name := "<init>", desc := "()V", sig := { parameters := [], returnType := none }, accessFlags := 0, code := some k2c1 }
def k2c2 : Code := { maxStack := 7, maxLocals := 6, code := prog_31_method_6_code, exceptionTable := #[], attributes := #[] }
def k2m2 : Method := { name := "add", desc := "(Ljava/lang/Object;JJ)V", sig := { parameters := [(.object "java/lang/Object"), .long, .long], returnType := none }, accessFlags := 0, code := some k2c2 }
def k2c3 : Code := { maxStack := 7, maxLocals := 3, code := prog_31_method_9_code, exceptionTable := #[], attributes := #[] }
def k2m3 : Method := { name := "removeAt", desc := "(I)V", sig := { parameters := [.int], returnType := none }, accessFlags := 0, code := some k2c3 }
def k2c4 : Code := { maxStack := 2, maxLocals := 3, code := prog_31_method_10_code, exceptionTable := #[], attributes := #[] }
def k2m4 : Method := { name := "placeOf", desc := "(Ljava/lang/Object;)I", sig := { parameters := [(.object "java/lang/Object")], returnType := some .int }, accessFlags := 0, code := some k2c4 }
def k2c5 : Code := { maxStack := 8, maxLocals := 8, code := prog_31_method_11_code, exceptionTable := #[], attributes := #[] }
def k2m5 : Method := { name := "siftUp", desc := "(I)I", sig := { parameters := [.int], returnType := some .int }, accessFlags := 2, code := some k2c5 }
def k2c6 : Code := { maxStack := 8, maxLocals := 8, code := prog_31_method_12_code, exceptionTable := #[], attributes := #[] }
def k2m6 : Method := { name := "siftDown", desc := "(I)V", sig := { parameters := [.int], returnType := none }, accessFlags := 2, code := some k2c6 }
def k2c7 : Code := { maxStack := 4, maxLocals := 7, code := prog_31_method_13_code, exceptionTable := #[], attributes := #[] }
def k2m7 : Method := { name := "put", desc := "(ILjava/lang/Object;JJ)V", sig := { parameters := [.int, (.object "java/lang/Object"), .long, .long], returnType := none }, accessFlags := 2, code := some k2c7 }
def k2c8 : Code := { maxStack := 2, maxLocals := 2, code := prog_31_method_14_code, exceptionTable := #[], attributes := #[] }
def k2m8 : Method := { name := "at", desc := "(I)Ljava/lang/Object;", sig := { parameters := [.int], returnType := some (.object "java/lang/Object") }, accessFlags := 2, code := some k2c8 }
def k2c9 : Code := { maxStack := 4, maxLocals := 8, code := prog_31_method_15_code, exceptionTable := #[], attributes := #[] }
def k2m9 : Method := { name := "before", desc := "(JJJJ)Z", sig := { parameters := [.long, .long, .long, .long], returnType := some .boolean }, accessFlags := 10, code := some k2c9 }
/-- com/example/tideway/tideway/engine/EndQueue -/
def k2 : Class := { plain "com/example/tideway/tideway/engine/EndQueue" (some 0) with
  accessFlags := 48
  interfaces := #[]
  cf := some (fileOf pool2 8 #[] #[{ accessFlags := 0, nameIndex := 5, descriptorIndex := 26, attributes := #[] }, { accessFlags := 0, nameIndex := 5, descriptorIndex := 6, attributes := #[] }, { accessFlags := 0, nameIndex := 84, descriptorIndex := 85, attributes := #[] }, { accessFlags := 0, nameIndex := 62, descriptorIndex := 55, attributes := #[] }, { accessFlags := 0, nameIndex := 90, descriptorIndex := 91, attributes := #[] }, { accessFlags := 2, nameIndex := 50, descriptorIndex := 51, attributes := #[] }, { accessFlags := 2, nameIndex := 54, descriptorIndex := 55, attributes := #[] }, { accessFlags := 2, nameIndex := 46, descriptorIndex := 47, attributes := #[] }, { accessFlags := 2, nameIndex := 33, descriptorIndex := 34, attributes := #[] }, { accessFlags := 10, nameIndex := 71, descriptorIndex := 72, attributes := #[] }] 48 2 #[] #[{ accessFlags := 18, nameIndex := 22, descriptorIndex := 23, attributes := #[] }, { accessFlags := 2, nameIndex := 11, descriptorIndex := 12, attributes := #[] }, { accessFlags := 2, nameIndex := 15, descriptorIndex := 16, attributes := #[] }, { accessFlags := 2, nameIndex := 19, descriptorIndex := 16, attributes := #[] }, { accessFlags := 2, nameIndex := 29, descriptorIndex := 30, attributes := #[] }])
  fields := #[{ name := "placed", type := (.object "java/util/function/ObjIntConsumer"), accessFlags := 18, slot := 0, constantValue := 0 }, { name := "elements", type := (.array (.object "java/lang/Object")), accessFlags := 2, slot := 1, constantValue := 0 }, { name := "ends", type := (.array .long), accessFlags := 2, slot := 2, constantValue := 0 }, { name := "orders", type := (.array .long), accessFlags := 2, slot := 3, constantValue := 0 }, { name := "size", type := .int, accessFlags := 2, slot := 4, constantValue := 0 }]
  methods := #[k2m0, k2m1, k2m2, k2m3, k2m4, k2m5, k2m6, k2m7, k2m8, k2m9]
  instanceTypes := #[(.object "java/util/function/ObjIntConsumer"), (.array (.object "java/lang/Object")), (.array .long), (.array .long), .int]
  staticTypes := #[]
  resolved := Array.replicate 98 none
  statics := none }

def pool3 : Array CpInfo := pool [(1, u "java/lang/Cloneable"), (0, .class_ 1), (0, u "java/lang/Object"), (0, .class_ 3)] 3

/-- java/lang/Cloneable -/
def k3 : Class := { plain "java/lang/Cloneable" (some 0) with
  accessFlags := 1537
  interfaces := #[]
  cf := some (fileOf pool3 2 #[] #[] 1537 4 #[] #[])
  fields := #[]
  methods := #[]
  instanceTypes := #[]
  staticTypes := #[]
  resolved := Array.replicate 8 none
  statics := none }

def pool4 : Array CpInfo := pool [(1, u "java/io/Serializable"), (0, .class_ 1), (0, u "java/lang/Object"), (0, .class_ 3)] 3

/-- java/io/Serializable -/
def k4 : Class := { plain "java/io/Serializable" (some 0) with
  accessFlags := 1537
  interfaces := #[]
  cf := some (fileOf pool4 2 #[] #[] 1537 4 #[] #[])
  fields := #[]
  methods := #[]
  instanceTypes := #[]
  staticTypes := #[]
  resolved := Array.replicate 8 none
  statics := none }

/-- the primitive byte -/
def k5 : Class := { plain "byte" none with kind := .primitive 'B', accessFlags := 0x411 }
/-- [B -/
def k6 : Class := { plain "[B" (some 0) with kind := .array 5 .byte, interfaces := #[3, 4], accessFlags := 1041 }

/-- the primitive int -/
def k7 : Class := { plain "int" none with kind := .primitive 'I', accessFlags := 0x411 }
/-- [I -/
def k8 : Class := { plain "[I" (some 0) with kind := .array 7 .int, interfaces := #[3, 4], accessFlags := 1041 }

/-- the primitive long -/
def k9 : Class := { plain "long" none with kind := .primitive 'J', accessFlags := 0x411 }
/-- [J -/
def k10 : Class := { plain "[J" (some 0) with kind := .array 9 .long, interfaces := #[3, 4], accessFlags := 1041 }

/-- [Ljava/lang/Object; -/
def k11 : Class := { plain "[Ljava/lang/Object;" (some 0) with kind := .array 0 (.object "java/lang/Object"), interfaces := #[3, 4], accessFlags := 1041 }

def heap : Heap := #[]
def classes : Array Class := #[k0, k1, k2, k3, k4, k5, k6, k7, k8, k9, k10, k11]
def interned : List (Array UInt16 × Addr) := []
def slotsUsed : Nat := 0
def theMethod : MethodId := ⟨1, 1⟩
def args0 : Array Value := #[.long 5, .long 7, .long 7, .int 7]
def aboutOver (below : List Frame) : State where
  vm := { classes := classes, interned := interned.toArray }
  heap := heap
  slotsUsed := slotsUsed
  threads := #[{ frames := .invoking theMethod args0 :: below }]
def below0 : List Frame := [.native { method := ⟨0, 0⟩, args := #[] }]
def about1 : State := aboutOver below0
def p0 : Program := .bare "" "" ""
def e0 : Env := launch0.env 0 0 0
theorem w_frames : about1.frames = Frame.invoking theMethod args0 :: below0 := rfl
set_option maxRecDepth 65536 in
theorem w_args : argsFit about1.vm theMethod args0 = true := by decide +kernel
set_option maxRecDepth 65536 in
theorem w_heap : heapFits about1 = true := by decide +kernel
set_option maxRecDepth 65536 in
theorem w_runnable : about1.curStatus? = some .runnable := by decide +kernel
set_option maxRecDepth 65536 in
theorem w_alone : about1.alone = true := by decide +kernel
set_option maxRecDepth 65536 in
theorem w_named : about1.methodNamed? x = some theMethod := by decide +kernel
set_option maxRecDepth 65536 in
theorem w_hears : about1.hears theMethod below0 = true := by decide +kernel
set_option maxRecDepth 65536 in
theorem w_ripe : about1.ripe theMethod args0 below0 = true := by decide +kernel
theorem w_running : about1.status = .running := rfl
set_option maxRecDepth 65536 in
theorem w_room : about1.hasRoom e0.platform room_1 = true :=
  launch0.hasRoom_least _ room_1 (by decide +kernel) (by decide +kernel) (by decide +kernel) (by decide +kernel) (by decide +kernel) (by decide +kernel)
theorem allAtoms_all (ts : List Jvm.Cond) (a : Array Jvm.Value) (st : Jvm.State) : (allAtoms ts).before a st = ts.all (fun c => c.before a st) := by
  induction ts with
  | nil => rfl
  | cons c t ih =>
    show (Jvm.Cond.and c (allAtoms t)).before a st = _
    rw [Jvm.Cond.before_and, ih, List.all_cons]
def words1 : List Jvm.Cond := Jvm.Cond.code x code maxLocals ret :: tables_1
/-- a 'code' word, met by the world's own term for the bytes: nothing is compared byte by byte -/
theorem code_word {y : MethodName} {bytes : ByteArray} {mx : Nat} {rt : Option FieldType} {a : Array Value} {s : State} {m : MethodId} {meth : Method} {c : Code} (h1 : s.methodNamed? y = some m) (h2 : s.vm.method? m = some meth) (h3 : meth.code = some c) (h4 : c.code = bytes)
    (h5 : (c.maxLocals == mx && c.exceptionTable.isEmpty && decide (c.maxStack ≤ mostOperands) && decide (meth.sig.returnType = rt) && !meth.locks && decide (parseMethodDescriptor y.desc = some meth.sig)) = true) : (Jvm.Cond.code y bytes mx rt).before a s = true := by
  simp only [Bool.and_eq_true, beq_iff_eq, Bool.not_eq_true', decide_eq_true_eq] at h5
  obtain ⟨⟨⟨⟨⟨g1, g2⟩, g3⟩, g4⟩, g5⟩, g6⟩ := h5
  simp [Cond.before, Cond.holds, Cond.value, h1, h2, h3, h4, g1, g2, g3, g4, g5, g6]
def isCode : Jvm.Cond → Bool
  | .code _ _ _ _ => true
  | _ => false
theorem all_split {L : List Jvm.Cond} {P : Jvm.Cond → Bool} (h1 : L.all (fun c => isCode c || P c) = true) (h2 : ∀ c ∈ L.filter isCode, P c = true) : L.all P = true := by
  refine List.all_eq_true.mpr fun c hc => ?_
  have h := List.all_eq_true.mp h1 c hc
  rcases Bool.eq_false_or_eq_true (isCode c) with hi | hi
  · exact h2 c (List.mem_filter.mpr ⟨hc, hi⟩)
  · simpa [hi] using h
set_option maxRecDepth 65536 in
theorem w_c0 : (Jvm.Cond.code x code maxLocals ret).before args0 about1 = true := code_word (m := ⟨1, 1⟩) (meth := k1m1) (c := k1c1) (by decide +kernel) rfl rfl rfl (by decide +kernel)
set_option maxRecDepth 65536 in
theorem w_c1 : (Jvm.Cond.code ({ cls := "com/example/tideway/tideway/engine/EndQueue", name := "<init>", desc := "()V" } : Jvm.MethodName) prog_31_method_2_code (1 : Nat) (Option.none : Option Jvm.ClassFile.FieldType)).before args0 about1 = true := code_word (m := ⟨2, 1⟩) (meth := k2m1) (c := k2c1) (by decide +kernel) rfl rfl rfl (by decide +kernel)
set_option maxRecDepth 65536 in
theorem w_c2 : (Jvm.Cond.code ({ cls := "com/example/tideway/tideway/engine/EndQueue", name := "<init>", desc := "(Ljava/util/function/ObjIntConsumer;)V" } : Jvm.MethodName) prog_31_method_1_code (2 : Nat) (Option.none : Option Jvm.ClassFile.FieldType)).before args0 about1 = true := code_word (m := ⟨2, 0⟩) (meth := k2m0) (c := k2c0) (by decide +kernel) rfl rfl rfl (by decide +kernel)
set_option maxRecDepth 65536 in
theorem w_c3 : (Jvm.Cond.code ({ cls := "java/lang/Object", name := "<init>", desc := "()V" } : Jvm.MethodName) object_method_1_code (1 : Nat) (Option.none : Option Jvm.ClassFile.FieldType)).before args0 about1 = true := code_word (m := ⟨0, 0⟩) (meth := k0m0) (c := k0c0) (by decide +kernel) rfl rfl rfl (by decide +kernel)
set_option maxRecDepth 65536 in
theorem w_c4 : (Jvm.Cond.code ({ cls := "com/example/tideway/tideway/engine/EndQueue", name := "add", desc := "(Ljava/lang/Object;JJ)V" } : Jvm.MethodName) prog_31_method_6_code (6 : Nat) (Option.none : Option Jvm.ClassFile.FieldType)).before args0 about1 = true := code_word (m := ⟨2, 2⟩) (meth := k2m2) (c := k2c2) (by decide +kernel) rfl rfl rfl (by decide +kernel)
set_option maxRecDepth 65536 in
theorem w_c5 : (Jvm.Cond.code ({ cls := "com/example/tideway/tideway/engine/EndQueue", name := "put", desc := "(ILjava/lang/Object;JJ)V" } : Jvm.MethodName) prog_31_method_13_code (7 : Nat) (Option.none : Option Jvm.ClassFile.FieldType)).before args0 about1 = true := code_word (m := ⟨2, 7⟩) (meth := k2m7) (c := k2c7) (by decide +kernel) rfl rfl rfl (by decide +kernel)
set_option maxRecDepth 65536 in
theorem w_c6 : (Jvm.Cond.code ({ cls := "com/example/tideway/tideway/engine/EndQueue", name := "siftUp", desc := "(I)I" } : Jvm.MethodName) prog_31_method_11_code (8 : Nat) (Option.some Jvm.ClassFile.FieldType.int)).before args0 about1 = true := code_word (m := ⟨2, 5⟩) (meth := k2m5) (c := k2c5) (by decide +kernel) rfl rfl rfl (by decide +kernel)
set_option maxRecDepth 65536 in
theorem w_c7 : (Jvm.Cond.code ({ cls := "com/example/tideway/tideway/engine/EndQueue", name := "at", desc := "(I)Ljava/lang/Object;" } : Jvm.MethodName) prog_31_method_14_code (2 : Nat) (Option.some (Jvm.ClassFile.FieldType.object "java/lang/Object"))).before args0 about1 = true := code_word (m := ⟨2, 8⟩) (meth := k2m8) (c := k2c8) (by decide +kernel) rfl rfl rfl (by decide +kernel)
set_option maxRecDepth 65536 in
theorem w_c8 : (Jvm.Cond.code ({ cls := "com/example/tideway/tideway/engine/EndQueue", name := "before", desc := "(JJJJ)Z" } : Jvm.MethodName) prog_31_method_15_code (8 : Nat) (Option.some Jvm.ClassFile.FieldType.boolean)).before args0 about1 = true := code_word (m := ⟨2, 9⟩) (meth := k2m9) (c := k2c9) (by decide +kernel) rfl rfl rfl (by decide +kernel)
set_option maxRecDepth 65536 in
theorem w_c9 : (Jvm.Cond.code ({ cls := "com/example/tideway/tideway/engine/EndQueue", name := "placeOf", desc := "(Ljava/lang/Object;)I" } : Jvm.MethodName) prog_31_method_10_code (3 : Nat) (Option.some Jvm.ClassFile.FieldType.int)).before args0 about1 = true := code_word (m := ⟨2, 4⟩) (meth := k2m4) (c := k2c4) (by decide +kernel) rfl rfl rfl (by decide +kernel)
set_option maxRecDepth 65536 in
theorem w_c10 : (Jvm.Cond.code ({ cls := "com/example/tideway/tideway/engine/EndQueuePlaceOfPinLaw", name := "ok", desc := "(ZZZIIIJJJJJJ)Z" } : Jvm.MethodName) method_3_code (19 : Nat) (Option.some Jvm.ClassFile.FieldType.boolean)).before args0 about1 = true := code_word (m := ⟨1, 2⟩) (meth := k1m2) (c := k1c2) (by decide +kernel) rfl rfl rfl (by decide +kernel)
set_option maxRecDepth 65536 in
theorem w_c11 : (Jvm.Cond.code ({ cls := "com/example/tideway/tideway/engine/EndQueuePlaceOfPinLaw", name := "place", desc := "(ZII)Z" } : Jvm.MethodName) method_4_code (3 : Nat) (Option.some Jvm.ClassFile.FieldType.boolean)).before args0 about1 = true := code_word (m := ⟨1, 3⟩) (meth := k1m3) (c := k1c3) (by decide +kernel) rfl rfl rfl (by decide +kernel)
set_option maxRecDepth 65536 in
theorem w_c12 : (Jvm.Cond.code ({ cls := "com/example/tideway/tideway/engine/EndQueuePlaceOfPinLaw", name := "before", desc := "(JJJJ)Z" } : Jvm.MethodName) method_5_code (8 : Nat) (Option.some Jvm.ClassFile.FieldType.boolean)).before args0 about1 = true := code_word (m := ⟨1, 4⟩) (meth := k1m4) (c := k1c4) (by decide +kernel) rfl rfl rfl (by decide +kernel)
set_option maxRecDepth 65536 in
theorem w_c13 : (Jvm.Cond.code ({ cls := "com/example/tideway/tideway/engine/EndQueue", name := "removeAt", desc := "(I)V" } : Jvm.MethodName) prog_31_method_9_code (3 : Nat) (Option.none : Option Jvm.ClassFile.FieldType)).before args0 about1 = true := code_word (m := ⟨2, 3⟩) (meth := k2m3) (c := k2c3) (by decide +kernel) rfl rfl rfl (by decide +kernel)
set_option maxRecDepth 65536 in
theorem w_c14 : (Jvm.Cond.code ({ cls := "com/example/tideway/tideway/engine/EndQueue", name := "siftDown", desc := "(I)V" } : Jvm.MethodName) prog_31_method_12_code (8 : Nat) (Option.none : Option Jvm.ClassFile.FieldType)).before args0 about1 = true := code_word (m := ⟨2, 6⟩) (meth := k2m6) (c := k2c6) (by decide +kernel) rfl rfl rfl (by decide +kernel)
def codes1 : List Jvm.Cond := [Jvm.Cond.code x code maxLocals ret, Jvm.Cond.code ({ cls := "com/example/tideway/tideway/engine/EndQueue", name := "<init>", desc := "()V" } : Jvm.MethodName) prog_31_method_2_code (1 : Nat) (Option.none : Option Jvm.ClassFile.FieldType), Jvm.Cond.code ({ cls := "com/example/tideway/tideway/engine/EndQueue", name := "<init>", desc := "(Ljava/util/function/ObjIntConsumer;)V" } : Jvm.MethodName) prog_31_method_1_code (2 : Nat) (Option.none : Option Jvm.ClassFile.FieldType), Jvm.Cond.code ({ cls := "java/lang/Object", name := "<init>", desc := "()V" } : Jvm.MethodName) object_method_1_code (1 : Nat) (Option.none : Option Jvm.ClassFile.FieldType), Jvm.Cond.code ({ cls := "com/example/tideway/tideway/engine/EndQueue", name := "add", desc := "(Ljava/lang/Object;JJ)V" } : Jvm.MethodName) prog_31_method_6_code (6 : Nat) (Option.none : Option Jvm.ClassFile.FieldType), Jvm.Cond.code ({ cls := "com/example/tideway/tideway/engine/EndQueue", name := "put", desc := "(ILjava/lang/Object;JJ)V" } : Jvm.MethodName) prog_31_method_13_code (7 : Nat) (Option.none : Option Jvm.ClassFile.FieldType), Jvm.Cond.code ({ cls := "com/example/tideway/tideway/engine/EndQueue", name := "siftUp", desc := "(I)I" } : Jvm.MethodName) prog_31_method_11_code (8 : Nat) (Option.some Jvm.ClassFile.FieldType.int), Jvm.Cond.code ({ cls := "com/example/tideway/tideway/engine/EndQueue", name := "at", desc := "(I)Ljava/lang/Object;" } : Jvm.MethodName) prog_31_method_14_code (2 : Nat) (Option.some (Jvm.ClassFile.FieldType.object "java/lang/Object")), Jvm.Cond.code ({ cls := "com/example/tideway/tideway/engine/EndQueue", name := "before", desc := "(JJJJ)Z" } : Jvm.MethodName) prog_31_method_15_code (8 : Nat) (Option.some Jvm.ClassFile.FieldType.boolean), Jvm.Cond.code ({ cls := "com/example/tideway/tideway/engine/EndQueue", name := "placeOf", desc := "(Ljava/lang/Object;)I" } : Jvm.MethodName) prog_31_method_10_code (3 : Nat) (Option.some Jvm.ClassFile.FieldType.int), Jvm.Cond.code ({ cls := "com/example/tideway/tideway/engine/EndQueuePlaceOfPinLaw", name := "ok", desc := "(ZZZIIIJJJJJJ)Z" } : Jvm.MethodName) method_3_code (19 : Nat) (Option.some Jvm.ClassFile.FieldType.boolean), Jvm.Cond.code ({ cls := "com/example/tideway/tideway/engine/EndQueuePlaceOfPinLaw", name := "place", desc := "(ZII)Z" } : Jvm.MethodName) method_4_code (3 : Nat) (Option.some Jvm.ClassFile.FieldType.boolean), Jvm.Cond.code ({ cls := "com/example/tideway/tideway/engine/EndQueuePlaceOfPinLaw", name := "before", desc := "(JJJJ)Z" } : Jvm.MethodName) method_5_code (8 : Nat) (Option.some Jvm.ClassFile.FieldType.boolean), Jvm.Cond.code ({ cls := "com/example/tideway/tideway/engine/EndQueue", name := "removeAt", desc := "(I)V" } : Jvm.MethodName) prog_31_method_9_code (3 : Nat) (Option.none : Option Jvm.ClassFile.FieldType), Jvm.Cond.code ({ cls := "com/example/tideway/tideway/engine/EndQueue", name := "siftDown", desc := "(I)V" } : Jvm.MethodName) prog_31_method_12_code (8 : Nat) (Option.none : Option Jvm.ClassFile.FieldType)]
set_option maxRecDepth 65536 in
theorem codes_eq : words1.filter isCode = codes1 := rfl
theorem w_codes : ∀ c ∈ words1.filter isCode, c.before args0 about1 = true := by
  rw [codes_eq]
  intro c hc
  simp only [codes1, List.mem_cons, List.not_mem_nil, or_false] at hc
  rcases hc with rfl | rfl | rfl | rfl | rfl | rfl | rfl | rfl | rfl | rfl | rfl | rfl | rfl | rfl | rfl
  · exact w_c0
  · exact w_c1
  · exact w_c2
  · exact w_c3
  · exact w_c4
  · exact w_c5
  · exact w_c6
  · exact w_c7
  · exact w_c8
  · exact w_c9
  · exact w_c10
  · exact w_c11
  · exact w_c12
  · exact w_c13
  · exact w_c14
set_option maxRecDepth 65536 in
theorem w_t1 : (words1.take 24).all (fun c => isCode c || c.before args0 about1) = true := by decide +kernel
set_option maxRecDepth 65536 in
theorem w_t2 : ((words1.drop 24).take 24).all (fun c => isCode c || c.before args0 about1) = true := by decide +kernel
set_option maxRecDepth 65536 in
theorem w_t3 : (((words1.drop 24).drop 24).take 24).all (fun c => isCode c || c.before args0 about1) = true := by decide +kernel
set_option maxRecDepth 65536 in
theorem w_t4 : (((words1.drop 24).drop 24).drop 24).all (fun c => isCode c || c.before args0 about1) = true := by decide +kernel
theorem w_tables : (allAtoms (Jvm.Cond.code x code maxLocals ret :: tables_1)).before args0 about1 = true := by
  rw [allAtoms_all]
  show words1.all (fun c => c.before args0 about1) = true
  refine all_split ?_ w_codes
  rw [← List.take_append_drop 24 words1, List.all_append, w_t1, ← List.take_append_drop 24 (words1.drop 24), List.all_append, w_t2, ← List.take_append_drop 24 ((words1.drop 24).drop 24), List.all_append, w_t3, w_t4]
  rfl
set_option maxRecDepth 65536 in
theorem w_case : (Jvm.Cond.and given_1 narrow_1).before args0 about1 = true := by decide +kernel
theorem w_applies : (headSpec (Jvm.Cond.code x code maxLocals ret :: tables_1) room_1).applies x e0.platform about1 = true :=
  (Spec.applies_iff w_frames).mpr ⟨w_running, w_runnable, w_alone, w_named, w_hears, w_ripe, w_room, w_tables⟩
theorem atStart : AtStart classFile x code maxLocals ret World_1 tables_1 room_1 Calls_1 rest_1 Pre_1 launch0 p0 e0 about1 theMethod args0 below0 :=
  ⟨lists_1, trivial, launch0.admits_env _ _ _, launch0.least_env, fairChoices_fair.cas, fairChoices_fair.clock, w_frames, w_args, w_heap, w_applies, trivial, trivial, w_case⟩
end start1
theorem witness_1 : WitnessClaimed_1 := ⟨start1.p0, start1.e0, start1.about1, start1.theMethod, start1.args0, start1.below0, start1.atStart⟩
end Jvm.Pilot.@@N@@
