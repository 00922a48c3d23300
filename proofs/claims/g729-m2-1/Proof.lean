import JvmDerived
import JvmDerived.Pilot.@@N@@Statement
import JvmDerived.Pilot.@@N@@Code
set_option linter.unusedVariables false
set_option linter.unusedSimpArgs false
namespace Jvm.Pilot.@@N@@
open Jvm Jvm.ClassFile Sem Op Lib Jvm.Free Jvm.Stand Jvm.LawKit Jvm.RoadKit Bundle Jvm.Pilot.@@N@@.Jvm.D
/-- the body's goal from a state on -/
def Go (p : Program) (e : Env) (below : List Frame) (P : Outcome → State → Prop) (U : State) : Prop :=
  ∃ s₂ o, Steps p.tables e below U s₂ ∧ s₂.status = .running ∧ Ended s₂ below o ∧ P o s₂
/-- the unsigned shifts, the remainders -/
def uI (x y : Int32) : Int32 := (x.toUInt32 >>> (y &&& 31).toUInt32).toInt32
def uL (x : Int64) (y : Int32) : Int64 := (x.toUInt64 >>> (y &&& 0x3f).toInt64.toUInt64).toInt64
def sL (x : Int64) (y : Int32) : Int64 := x >>> (y &&& 0x3f).toInt64
def lL (x : Int64) (y : Int32) : Int64 := x <<< (y &&& 0x3f).toInt64
section Own
variable {p : Program} {l : Launch} {e : Env} {R : Room} {s : State} {m : MethodId} {args : Array Value} {below : List Frame} {meth : Method} {c : Code} {T : State} {locs : List Loc} {cells slots : Nat} {P : Outcome → State → Prop} {pc pc' : Nat} {L L' : Array Slot} {S : List Value} {Z : State} {a0 : Array Value} {h : Heap}
theorem Go.via {U U' : State} (q : ∀ t, Steps p.tables e below U' t → Steps p.tables e below U t) (k : Go p e below P U') : Go p e below P U := by
  obtain ⟨s₂, o, h1, h2⟩ := k
  exact ⟨s₂, o, q _ h1, h2⟩
theorem Go.tr {U U' : State} (q : Steps p.tables e below U U') (k : Go p e below P U') : Go p e below P U := k.via fun _ h => q.trans h
theorem o_iload (X : Stand p l e R s m args below meth c T locs cells slots) (hx : p.tables.exec = Jvm.exec) {k : Nat} {v : Int32} (hd : decode c.code pc = .ok (.iload k, 2)) (hp : pc + 2 = pc') (hl : L[k]? = some (.val (.int v))) (K : Go p e below P (T.setTop (mkF m pc' L (.int v :: S)))) : Go p e below P (T.setTop (mkF m pc L (S))) := by
  subst hp; exact K.via fun t k => XS.iload X.here hx rfl hd hl k
theorem o_iloadN (X : Stand p l e R s m args below meth c T locs cells slots) (hx : p.tables.exec = Jvm.exec) {k : Fin 4} {v : Int32} (hd : decode c.code pc = .ok (.iload_n k, 1)) (hp : pc + 1 = pc') (hl : L[k.val]? = some (.val (.int v))) (K : Go p e below P (T.setTop (mkF m pc' L (.int v :: S)))) : Go p e below P (T.setTop (mkF m pc L (S))) := by
  subst hp; exact K.via fun t k => XS.iloadN X.here hx rfl hd hl k
theorem o_lload (X : Stand p l e R s m args below meth c T locs cells slots) (hx : p.tables.exec = Jvm.exec) {k : Nat} {v : Int64} (hd : decode c.code pc = .ok (.lload k, 2)) (hp : pc + 2 = pc') (hl : L[k]? = some (.val (.long v))) (K : Go p e below P (T.setTop (mkF m pc' L (.long v :: S)))) : Go p e below P (T.setTop (mkF m pc L (S))) := by
  subst hp; exact K.via fun t k => XS.lload X.here hx rfl hd hl k
theorem o_lloadN (X : Stand p l e R s m args below meth c T locs cells slots) (hx : p.tables.exec = Jvm.exec) {k : Fin 4} {v : Int64} (hd : decode c.code pc = .ok (.lload_n k, 1)) (hp : pc + 1 = pc') (hl : L[k.val]? = some (.val (.long v))) (K : Go p e below P (T.setTop (mkF m pc' L (.long v :: S)))) : Go p e below P (T.setTop (mkF m pc L (S))) := by
  subst hp; exact K.via fun t k => XS.lloadN X.here hx rfl hd hl k
theorem o_aload (X : Stand p l e R s m args below meth c T locs cells slots) (hx : p.tables.exec = Jvm.exec) {k : Nat} {v : Value} (hd : decode c.code pc = .ok (.aload k, 2)) (hp : pc + 2 = pc') (hl : L[k]? = some (.val v)) (hv : v.isRef = true) (K : Go p e below P (T.setTop (mkF m pc' L (v :: S)))) : Go p e below P (T.setTop (mkF m pc L (S))) := by
  subst hp; exact K.via fun t k => XS.aload X.here hx rfl hd hl hv k
theorem o_aloadN (X : Stand p l e R s m args below meth c T locs cells slots) (hx : p.tables.exec = Jvm.exec) {k : Fin 4} {v : Value} (hd : decode c.code pc = .ok (.aload_n k, 1)) (hp : pc + 1 = pc') (hl : L[k.val]? = some (.val v)) (hv : v.isRef = true) (K : Go p e below P (T.setTop (mkF m pc' L (v :: S)))) : Go p e below P (T.setTop (mkF m pc L (S))) := by
  subst hp; exact K.via fun t k => XS.aloadN X.here hx rfl hd hl hv k
theorem o_istore (X : Stand p l e R s m args below meth c T locs cells slots) (hx : p.tables.exec = Jvm.exec) {k : Nat} {x : Int32} (hd : decode c.code pc = .ok (.istore k, 2)) (hp : pc + 2 = pc') (hl : storeLocals L k (.int x) = some L') (K : Go p e below P (T.setTop (mkF m pc' L' (S)))) : Go p e below P (T.setTop (mkF m pc L (.int x :: S))) := by
  subst hp; exact K.via fun t k => XS.istore X.here hx rfl hd rfl hl k
theorem o_lstore (X : Stand p l e R s m args below meth c T locs cells slots) (hx : p.tables.exec = Jvm.exec) {k : Nat} {x : Int64} (hd : decode c.code pc = .ok (.lstore k, 2)) (hp : pc + 2 = pc') (hl : storeLocals L k (.long x) = some L') (K : Go p e below P (T.setTop (mkF m pc' L' (S)))) : Go p e below P (T.setTop (mkF m pc L (.long x :: S))) := by
  subst hp; exact K.via fun t k => XS.lstore X.here hx rfl hd rfl hl k
theorem o_lstoreN (X : Stand p l e R s m args below meth c T locs cells slots) (hx : p.tables.exec = Jvm.exec) {k : Fin 4} {x : Int64} (hd : decode c.code pc = .ok (.lstore_n k, 1)) (hp : pc + 1 = pc') (hl : storeLocals L k.val (.long x) = some L') (K : Go p e below P (T.setTop (mkF m pc' L' (S)))) : Go p e below P (T.setTop (mkF m pc L (.long x :: S))) := by
  subst hp; exact K.via fun t k => XS.lstoreN X.here hx rfl hd rfl hl k
theorem o_astore (X : Stand p l e R s m args below meth c T locs cells slots) (hx : p.tables.exec = Jvm.exec) {k : Nat} {x : Value} (hd : decode c.code pc = .ok (.astore k, 2)) (hp : pc + 2 = pc') (hv : x.isRef = true) (hl : storeLocals L k x = some L') (K : Go p e below P (T.setTop (mkF m pc' L' (S)))) : Go p e below P (T.setTop (mkF m pc L (x :: S))) := by
  subst hp; exact K.via fun t k => XS.astore X.here hx rfl hd rfl hv hl k
theorem o_iconst (X : Stand p l e R s m args below meth c T locs cells slots) (hx : p.tables.exec = Jvm.exec) {i : Int} (v : Int32) (hd : decode c.code pc = .ok (.iconst i, 1)) (hp : pc + 1 = pc') (hv : Int32.ofInt i = v) (K : Go p e below P (T.setTop (mkF m pc' L (.int v :: S)))) : Go p e below P (T.setTop (mkF m pc L (S))) := by
  subst hp; exact K.via fun t k => XS.iconst X.here hx rfl hd (hv ▸ k)
theorem o_bipush (X : Stand p l e R s m args below meth c T locs cells slots) (hx : p.tables.exec = Jvm.exec) {i : Int} (v : Int32) (hd : decode c.code pc = .ok (.bipush i, 2)) (hp : pc + 2 = pc') (hv : (Int8.ofInt i).toInt32 = v) (K : Go p e below P (T.setTop (mkF m pc' L (.int v :: S)))) : Go p e below P (T.setTop (mkF m pc L (S))) := by
  subst hp; exact K.via fun t k => XS.bipush X.here hx rfl hd (hv ▸ k)
theorem o_sipush (X : Stand p l e R s m args below meth c T locs cells slots) (hx : p.tables.exec = Jvm.exec) {i : Int} (v : Int32) (hd : decode c.code pc = .ok (.sipush i, 3)) (hp : pc + 3 = pc') (hv : (Int16.ofInt i).toInt32 = v) (K : Go p e below P (T.setTop (mkF m pc' L (.int v :: S)))) : Go p e below P (T.setTop (mkF m pc L (S))) := by
  subst hp; exact K.via fun t k => XS.sipush X.here hx rfl hd (hv ▸ k)
theorem o_lconst (X : Stand p l e R s m args below meth c T locs cells slots) (hx : p.tables.exec = Jvm.exec) {i : Fin 2} (v : Int64) (hd : decode c.code pc = .ok (.lconst i, 1)) (hp : pc + 1 = pc') (hv : Int64.ofNat i = v) (K : Go p e below P (T.setTop (mkF m pc' L (.long v :: S)))) : Go p e below P (T.setTop (mkF m pc L (S))) := by
  subst hp; exact K.via fun t k => XS.lconst X.here hx rfl hd (hv ▸ k)
theorem o_iadd (X : Stand p l e R s m args below meth c T locs cells slots) (hx : p.tables.exec = Jvm.exec) {x y : Int32} (hd : decode c.code pc = .ok (.iadd, 1)) (hp : pc + 1 = pc')  (K : Go p e below P (T.setTop (mkF m pc' L (.int (x + y) :: S)))) : Go p e below P (T.setTop (mkF m pc L (.int y :: .int x :: S))) := by
  subst hp; exact K.via fun t k => XS.iadd X.here hx rfl hd rfl k
theorem o_isub (X : Stand p l e R s m args below meth c T locs cells slots) (hx : p.tables.exec = Jvm.exec) {x y : Int32} (hd : decode c.code pc = .ok (.isub, 1)) (hp : pc + 1 = pc')  (K : Go p e below P (T.setTop (mkF m pc' L (.int (x - y) :: S)))) : Go p e below P (T.setTop (mkF m pc L (.int y :: .int x :: S))) := by
  subst hp; exact K.via fun t k => XS.isub X.here hx rfl hd rfl k
theorem o_imul (X : Stand p l e R s m args below meth c T locs cells slots) (hx : p.tables.exec = Jvm.exec) {x y : Int32} (hd : decode c.code pc = .ok (.imul, 1)) (hp : pc + 1 = pc')  (K : Go p e below P (T.setTop (mkF m pc' L (.int (x * y) :: S)))) : Go p e below P (T.setTop (mkF m pc L (.int y :: .int x :: S))) := by
  subst hp; exact K.via fun t k => XS.imul X.here hx rfl hd rfl k
theorem o_iand (X : Stand p l e R s m args below meth c T locs cells slots) (hx : p.tables.exec = Jvm.exec) {x y : Int32} (hd : decode c.code pc = .ok (.iand, 1)) (hp : pc + 1 = pc')  (K : Go p e below P (T.setTop (mkF m pc' L (.int (x &&& y) :: S)))) : Go p e below P (T.setTop (mkF m pc L (.int y :: .int x :: S))) := by
  subst hp; exact K.via fun t k => XS.iand X.here hx rfl hd rfl k
theorem o_ladd (X : Stand p l e R s m args below meth c T locs cells slots) (hx : p.tables.exec = Jvm.exec) {x y : Int64} (hd : decode c.code pc = .ok (.ladd, 1)) (hp : pc + 1 = pc')  (K : Go p e below P (T.setTop (mkF m pc' L (.long (x + y) :: S)))) : Go p e below P (T.setTop (mkF m pc L (.long y :: .long x :: S))) := by
  subst hp; exact K.via fun t k => XS.ladd X.here hx rfl hd rfl k
theorem o_lmul (X : Stand p l e R s m args below meth c T locs cells slots) (hx : p.tables.exec = Jvm.exec) {x y : Int64} (hd : decode c.code pc = .ok (.lmul, 1)) (hp : pc + 1 = pc')  (K : Go p e below P (T.setTop (mkF m pc' L (.long (x * y) :: S)))) : Go p e below P (T.setTop (mkF m pc L (.long y :: .long x :: S))) := by
  subst hp; exact K.via fun t k => XS.lmul X.here hx rfl hd rfl k
theorem o_lshr (X : Stand p l e R s m args below meth c T locs cells slots) (hx : p.tables.exec = Jvm.exec) {x : Int64} {y : Int32} (hd : decode c.code pc = .ok (.lshr, 1)) (hp : pc + 1 = pc')  (K : Go p e below P (T.setTop (mkF m pc' L (.long (sL x y) :: S)))) : Go p e below P (T.setTop (mkF m pc L (.int y :: .long x :: S))) := by
  subst hp; exact K.via fun t k => XS.lshr X.here hx rfl hd rfl k
theorem o_ldiv (X : Stand p l e R s m args below meth c T locs cells slots) (hx : p.tables.exec = Jvm.exec) {x y : Int64} (hd : decode c.code pc = .ok (.ldiv, 1)) (hp : pc + 1 = pc') (hy : y ≠ 0) (K : Go p e below P (T.setTop (mkF m pc' L (.long (x / y) :: S)))) : Go p e below P (T.setTop (mkF m pc L (.long y :: .long x :: S))) := by
  subst hp; exact K.via fun t k => XS.ldiv X.here hx rfl hd rfl hy k
theorem o_irem (X : Stand p l e R s m args below meth c T locs cells slots) (hx : p.tables.exec = Jvm.exec) {x y : Int32} (hd : decode c.code pc = .ok (.irem, 1)) (hp : pc + 1 = pc') (hy : y ≠ 0) (K : Go p e below P (T.setTop (mkF m pc' L (.int (x % y) :: S)))) : Go p e below P (T.setTop (mkF m pc L (.int y :: .int x :: S))) := by
  subst hp; exact K.via fun t k => Jvm.RoadKit.iremM (g := mkF m pc L (.int y :: .int x :: S)) X hx rfl hd rfl hy k
theorem o_i2l (X : Stand p l e R s m args below meth c T locs cells slots) (hx : p.tables.exec = Jvm.exec) {x : Int32} (hd : decode c.code pc = .ok (.i2l, 1)) (hp : pc + 1 = pc')  (K : Go p e below P (T.setTop (mkF m pc' L (.long x.toInt64 :: S)))) : Go p e below P (T.setTop (mkF m pc L (.int x :: S))) := by
  subst hp; exact K.via fun t k => XS.i2l X.here hx rfl hd rfl k
theorem o_l2i (X : Stand p l e R s m args below meth c T locs cells slots) (hx : p.tables.exec = Jvm.exec) {x : Int64} (hd : decode c.code pc = .ok (.l2i, 1)) (hp : pc + 1 = pc')  (K : Go p e below P (T.setTop (mkF m pc' L (.int x.toInt32 :: S)))) : Go p e below P (T.setTop (mkF m pc L (.long x :: S))) := by
  subst hp; exact K.via fun t k => XS.l2i X.here hx rfl hd rfl k
theorem o_goto (X : Stand p l e R s m args below meth c T locs cells slots) (hx : p.tables.exec = Jvm.exec) {o : Int} (hd : decode c.code pc = .ok (.goto o, 3)) (ho : 0 ≤ (pc : Int) + o) (hp : ((pc : Int) + o).toNat = pc') (K : Go p e below P (T.setTop (mkF m pc' L S))) : Go p e below P (T.setTop (mkF m pc L S)) :=
  K.via fun t k => XS.goto X.here hx rfl rfl hd ho hp k
theorem o_ifY (X : Stand p l e R s m args below meth c T locs cells slots) (hx : p.tables.exec = Jvm.exec) {cd : ClassFile.Cond} {x : Int32} {o : Int} (hd : decode c.code pc = .ok (.ifCond cd o, 3)) (hc : if_icmp.holds cd x 0 = true) (ho : 0 ≤ (pc : Int) + o) (hp : ((pc : Int) + o).toNat = pc') (K : Go p e below P (T.setTop (mkF m pc' L S))) : Go p e below P (T.setTop (mkF m pc L (.int x :: S))) :=
  K.via fun t k => XS.ifYes X.here hx rfl rfl hd rfl ((if0 _ _).trans hc) ho hp k
theorem o_ifN (X : Stand p l e R s m args below meth c T locs cells slots) (hx : p.tables.exec = Jvm.exec) {cd : ClassFile.Cond} {x : Int32} {o : Int} (hd : decode c.code pc = .ok (.ifCond cd o, 3)) (hc : if_icmp.holds cd x 0 = false) (hp : pc + 3 = pc') (K : Go p e below P (T.setTop (mkF m pc' L S))) : Go p e below P (T.setTop (mkF m pc L (.int x :: S))) := by
  subst hp; exact K.via fun t k => XS.ifNo X.here hx rfl hd rfl ((if0 _ _).trans hc) k
theorem o_cmpY (X : Stand p l e R s m args below meth c T locs cells slots) (hx : p.tables.exec = Jvm.exec) {cd : ClassFile.Cond} {x y : Int32} {o : Int} (hd : decode c.code pc = .ok (.if_icmp cd o, 3)) (hc : if_icmp.holds cd x y = true) (ho : 0 ≤ (pc : Int) + o) (hp : ((pc : Int) + o).toNat = pc') (K : Go p e below P (T.setTop (mkF m pc' L S))) : Go p e below P (T.setTop (mkF m pc L (.int y :: .int x :: S))) :=
  K.via fun t k => XS.icmpYes X.here hx rfl rfl hd rfl hc ho hp k
theorem o_cmpN (X : Stand p l e R s m args below meth c T locs cells slots) (hx : p.tables.exec = Jvm.exec) {cd : ClassFile.Cond} {x y : Int32} {o : Int} (hd : decode c.code pc = .ok (.if_icmp cd o, 3)) (hc : if_icmp.holds cd x y = false) (hp : pc + 3 = pc') (K : Go p e below P (T.setTop (mkF m pc' L S))) : Go p e below P (T.setTop (mkF m pc L (.int y :: .int x :: S))) := by
  subst hp; exact K.via fun t k => XS.icmpNo X.here hx rfl hd rfl hc k
theorem o_lcmp (X : Stand p l e R s m args below meth c T locs cells slots) (hx : p.tables.exec = Jvm.exec) {x y : Int64} (hd : decode c.code pc = .ok (.lcmp, 1)) (hp : pc + 1 = pc') (K : Go p e below P (T.setTop (mkF m pc' L (.int (lcmpW x y) :: S)))) : Go p e below P (T.setTop (mkF m pc L (.long y :: .long x :: S))) := by
  subst hp; exact K.via fun t k => XS.lcmp X.here hx rfl hd rfl k
theorem tltL {x y : Int64} (q : x < y) : if_icmp.holds .lt (lcmpW x y) 0 = true ∧ if_icmp.holds .ge (lcmpW x y) 0 = false ∧ if_icmp.holds .gt (lcmpW y x) 0 = true ∧ if_icmp.holds .le (lcmpW y x) 0 = false :=
  ⟨(tlt ((lw_lt x y).mpr q)).1, (tlt ((lw_lt x y).mpr q)).2.1, (tlt ((lw_gt y x).mpr q)).2.2.1, (tlt ((lw_gt y x).mpr q)).2.2.2⟩
theorem fltL {x y : Int64} (q : ¬ x < y) : if_icmp.holds .lt (lcmpW x y) 0 = false ∧ if_icmp.holds .ge (lcmpW x y) 0 = true ∧ if_icmp.holds .gt (lcmpW y x) 0 = false ∧ if_icmp.holds .le (lcmpW y x) 0 = true :=
  ⟨(flt (mt (lw_lt x y).mp q)).1, (flt (mt (lw_lt x y).mp q)).2.1, (flt (mt (lw_gt y x).mp q)).2.2.1, (flt (mt (lw_gt y x).mp q)).2.2.2⟩
theorem teqL {x y : Int64} (q : x = y) : if_icmp.holds .eq (lcmpW x y) 0 = true ∧ if_icmp.holds .ne (lcmpW x y) 0 = false := teq ((lw_eq x y).mpr q)
theorem feqL {x y : Int64} (q : ¬ x = y) : if_icmp.holds .eq (lcmpW x y) 0 = false ∧ if_icmp.holds .ne (lcmpW x y) 0 = true := feq (mt (lw_eq x y).mp q)
theorem o_ldcI (X : Stand p l e R s m args below meth c T locs cells slots) (hx : p.tables.exec = Jvm.exec) (hZ : Z.Warmed39 s.vm) {own : String} {index : Nat} (v : Int32) (hown : s.vm.findClass own = some m.cls) (w : (Cond.constant own index v).before a0 Z = true) (hd : decode c.code pc = .ok (.ldc index, 2)) (hp : pc + 2 = pc') (K : Go p e below P (T.setTop (mkF m pc' L (.int v :: S)))) : Go p e below P (T.setTop (mkF m pc L S)) := by
  subst hp; exact K.via (X.ldcInt hx hown (mvT hZ w) (g := mkF m pc L S) rfl hd)
theorem o_ldcJ (X : Stand p l e R s m args below meth c T locs cells slots) (hx : p.tables.exec = Jvm.exec) (hZ : Z.Warmed39 s.vm) {own : String} {index : Nat} (v : Int64) (hown : s.vm.findClass own = some m.cls) (w : (Cond.constantLong own index v).before a0 Z = true) (hd : decode c.code pc = .ok (.ldc2_w index, 3)) (hp : pc + 3 = pc') (K : Go p e below P (T.setTop (mkF m pc' L (.long v :: S)))) : Go p e below P (T.setTop (mkF m pc L S)) := by
  subst hp; exact K.via (X.ldc2Long hx hown (mvT hZ w) (g := mkF m pc L S) rfl hd)
/-- what a body's end owes -/
abbrev Owe (s : State) (Q : Option Value → Heap → List Loc → Prop) (C D : Nat) : Outcome → State → Prop := fun o U' => ∃ v L, o = .returned v ∧ Q v U'.heap L ∧ FrameEnd s o U' L C D
/-- a body's contract -/
abbrev Con (l : Launch) (y : MethodName) (bytes : ByteArray) (ml : Nat) (ret : Option FieldType) (ws : List Jvm.Cond) (rm : Room) (as' : Array Value) (Z : State) (h0 : Heap) (Q : Option Value → Heap → List Loc → Prop) (C D : Nat) : Prop :=
  MetFree l y (head1 (Jvm.Cond.code y bytes ml ret :: ws) rm) (fun b U => b = as' ∧ Z.Warmed39 U.vm ∧ U.heap = h0) (fun _ _ _ _ _ => True) (fun _ U o U' => ∃ v L, o = .returned v ∧ Q v U'.heap L ∧ FrameEnd U o U' L C D)
theorem own_body {y : MethodName} {bytes : ByteArray} {ml : Nat} {ret : Option FieldType} {ws : List Jvm.Cond} {rm : Room} {as' : Array Value} {h0 : Heap} {Q : Option Value → Heap → List Loc → Prop} {C D : Nat} (hpl : plainFor y = true)
    (K : ∀ (p : Program) (e : Env) (s : State) (m : MethodId) (below : List Frame) (meth : Method) (c : Code) (s₁ : State), p.tables.exec = Jvm.exec → c.code = bytes → meth.locks = false → c.maxLocals = ml → s.vm.findClass y.cls = some m.cls → meth.name = y.name → meth.sig.returnType = ret → Z.Warmed39 s.vm →
      Stand p l e rm s m as' below meth c s₁ [] 0 0 → s₁.heap = h0 → Go p e below (Owe s Q C D) (s₁.setTop (entryFrame m as' ml))) : Con l y bytes ml ret ws rm as' Z h0 Q C D := by
  refine MetFree.of_bodySF hpl hisR ?_
  intro p e s m args below meth c s₁ Bd hml0 hP hK
  obtain ⟨rfl, hZ, hh⟩ := hP
  exact K p e s m below meth c s₁ Bd.exec Bd.bytes (BodyLoose.notSynchronized Bd) hml0 (findClass_of_methodNamed Bd.named) (name_of_methodNamed Bd.named Bd.method).1 Bd.returns hZ (Stand.of_body Bd) (by rw [← hh, Bd.state]; rfl)
theorem o_ret (X : Stand p l e R s m args below meth c T locs cells slots) (hx : p.tables.exec = Jvm.exec) {Q : Option Value → Heap → List Loc → Prop} {C D : Nat} {w : Value} {t : FieldType} {i : Instr} (hlocks : meth.locks = false) (hret : meth.sig.returnType = some t) (hn : narrow t w = w)
    (hi : (i = .ireturn ∧ (t = .int ∨ t = .boolean ∨ t = .byte ∨ t = .char ∨ t = .short) ∧ ∃ z, w = .int z) ∨ (i = .lreturn ∧ t = .long ∧ ∃ z, w = .long z) ∨ (i = .dreturn ∧ t = .double ∧ ∃ z, w = .double z) ∨ (i = .freturn ∧ t = .float ∧ ∃ z, w = .float z) ∨ (i = .areturn ∧ t.isReference = true ∧ w.isRef = true))
    (hd : decode c.code pc = .ok (i, 1)) (hc : cells ≤ C) (hs : slots ≤ D) (hq : Q (some w) T.heap locs) : Go p e below (Owe s Q C D) (T.setTop (mkF m pc L (w :: S))) := by
  obtain ⟨fs, hr, hrun, hended, hW, hsame⟩ := X.leave (v := some w) (fun h => by rw [hret] at h; cases h) hlocks
  exact ⟨_, _, retOut X hx hret hn hi hd hr, hrun, hended, _, _, rfl, hq, ⟨_, rfl⟩, hW, hsame.mono hc hs⟩
theorem o_retI (X : Stand p l e R s m args below meth c T locs cells slots) (hx : p.tables.exec = Jvm.exec) {Q : Option Value → Heap → List Loc → Prop} {C D : Nat} {z : Int32} (hlocks : meth.locks = false) (hret : meth.sig.returnType = some .int) (hd : decode c.code pc = .ok (.ireturn, 1)) (hc : cells ≤ C) (hs : slots ≤ D) (hq : Q (some (.int z)) T.heap locs) : Go p e below (Owe s Q C D) (T.setTop (mkF m pc L (.int z :: S))) :=
  o_ret X hx hlocks hret rfl (Or.inl ⟨rfl, Or.inl rfl, z, rfl⟩) hd hc hs hq
theorem o_retJ (X : Stand p l e R s m args below meth c T locs cells slots) (hx : p.tables.exec = Jvm.exec) {Q : Option Value → Heap → List Loc → Prop} {C D : Nat} {z : Int64} (hlocks : meth.locks = false) (hret : meth.sig.returnType = some .long) (hd : decode c.code pc = .ok (.lreturn, 1)) (hc : cells ≤ C) (hs : slots ≤ D) (hq : Q (some (.long z)) T.heap locs) : Go p e below (Owe s Q C D) (T.setTop (mkF m pc L (.long z :: S))) :=
  o_ret X hx hlocks hret rfl (Or.inr (Or.inl ⟨rfl, rfl, z, rfl⟩)) hd hc hs hq
theorem o_retZ (X : Stand p l e R s m args below meth c T locs cells slots) (hx : p.tables.exec = Jvm.exec) {Q : Option Value → Heap → List Loc → Prop} {C D : Nat} {z : Int32} (hz : narrow .boolean (.int z) = .int z) (hlocks : meth.locks = false) (hret : meth.sig.returnType = some .boolean) (hd : decode c.code pc = .ok (.ireturn, 1)) (hc : cells ≤ C) (hs : slots ≤ D) (hq : Q (some (.int z)) T.heap locs) : Go p e below (Owe s Q C D) (T.setTop (mkF m pc L (.int z :: S))) :=
  o_ret X hx hlocks hret hz (Or.inl ⟨rfl, Or.inr (Or.inl rfl), z, rfl⟩) hd hc hs hq
theorem o_callS (X : Stand p l e R s m args below meth c T locs cells slots) (hx : p.tables.exec = Jvm.exec) (hZ : Z.Warmed39 s.vm) {own : String} {index : Nat} {y : MethodName} {bytes : ByteArray} {maxL : Nat} {ret : Option FieldType} {rm : Room} (W : Nat) {argsL rest : List Value} {Q : Option Value → Heap → List Loc → Prop} {cells' slots' : Nat}
    (hown : s.vm.findClass own = some m.cls) (w1 : (Cond.methodLink own index y).before a0 Z = true) (w2 : (Cond.static y).before a0 Z = true) (w3 : (Cond.initialized y.cls).before a0 Z = true) (w4 : (Cond.code y bytes maxL ret).before a0 Z = true) (hy : y.cls ≠ "java/lang/invoke/MethodHandle" ∧ y.cls ≠ "java/lang/invoke/VarHandle")
    (hM : MetFree l y (head1 [Cond.code y bytes maxL ret] rm) (fun a U => a = argsL.toArray ∧ Z.Warmed39 U.vm ∧ U.heap = h) (fun _ _ _ _ _ => True) (fun _ U o U' => ∃ v L, o = .returned v ∧ Q v U'.heap L ∧ FrameEnd U o U' L rm.cells rm.slots))
    (hf : rm.frames + 1 ≤ R.frames) (hl : W + (maxL + 11) + rm.locals ≤ R.locals) (hcc : cells + rm.cells = cells') (hss : slots + rm.slots = slots') (hc : cells' ≤ R.cells) (hs : slots' ≤ R.slots) (eT : T.heap = h) (hsize : L.size = c.maxLocals) (hlen : ∀ sig, parseMethodDescriptor y.desc = some sig → argsL.length = sig.parameters.length) (hstk : S = argsL.reverse ++ rest)
    (hW : (rest.map fun v => v.category).sum = W) (hd : decode c.code pc = .ok (.invokestatic index, 3)) (hp : pc + 3 = pc') (K : ∀ T' v Lc, Stand p l e R s m args below meth c T' (locs ++ Lc) cells' slots' → Q v T'.heap Lc → Go p e below P (T'.setTop (mkF m pc' L (v.toList ++ rest)))) : Go p e below P (T.setTop (mkF m pc L S)) := by
  subst hp hcc hss
  obtain ⟨v, _, ⟨T', L', k', n'⟩, -, X', ⟨Lc, hQ, l', y', z'⟩, st⟩ := Jvm.LawKit.callS X hx hown (mvT hZ w1) (mvT hZ w2) (mvT hZ w3) (mvT hZ w4) hy (backOf (W := W) hM hZ w4 w3 hf hl) (g := mkF m pc L S) rfl hsize (argsL := argsL) (rest := rest) hlen hstk (by show 2 * 0 + _ ≤ _; rw [hW]; exact Nat.le_of_eq (by simp)) hd (fun _ _ => ⟨rfl, eT, hc, hs⟩)
  dsimp only [Pt.U, Pt.locs, Pt.cells, Pt.slots] at X' l' y' z' st hQ
  subst l' y' z'
  exact (K T' v Lc X' hQ).via st
theorem o_newP (X : Stand p l e R s m args below meth c T locs cells slots) (hx : p.tables.exec = Jvm.exec) (hZ : Z.Warmed39 s.vm) {aty : ArrayType} {n : Int32} {cells' slots' : Nat} (cap : Nat) (w : (Cond.arrayClass (newarray.typeOf aty)).before a0 Z = true) (eT : T.heap = h) (hd : decode c.code pc = .ok (.newarray aty, 2)) (hp : pc + 2 = pc') (hn : ¬ n < 0) (hcap : n.toNatClampNeg ≤ cap) (hb : cap * 8 ≤ 536870912) (hcc : cells + 1 = cells') (hss : slots + cap = slots') (hc : cells' ≤ R.cells) (hs : slots' ≤ R.slots)
    (K : ∀ T' h' a k, a = h.size → Stand p l e R s m args below meth c T' locs cells' slots' → T'.heap = h' → Ext h h' → Arv Z h' a k (newarray.typeOf aty) n [] (defaultValue (newarray.typeOf aty)) → Go p e below P (T'.setTop (mkF m pc' L (.ref a :: S)))) : Go p e below P (T.setTop (mkF m pc L (.int n :: S))) := by
  subst hp hcc hss
  obtain ⟨T', h', cA, X', e', E', A', st⟩ := newP X hx hZ w eT (g := mkF m pc L (.int n :: S)) rfl hd rfl hn hcap hb hc hs
  exact (K T' h' h.size cA rfl X' e' E' (Arv.new A' hn)).via st
theorem own_inb {Zx : State} {hh : Heap} {a : Addr} {k : ClassId} {ty : FieldType} {n j : Int32} {vs : List Value} {d : Value} (hj : ¬ j < 0 ∧ j < n) (V : Arv Zx hh a k ty n vs d) : ∃ cl : Cell, Arr Zx hh a cl ty ∧ cl.cls = k ∧ cl.slots.size = n.toNatClampNeg ∧ ¬ n < 0 ∧ Has cl vs d ∧ (∀ i, i < cl.slots.size → fits ty (vs.getD i d) = true) ∧ ¬ (j < 0 ∨ cl.slots.size ≤ j.toNatClampNeg) ∧ cl.slots[j.toNatClampNeg]? = some (vs.getD j.toNatClampNeg d) := by
  obtain ⟨cl, h1, h2, h3, h4, h5, h6⟩ := V
  have hin := inb_of h3 hj
  exact ⟨cl, h1, h2, h3, h4, h5, h6, hin, h5.at hin rfl⟩
theorem o_laload (X : Stand p l e R s m args below meth c T locs cells slots) (hx : p.tables.exec = Jvm.exec) (hZ : Z.Warmed39 s.vm) {a : Addr} {k : ClassId} {n j : Int32} {vs : List Value} {d : Value} (v : Value) (eT : T.heap = h) (V : Arv Z h a k .long n vs d) (hj : ¬ j < 0 ∧ j < n) (hv : vs.getD j.toNatClampNeg d = v) (hd : decode c.code pc = .ok (.laload, 1)) (hp : pc + 1 = pc') (K : Go p e below P (T.setTop (mkF m pc' L (v :: S)))) : Go p e below P (T.setTop (mkF m pc L (.int j :: .ref a :: S))) := by
  subst hp hv
  obtain ⟨cl, A, -, -, -, -, -, hin, hat⟩ := own_inb hj V
  exact K.via fun t k => X.laload hx (j := j) (by rw [eT]; exact A.1) (State.isArrayOf_alike hZ.alike A.2.1) A.2.2 hin hat (g := mkF m pc L (.int j :: .ref a :: S)) rfl rfl hd t k
theorem o_lastore (X : Stand p l e R s m args below meth c T locs cells slots) (hx : p.tables.exec = Jvm.exec) (hZ : Z.Warmed39 s.vm) {a : Addr} {k : ClassId} {n j : Int32} {x : Int64} {vs vs' : List Value} {d : Value} (i : Nat) (eT : T.heap = h) (V : Arv Z h a k .long n vs d) (hj : ¬ j < 0 ∧ j < n) (hji : j.toNatClampNeg = i) (hi : i < vs.length) (hvs : vs.set i (.long x) = vs') (hd : decode c.code pc = .ok (.lastore, 1)) (hp : pc + 1 = pc')
    (K : ∀ T' h', Stand p l e R s m args below meth c T' (locs ++ [⟨a, i⟩]) cells slots → T'.heap = h' → Wr h h' a i (.long x) → Arv Z h' a k .long n vs' d → Go p e below P (T'.setTop (mkF m pc' L S))) : Go p e below P (T.setTop (mkF m pc L (.long x :: .int j :: .ref a :: S))) := by
  subst hp hvs hji
  obtain ⟨cl, A, q1, q2, q3, q4, q5, hin, hat⟩ := own_inb hj V
  obtain ⟨T', h', X', e', W', st⟩ := stJ X hx hZ eT A hin (g := mkF m pc L (.long x :: .int j :: .ref a :: S)) rfl rfl hd
  exact (K T' h' X' e' W' (Arv.set A q1 q2 q3 q4 q5 rfl W' _ rfl hi)).via st
theorem o_arraylength (X : Stand p l e R s m args below meth c T locs cells slots) (hx : p.tables.exec = Jvm.exec) (hZ : Z.Warmed39 s.vm) {a : Addr} {k : ClassId} {n : Int32} {ty : FieldType} {vs : List Value} {d : Value} (eT : T.heap = h) (V : Arv Z h a k ty n vs d) (hd : decode c.code pc = .ok (.arraylength, 1)) (hp : pc + 1 = pc') (K : Go p e below P (T.setTop (mkF m pc' L (.int n :: S)))) : Go p e below P (T.setTop (mkF m pc L (.ref a :: S))) := by
  subst hp
  obtain ⟨cl, A, q1, q2, q3, q4, q5⟩ := V
  rw [← len_of q2 q3] at K
  exact K.via fun t k => X.arraylength hx (by rw [eT]; exact A.1) (State.isArrayOf_alike hZ.alike A.2.1) (g := mkF m pc L (.ref a :: S)) rfl rfl hd t k
/-- a longer list said of an array: the rest holds its first value -/
theorem own_fill {Zx : State} {hh : Heap} {a : Addr} {k : ClassId} {ty : FieldType} {n : Int32} {d : Value} (i : Nat) (V : Arv Zx hh a k ty n [] d) : Arv Zx hh a k ty n (List.replicate i d) d := V.pad (pad_rep [] d i)
end Own
theorem pd_0 : parseMethodDescriptor "([JI)J" = some ⟨[(.array .long), .int], some .long⟩ := by decide +kernel
theorem pd_1 : parseMethodDescriptor "(I)I" = some ⟨[.int], some .int⟩ := by decide +kernel
/-- the place that nearestRank reads -/
def own_ix (n : Int64) (p : Int32) : Int32 := (((p.toInt64 * n) + (99 : Int64)) / (100 : Int64)).toInt32 - (1 : Int32)
theorem own_getJ (xs : List Int64) (i : Nat) : (xs.map Value.long).getD i (.long (0 : Int64)) = .long (xs.getD i 0) := by
  rw [List.getD_eq_getElem?_getD, List.getD_eq_getElem?_getD, List.getElem?_map]
  cases xs[i]? <;> rfl
theorem own_ixv (n : Int64) (N : Int) (p : Int32) (hN : n.toInt = N) (h1 : ¬ p < (1 : Int32)) (h2 : ¬ (100 : Int32) < p) (h3 : 1 ≤ N) (h4 : N ≤ 8) : (own_ix n p).toInt = (p.toInt * N + 99) / 100 - 1 ∧ 1 ≤ p.toInt * N ∧ p.toInt * N ≤ 100 * N := by
  rw [Int32.lt_iff_toInt_lt, show (1 : Int32).toInt = 1 from rfl] at h1
  rw [Int32.lt_iff_toInt_lt, show (100 : Int32).toInt = 100 from by decide] at h2
  have m1 : 1 * N ≤ p.toInt * N := Int.mul_le_mul_of_nonneg_right (by omega) (by omega)
  have m2 : p.toInt * N ≤ 100 * N := Int.mul_le_mul_of_nonneg_right (by omega) (by omega)
  have a1 := c_lmul p.toInt64 n
  rw [c_i2l, hN] at a1
  have r1 := rng64 (p.toInt64 * n)
  have a2 := c_ladd (p.toInt64 * n) 99
  have r2 := rng64 (p.toInt64 * n + 99)
  rw [show (99 : Int64).toInt = 99 from by decide] at a2
  generalize p.toInt * N = z at *
  have e2 : (p.toInt64 * n + 99).toInt = z + 99 := by omega
  have a3 := (c_ldiv (p.toInt64 * n + 99) 100 100 (by decide) (by decide)).1 (by omega)
  rw [e2] at a3
  have a4 := c_l2i ((p.toInt64 * n + 99) / 100)
  have r4 := rng32 ((p.toInt64 * n + 99) / 100).toInt32
  have a5 := c_isub ((p.toInt64 * n + 99) / 100).toInt32 1
  have r5 := rng32 (((p.toInt64 * n + 99) / 100).toInt32 - 1)
  rw [show (1 : Int32).toInt = 1 from rfl] at a5
  unfold own_ix
  omega
theorem own_ix_in (n : Int64) (k : Int32) (p : Int32) (N : Int) (hN : n.toInt = N) (hk : k.toInt = N) (h1 : ¬ p < (1 : Int32)) (h2 : ¬ (100 : Int32) < p) (h3 : 1 ≤ N) (h4 : N ≤ 8) : ¬ own_ix n p < 0 ∧ own_ix n p < k := by
  obtain ⟨e, m1, m2⟩ := own_ixv n N p hN h1 h2 h3 h4
  rw [Int32.lt_iff_toInt_lt, Int32.lt_iff_toInt_lt, hk, e, show (0 : Int32).toInt = 0 from rfl]
  generalize p.toInt * N = z at *
  omega
theorem d1_0 : decode prog_38_method_2_code 0 = .ok (.aload_n 0, 1) := by decide +kernel
theorem d1_1 : decode prog_38_method_2_code 1 = .ok (.arraylength, 1) := by decide +kernel
theorem d1_2 : decode prog_38_method_2_code 2 = .ok (.ifCond .ne 13, 3) := by decide +kernel
theorem d1_5 : decode prog_38_method_2_code 5 = .ok (.new 7, 3) := by decide +kernel
theorem d1_8 : decode prog_38_method_2_code 8 = .ok (.dup, 1) := by decide +kernel
theorem d1_9 : decode prog_38_method_2_code 9 = .ok (.ldc 9, 2) := by decide +kernel
theorem d1_11 : decode prog_38_method_2_code 11 = .ok (.invokespecial 11, 3) := by decide +kernel
theorem d1_14 : decode prog_38_method_2_code 14 = .ok (.athrow, 1) := by decide +kernel
theorem d1_15 : decode prog_38_method_2_code 15 = .ok (.iload_n 1, 1) := by decide +kernel
theorem d1_16 : decode prog_38_method_2_code 16 = .ok (.iconst 1, 1) := by decide +kernel
theorem d1_17 : decode prog_38_method_2_code 17 = .ok (.if_icmp .lt 9, 3) := by decide +kernel
theorem d1_20 : decode prog_38_method_2_code 20 = .ok (.iload_n 1, 1) := by decide +kernel
theorem d1_21 : decode prog_38_method_2_code 21 = .ok (.bipush 100, 2) := by decide +kernel
theorem d1_23 : decode prog_38_method_2_code 23 = .ok (.if_icmp .le 17, 3) := by decide +kernel
theorem d1_26 : decode prog_38_method_2_code 26 = .ok (.new 7, 3) := by decide +kernel
theorem d1_29 : decode prog_38_method_2_code 29 = .ok (.dup, 1) := by decide +kernel
theorem d1_30 : decode prog_38_method_2_code 30 = .ok (.iload_n 1, 1) := by decide +kernel
theorem d1_31 : decode prog_38_method_2_code 31 = .ok (.invokedynamic 14, 5) := by decide +kernel
theorem d1_36 : decode prog_38_method_2_code 36 = .ok (.invokespecial 11, 3) := by decide +kernel
theorem d1_39 : decode prog_38_method_2_code 39 = .ok (.athrow, 1) := by decide +kernel
theorem d1_40 : decode prog_38_method_2_code 40 = .ok (.iload_n 1, 1) := by decide +kernel
theorem d1_41 : decode prog_38_method_2_code 41 = .ok (.i2l, 1) := by decide +kernel
theorem d1_42 : decode prog_38_method_2_code 42 = .ok (.aload_n 0, 1) := by decide +kernel
theorem d1_43 : decode prog_38_method_2_code 43 = .ok (.arraylength, 1) := by decide +kernel
theorem d1_44 : decode prog_38_method_2_code 44 = .ok (.i2l, 1) := by decide +kernel
theorem d1_45 : decode prog_38_method_2_code 45 = .ok (.lmul, 1) := by decide +kernel
theorem d1_46 : decode prog_38_method_2_code 46 = .ok (.ldc2_w 18, 3) := by decide +kernel
theorem d1_49 : decode prog_38_method_2_code 49 = .ok (.ladd, 1) := by decide +kernel
theorem d1_50 : decode prog_38_method_2_code 50 = .ok (.ldc2_w 20, 3) := by decide +kernel
theorem d1_53 : decode prog_38_method_2_code 53 = .ok (.ldiv, 1) := by decide +kernel
theorem d1_54 : decode prog_38_method_2_code 54 = .ok (.lstore_n 2, 1) := by decide +kernel
theorem d1_55 : decode prog_38_method_2_code 55 = .ok (.aload_n 0, 1) := by decide +kernel
theorem d1_56 : decode prog_38_method_2_code 56 = .ok (.lload_n 2, 1) := by decide +kernel
theorem d1_57 : decode prog_38_method_2_code 57 = .ok (.l2i, 1) := by decide +kernel
theorem d1_58 : decode prog_38_method_2_code 58 = .ok (.iconst 1, 1) := by decide +kernel
theorem d1_59 : decode prog_38_method_2_code 59 = .ok (.isub, 1) := by decide +kernel
theorem d1_60 : decode prog_38_method_2_code 60 = .ok (.laload, 1) := by decide +kernel
theorem d1_61 : decode prog_38_method_2_code 61 = .ok (.lreturn, 1) := by decide +kernel
theorem pn_1 : plainName "com/example/seshat/seshat/util/Percentiles" = true := by first | (simp [plainName, overriddenIn]; done) | decide +kernel
theorem ef_1_1 (m : MethodId) (x0 : Addr) (x1 : Int32) : entryFrame m #[(.ref x0), (.int x1)] 4 = mkF m 0 #[.val (.ref x0), .val (.int x1), .unset, .unset] [] := by first | (simp [entryFrame, mkF, argsToLocals, Value.category]; done) | rfl
def own_f1_1_ret (v0 : Int64) (x1 : Int32) : Int64 := (([v0] : List Int64).getD (own_ix (1 : Int64) x1).toNatClampNeg 0)
def Q1_1 (Z : State) (aa : Addr) (v0 : Int64) (x1 : Int32) (k_aa : ClassId) (h0 : Heap) (n0 : Nat) (v : Option Value) (h : Heap) (L : List Loc) : Prop := v = some (.long (own_f1_1_ret v0 x1)) ∧ Fr n0 L ∧ h = h0
set_option maxRecDepth 65536 in
set_option maxHeartbeats 40000000 in
theorem rm1_1 (l : Launch) (Z : State) (a0 : Array Value) (hw : ∀ d ∈ tables_1, d.before a0 Z = true) (ws : List Jvm.Cond) (aa : Addr) (v0 : Int64) (x1 : Int32) (k_aa : ClassId) (h0 : Heap) (n0 : Nat) (Z0 : n0 ≤ h0.size) (V_aa : Arv Z h0 aa k_aa .long (1 : Int32) [.long v0] (.long (0 : Int64))) (hp1 : ¬ x1 < (1 : Int32)) (hp2 : ¬ (100 : Int32) < x1) :
    Con l (⟨"com/example/seshat/seshat/util/Percentiles", "nearestRank", "([JI)J"⟩ : MethodName) prog_38_method_2_code 4 (some .long) ws ({ frames := 0, cells := 0, slots := 0, locals := 0 } : Room) #[(.ref aa), (.int x1)] Z h0 (Q1_1 Z aa v0 x1 k_aa h0 n0) ({ frames := 0, cells := 0, slots := 0, locals := 0 } : Room).cells ({ frames := 0, cells := 0, slots := 0, locals := 0 } : Room).slots := by
  refine own_body (plainFor_of_name pn_1) ?_
  intro p e s m below meth c s₁ hx hby hlk hml hown hnm hrt hZ X0 e0
  have w : ∀ (k : Nat) (d : Jvm.Cond), tables_1[k]? = some d → d.before a0 Z = true := fun k d h => hw d (List.mem_of_getElem? h)
  have N0 := Fr.nil n0
  rw [ef_1_1]
  generalize hOWE : Owe s _ _ _ = OWE
  refine o_aloadN X0 hx (hb hby d1_0) (pc' := 1) rfl rfl rfl ?_
  refine o_arraylength X0 hx hZ e0 V_aa (hb hby d1_1) (pc' := 2) rfl ?_
  refine o_ifY X0 hx (hb hby d1_2) (feq (by decide : ¬ ((1 : Int32) = (0 : Int32)))).2 (by decide) (pc' := 15) (by decide) ?_
  refine o_iloadN X0 hx (hb hby d1_15) (pc' := 16) rfl rfl ?_
  refine o_iconst X0 hx (1 : Int32) (hb hby d1_16) (pc' := 17) rfl (by decide) ?_
  refine o_cmpN X0 hx (hb hby d1_17) (flt (hp1 : ¬ (x1 < (1 : Int32)))).1 (pc' := 20) rfl ?_
  refine o_iloadN X0 hx (hb hby d1_20) (pc' := 21) rfl rfl ?_
  refine o_bipush X0 hx (100 : Int32) (hb hby d1_21) (pc' := 23) rfl (by decide) ?_
  refine o_cmpY X0 hx (hb hby d1_23) (flt (hp2 : ¬ ((100 : Int32) < x1))).2.2.2 (by decide) (pc' := 40) (by decide) ?_
  refine o_iloadN X0 hx (hb hby d1_40) (pc' := 41) rfl rfl ?_
  refine o_i2l X0 hx (hb hby d1_41) (pc' := 42) rfl ?_
  refine o_aloadN X0 hx (hb hby d1_42) (pc' := 43) rfl rfl rfl ?_
  refine o_arraylength X0 hx hZ e0 V_aa (hb hby d1_43) (pc' := 44) rfl ?_
  refine o_i2l X0 hx (hb hby d1_44) (pc' := 45) rfl ?_
  rw [show ((1 : Int32).toInt64) = (1 : Int64) from by decide]
  refine o_lmul X0 hx (hb hby d1_45) (pc' := 46) rfl ?_
  refine o_ldcJ X0 hx hZ (99 : Int64) hown (w 7 _ rfl) (hb hby d1_46) (pc' := 49) rfl ?_
  refine o_ladd X0 hx (hb hby d1_49) (pc' := 50) rfl ?_
  refine o_ldcJ X0 hx hZ (100 : Int64) hown (w 8 _ rfl) (hb hby d1_50) (pc' := 53) rfl ?_
  refine o_ldiv X0 hx (hb hby d1_53) (pc' := 54) rfl (by decide) ?_
  refine o_lstoreN X0 hx (hb hby d1_54) (pc' := 55) rfl (L' := #[.val (.ref aa), .val (.int x1), .val (.long ((((x1.toInt64) * (1 : Int64)) + (99 : Int64)) / (100 : Int64))), .second]) rfl ?_
  refine o_aloadN X0 hx (hb hby d1_55) (pc' := 56) rfl rfl rfl ?_
  refine o_lloadN X0 hx (hb hby d1_56) (pc' := 57) rfl rfl ?_
  refine o_l2i X0 hx (hb hby d1_57) (pc' := 58) rfl ?_
  refine o_iconst X0 hx (1 : Int32) (hb hby d1_58) (pc' := 59) rfl (by decide) ?_
  refine o_isub X0 hx (hb hby d1_59) (pc' := 60) rfl ?_
  refine o_laload X0 hx hZ (.long (([v0] : List Int64).getD (own_ix (1 : Int64) x1).toNatClampNeg 0)) e0 V_aa (own_ix_in (1 : Int64) (1 : Int32) x1 1 (by decide) (by decide) hp1 hp2 (by decide) (by decide)) (own_getJ [v0] _) (hb hby d1_60) (pc' := 61) rfl ?_
  rw [← hOWE]
  exact o_retJ X0 hx hlk hrt (hb hby d1_61) (by decide) (by decide) (by rw [e0]; exact ⟨(by rw [own_f1_1_ret]), N0, rfl⟩)
theorem ef_1_2 (m : MethodId) (x0 : Addr) (x1 : Int32) : entryFrame m #[(.ref x0), (.int x1)] 4 = mkF m 0 #[.val (.ref x0), .val (.int x1), .unset, .unset] [] := by first | (simp [entryFrame, mkF, argsToLocals, Value.category]; done) | rfl
def own_f1_2_ret (v0 : Int64) (v1 : Int64) (x1 : Int32) : Int64 := (([v0, v1] : List Int64).getD (own_ix (2 : Int64) x1).toNatClampNeg 0)
def Q1_2 (Z : State) (aa : Addr) (v0 : Int64) (v1 : Int64) (x1 : Int32) (k_aa : ClassId) (h0 : Heap) (n0 : Nat) (v : Option Value) (h : Heap) (L : List Loc) : Prop := v = some (.long (own_f1_2_ret v0 v1 x1)) ∧ Fr n0 L ∧ h = h0
set_option maxRecDepth 65536 in
set_option maxHeartbeats 40000000 in
theorem rm1_2 (l : Launch) (Z : State) (a0 : Array Value) (hw : ∀ d ∈ tables_1, d.before a0 Z = true) (ws : List Jvm.Cond) (aa : Addr) (v0 : Int64) (v1 : Int64) (x1 : Int32) (k_aa : ClassId) (h0 : Heap) (n0 : Nat) (Z0 : n0 ≤ h0.size) (V_aa : Arv Z h0 aa k_aa .long (2 : Int32) [.long v0, .long v1] (.long (0 : Int64))) (hp1 : ¬ x1 < (1 : Int32)) (hp2 : ¬ (100 : Int32) < x1) :
    Con l (⟨"com/example/seshat/seshat/util/Percentiles", "nearestRank", "([JI)J"⟩ : MethodName) prog_38_method_2_code 4 (some .long) ws ({ frames := 0, cells := 0, slots := 0, locals := 0 } : Room) #[(.ref aa), (.int x1)] Z h0 (Q1_2 Z aa v0 v1 x1 k_aa h0 n0) ({ frames := 0, cells := 0, slots := 0, locals := 0 } : Room).cells ({ frames := 0, cells := 0, slots := 0, locals := 0 } : Room).slots := by
  refine own_body (plainFor_of_name pn_1) ?_
  intro p e s m below meth c s₁ hx hby hlk hml hown hnm hrt hZ X0 e0
  have w : ∀ (k : Nat) (d : Jvm.Cond), tables_1[k]? = some d → d.before a0 Z = true := fun k d h => hw d (List.mem_of_getElem? h)
  have N0 := Fr.nil n0
  rw [ef_1_2]
  generalize hOWE : Owe s _ _ _ = OWE
  refine o_aloadN X0 hx (hb hby d1_0) (pc' := 1) rfl rfl rfl ?_
  refine o_arraylength X0 hx hZ e0 V_aa (hb hby d1_1) (pc' := 2) rfl ?_
  refine o_ifY X0 hx (hb hby d1_2) (feq (by decide : ¬ ((2 : Int32) = (0 : Int32)))).2 (by decide) (pc' := 15) (by decide) ?_
  refine o_iloadN X0 hx (hb hby d1_15) (pc' := 16) rfl rfl ?_
  refine o_iconst X0 hx (1 : Int32) (hb hby d1_16) (pc' := 17) rfl (by decide) ?_
  refine o_cmpN X0 hx (hb hby d1_17) (flt (hp1 : ¬ (x1 < (1 : Int32)))).1 (pc' := 20) rfl ?_
  refine o_iloadN X0 hx (hb hby d1_20) (pc' := 21) rfl rfl ?_
  refine o_bipush X0 hx (100 : Int32) (hb hby d1_21) (pc' := 23) rfl (by decide) ?_
  refine o_cmpY X0 hx (hb hby d1_23) (flt (hp2 : ¬ ((100 : Int32) < x1))).2.2.2 (by decide) (pc' := 40) (by decide) ?_
  refine o_iloadN X0 hx (hb hby d1_40) (pc' := 41) rfl rfl ?_
  refine o_i2l X0 hx (hb hby d1_41) (pc' := 42) rfl ?_
  refine o_aloadN X0 hx (hb hby d1_42) (pc' := 43) rfl rfl rfl ?_
  refine o_arraylength X0 hx hZ e0 V_aa (hb hby d1_43) (pc' := 44) rfl ?_
  refine o_i2l X0 hx (hb hby d1_44) (pc' := 45) rfl ?_
  rw [show ((2 : Int32).toInt64) = (2 : Int64) from by decide]
  refine o_lmul X0 hx (hb hby d1_45) (pc' := 46) rfl ?_
  refine o_ldcJ X0 hx hZ (99 : Int64) hown (w 7 _ rfl) (hb hby d1_46) (pc' := 49) rfl ?_
  refine o_ladd X0 hx (hb hby d1_49) (pc' := 50) rfl ?_
  refine o_ldcJ X0 hx hZ (100 : Int64) hown (w 8 _ rfl) (hb hby d1_50) (pc' := 53) rfl ?_
  refine o_ldiv X0 hx (hb hby d1_53) (pc' := 54) rfl (by decide) ?_
  refine o_lstoreN X0 hx (hb hby d1_54) (pc' := 55) rfl (L' := #[.val (.ref aa), .val (.int x1), .val (.long ((((x1.toInt64) * (2 : Int64)) + (99 : Int64)) / (100 : Int64))), .second]) rfl ?_
  refine o_aloadN X0 hx (hb hby d1_55) (pc' := 56) rfl rfl rfl ?_
  refine o_lloadN X0 hx (hb hby d1_56) (pc' := 57) rfl rfl ?_
  refine o_l2i X0 hx (hb hby d1_57) (pc' := 58) rfl ?_
  refine o_iconst X0 hx (1 : Int32) (hb hby d1_58) (pc' := 59) rfl (by decide) ?_
  refine o_isub X0 hx (hb hby d1_59) (pc' := 60) rfl ?_
  refine o_laload X0 hx hZ (.long (([v0, v1] : List Int64).getD (own_ix (2 : Int64) x1).toNatClampNeg 0)) e0 V_aa (own_ix_in (2 : Int64) (2 : Int32) x1 2 (by decide) (by decide) hp1 hp2 (by decide) (by decide)) (own_getJ [v0, v1] _) (hb hby d1_60) (pc' := 61) rfl ?_
  rw [← hOWE]
  exact o_retJ X0 hx hlk hrt (hb hby d1_61) (by decide) (by decide) (by rw [e0]; exact ⟨(by rw [own_f1_2_ret]), N0, rfl⟩)
theorem ef_1_3 (m : MethodId) (x0 : Addr) (x1 : Int32) : entryFrame m #[(.ref x0), (.int x1)] 4 = mkF m 0 #[.val (.ref x0), .val (.int x1), .unset, .unset] [] := by first | (simp [entryFrame, mkF, argsToLocals, Value.category]; done) | rfl
def own_f1_3_ret (v0 : Int64) (v1 : Int64) (v2 : Int64) (x1 : Int32) : Int64 := (([v0, v1, v2] : List Int64).getD (own_ix (3 : Int64) x1).toNatClampNeg 0)
def Q1_3 (Z : State) (aa : Addr) (v0 : Int64) (v1 : Int64) (v2 : Int64) (x1 : Int32) (k_aa : ClassId) (h0 : Heap) (n0 : Nat) (v : Option Value) (h : Heap) (L : List Loc) : Prop := v = some (.long (own_f1_3_ret v0 v1 v2 x1)) ∧ Fr n0 L ∧ h = h0
set_option maxRecDepth 65536 in
set_option maxHeartbeats 40000000 in
theorem rm1_3 (l : Launch) (Z : State) (a0 : Array Value) (hw : ∀ d ∈ tables_1, d.before a0 Z = true) (ws : List Jvm.Cond) (aa : Addr) (v0 : Int64) (v1 : Int64) (v2 : Int64) (x1 : Int32) (k_aa : ClassId) (h0 : Heap) (n0 : Nat) (Z0 : n0 ≤ h0.size) (V_aa : Arv Z h0 aa k_aa .long (3 : Int32) [.long v0, .long v1, .long v2] (.long (0 : Int64))) (hp1 : ¬ x1 < (1 : Int32)) (hp2 : ¬ (100 : Int32) < x1) :
    Con l (⟨"com/example/seshat/seshat/util/Percentiles", "nearestRank", "([JI)J"⟩ : MethodName) prog_38_method_2_code 4 (some .long) ws ({ frames := 0, cells := 0, slots := 0, locals := 0 } : Room) #[(.ref aa), (.int x1)] Z h0 (Q1_3 Z aa v0 v1 v2 x1 k_aa h0 n0) ({ frames := 0, cells := 0, slots := 0, locals := 0 } : Room).cells ({ frames := 0, cells := 0, slots := 0, locals := 0 } : Room).slots := by
  refine own_body (plainFor_of_name pn_1) ?_
  intro p e s m below meth c s₁ hx hby hlk hml hown hnm hrt hZ X0 e0
  have w : ∀ (k : Nat) (d : Jvm.Cond), tables_1[k]? = some d → d.before a0 Z = true := fun k d h => hw d (List.mem_of_getElem? h)
  have N0 := Fr.nil n0
  rw [ef_1_3]
  generalize hOWE : Owe s _ _ _ = OWE
  refine o_aloadN X0 hx (hb hby d1_0) (pc' := 1) rfl rfl rfl ?_
  refine o_arraylength X0 hx hZ e0 V_aa (hb hby d1_1) (pc' := 2) rfl ?_
  refine o_ifY X0 hx (hb hby d1_2) (feq (by decide : ¬ ((3 : Int32) = (0 : Int32)))).2 (by decide) (pc' := 15) (by decide) ?_
  refine o_iloadN X0 hx (hb hby d1_15) (pc' := 16) rfl rfl ?_
  refine o_iconst X0 hx (1 : Int32) (hb hby d1_16) (pc' := 17) rfl (by decide) ?_
  refine o_cmpN X0 hx (hb hby d1_17) (flt (hp1 : ¬ (x1 < (1 : Int32)))).1 (pc' := 20) rfl ?_
  refine o_iloadN X0 hx (hb hby d1_20) (pc' := 21) rfl rfl ?_
  refine o_bipush X0 hx (100 : Int32) (hb hby d1_21) (pc' := 23) rfl (by decide) ?_
  refine o_cmpY X0 hx (hb hby d1_23) (flt (hp2 : ¬ ((100 : Int32) < x1))).2.2.2 (by decide) (pc' := 40) (by decide) ?_
  refine o_iloadN X0 hx (hb hby d1_40) (pc' := 41) rfl rfl ?_
  refine o_i2l X0 hx (hb hby d1_41) (pc' := 42) rfl ?_
  refine o_aloadN X0 hx (hb hby d1_42) (pc' := 43) rfl rfl rfl ?_
  refine o_arraylength X0 hx hZ e0 V_aa (hb hby d1_43) (pc' := 44) rfl ?_
  refine o_i2l X0 hx (hb hby d1_44) (pc' := 45) rfl ?_
  rw [show ((3 : Int32).toInt64) = (3 : Int64) from by decide]
  refine o_lmul X0 hx (hb hby d1_45) (pc' := 46) rfl ?_
  refine o_ldcJ X0 hx hZ (99 : Int64) hown (w 7 _ rfl) (hb hby d1_46) (pc' := 49) rfl ?_
  refine o_ladd X0 hx (hb hby d1_49) (pc' := 50) rfl ?_
  refine o_ldcJ X0 hx hZ (100 : Int64) hown (w 8 _ rfl) (hb hby d1_50) (pc' := 53) rfl ?_
  refine o_ldiv X0 hx (hb hby d1_53) (pc' := 54) rfl (by decide) ?_
  refine o_lstoreN X0 hx (hb hby d1_54) (pc' := 55) rfl (L' := #[.val (.ref aa), .val (.int x1), .val (.long ((((x1.toInt64) * (3 : Int64)) + (99 : Int64)) / (100 : Int64))), .second]) rfl ?_
  refine o_aloadN X0 hx (hb hby d1_55) (pc' := 56) rfl rfl rfl ?_
  refine o_lloadN X0 hx (hb hby d1_56) (pc' := 57) rfl rfl ?_
  refine o_l2i X0 hx (hb hby d1_57) (pc' := 58) rfl ?_
  refine o_iconst X0 hx (1 : Int32) (hb hby d1_58) (pc' := 59) rfl (by decide) ?_
  refine o_isub X0 hx (hb hby d1_59) (pc' := 60) rfl ?_
  refine o_laload X0 hx hZ (.long (([v0, v1, v2] : List Int64).getD (own_ix (3 : Int64) x1).toNatClampNeg 0)) e0 V_aa (own_ix_in (3 : Int64) (3 : Int32) x1 3 (by decide) (by decide) hp1 hp2 (by decide) (by decide)) (own_getJ [v0, v1, v2] _) (hb hby d1_60) (pc' := 61) rfl ?_
  rw [← hOWE]
  exact o_retJ X0 hx hlk hrt (hb hby d1_61) (by decide) (by decide) (by rw [e0]; exact ⟨(by rw [own_f1_3_ret]), N0, rfl⟩)
theorem ef_1_4 (m : MethodId) (x0 : Addr) (x1 : Int32) : entryFrame m #[(.ref x0), (.int x1)] 4 = mkF m 0 #[.val (.ref x0), .val (.int x1), .unset, .unset] [] := by first | (simp [entryFrame, mkF, argsToLocals, Value.category]; done) | rfl
def own_f1_4_ret (v0 : Int64) (v1 : Int64) (v2 : Int64) (v3 : Int64) (x1 : Int32) : Int64 := (([v0, v1, v2, v3] : List Int64).getD (own_ix (4 : Int64) x1).toNatClampNeg 0)
def Q1_4 (Z : State) (aa : Addr) (v0 : Int64) (v1 : Int64) (v2 : Int64) (v3 : Int64) (x1 : Int32) (k_aa : ClassId) (h0 : Heap) (n0 : Nat) (v : Option Value) (h : Heap) (L : List Loc) : Prop := v = some (.long (own_f1_4_ret v0 v1 v2 v3 x1)) ∧ Fr n0 L ∧ h = h0
set_option maxRecDepth 65536 in
set_option maxHeartbeats 40000000 in
theorem rm1_4 (l : Launch) (Z : State) (a0 : Array Value) (hw : ∀ d ∈ tables_1, d.before a0 Z = true) (ws : List Jvm.Cond) (aa : Addr) (v0 : Int64) (v1 : Int64) (v2 : Int64) (v3 : Int64) (x1 : Int32) (k_aa : ClassId) (h0 : Heap) (n0 : Nat) (Z0 : n0 ≤ h0.size) (V_aa : Arv Z h0 aa k_aa .long (4 : Int32) [.long v0, .long v1, .long v2, .long v3] (.long (0 : Int64))) (hp1 : ¬ x1 < (1 : Int32)) (hp2 : ¬ (100 : Int32) < x1) :
    Con l (⟨"com/example/seshat/seshat/util/Percentiles", "nearestRank", "([JI)J"⟩ : MethodName) prog_38_method_2_code 4 (some .long) ws ({ frames := 0, cells := 0, slots := 0, locals := 0 } : Room) #[(.ref aa), (.int x1)] Z h0 (Q1_4 Z aa v0 v1 v2 v3 x1 k_aa h0 n0) ({ frames := 0, cells := 0, slots := 0, locals := 0 } : Room).cells ({ frames := 0, cells := 0, slots := 0, locals := 0 } : Room).slots := by
  refine own_body (plainFor_of_name pn_1) ?_
  intro p e s m below meth c s₁ hx hby hlk hml hown hnm hrt hZ X0 e0
  have w : ∀ (k : Nat) (d : Jvm.Cond), tables_1[k]? = some d → d.before a0 Z = true := fun k d h => hw d (List.mem_of_getElem? h)
  have N0 := Fr.nil n0
  rw [ef_1_4]
  generalize hOWE : Owe s _ _ _ = OWE
  refine o_aloadN X0 hx (hb hby d1_0) (pc' := 1) rfl rfl rfl ?_
  refine o_arraylength X0 hx hZ e0 V_aa (hb hby d1_1) (pc' := 2) rfl ?_
  refine o_ifY X0 hx (hb hby d1_2) (feq (by decide : ¬ ((4 : Int32) = (0 : Int32)))).2 (by decide) (pc' := 15) (by decide) ?_
  refine o_iloadN X0 hx (hb hby d1_15) (pc' := 16) rfl rfl ?_
  refine o_iconst X0 hx (1 : Int32) (hb hby d1_16) (pc' := 17) rfl (by decide) ?_
  refine o_cmpN X0 hx (hb hby d1_17) (flt (hp1 : ¬ (x1 < (1 : Int32)))).1 (pc' := 20) rfl ?_
  refine o_iloadN X0 hx (hb hby d1_20) (pc' := 21) rfl rfl ?_
  refine o_bipush X0 hx (100 : Int32) (hb hby d1_21) (pc' := 23) rfl (by decide) ?_
  refine o_cmpY X0 hx (hb hby d1_23) (flt (hp2 : ¬ ((100 : Int32) < x1))).2.2.2 (by decide) (pc' := 40) (by decide) ?_
  refine o_iloadN X0 hx (hb hby d1_40) (pc' := 41) rfl rfl ?_
  refine o_i2l X0 hx (hb hby d1_41) (pc' := 42) rfl ?_
  refine o_aloadN X0 hx (hb hby d1_42) (pc' := 43) rfl rfl rfl ?_
  refine o_arraylength X0 hx hZ e0 V_aa (hb hby d1_43) (pc' := 44) rfl ?_
  refine o_i2l X0 hx (hb hby d1_44) (pc' := 45) rfl ?_
  rw [show ((4 : Int32).toInt64) = (4 : Int64) from by decide]
  refine o_lmul X0 hx (hb hby d1_45) (pc' := 46) rfl ?_
  refine o_ldcJ X0 hx hZ (99 : Int64) hown (w 7 _ rfl) (hb hby d1_46) (pc' := 49) rfl ?_
  refine o_ladd X0 hx (hb hby d1_49) (pc' := 50) rfl ?_
  refine o_ldcJ X0 hx hZ (100 : Int64) hown (w 8 _ rfl) (hb hby d1_50) (pc' := 53) rfl ?_
  refine o_ldiv X0 hx (hb hby d1_53) (pc' := 54) rfl (by decide) ?_
  refine o_lstoreN X0 hx (hb hby d1_54) (pc' := 55) rfl (L' := #[.val (.ref aa), .val (.int x1), .val (.long ((((x1.toInt64) * (4 : Int64)) + (99 : Int64)) / (100 : Int64))), .second]) rfl ?_
  refine o_aloadN X0 hx (hb hby d1_55) (pc' := 56) rfl rfl rfl ?_
  refine o_lloadN X0 hx (hb hby d1_56) (pc' := 57) rfl rfl ?_
  refine o_l2i X0 hx (hb hby d1_57) (pc' := 58) rfl ?_
  refine o_iconst X0 hx (1 : Int32) (hb hby d1_58) (pc' := 59) rfl (by decide) ?_
  refine o_isub X0 hx (hb hby d1_59) (pc' := 60) rfl ?_
  refine o_laload X0 hx hZ (.long (([v0, v1, v2, v3] : List Int64).getD (own_ix (4 : Int64) x1).toNatClampNeg 0)) e0 V_aa (own_ix_in (4 : Int64) (4 : Int32) x1 4 (by decide) (by decide) hp1 hp2 (by decide) (by decide)) (own_getJ [v0, v1, v2, v3] _) (hb hby d1_60) (pc' := 61) rfl ?_
  rw [← hOWE]
  exact o_retJ X0 hx hlk hrt (hb hby d1_61) (by decide) (by decide) (by rw [e0]; exact ⟨(by rw [own_f1_4_ret]), N0, rfl⟩)
theorem ef_1_5 (m : MethodId) (x0 : Addr) (x1 : Int32) : entryFrame m #[(.ref x0), (.int x1)] 4 = mkF m 0 #[.val (.ref x0), .val (.int x1), .unset, .unset] [] := by first | (simp [entryFrame, mkF, argsToLocals, Value.category]; done) | rfl
def own_f1_5_ret (v0 : Int64) (v1 : Int64) (v2 : Int64) (v3 : Int64) (v4 : Int64) (x1 : Int32) : Int64 := (([v0, v1, v2, v3, v4] : List Int64).getD (own_ix (5 : Int64) x1).toNatClampNeg 0)
def Q1_5 (Z : State) (aa : Addr) (v0 : Int64) (v1 : Int64) (v2 : Int64) (v3 : Int64) (v4 : Int64) (x1 : Int32) (k_aa : ClassId) (h0 : Heap) (n0 : Nat) (v : Option Value) (h : Heap) (L : List Loc) : Prop := v = some (.long (own_f1_5_ret v0 v1 v2 v3 v4 x1)) ∧ Fr n0 L ∧ h = h0
set_option maxRecDepth 65536 in
set_option maxHeartbeats 40000000 in
theorem rm1_5 (l : Launch) (Z : State) (a0 : Array Value) (hw : ∀ d ∈ tables_1, d.before a0 Z = true) (ws : List Jvm.Cond) (aa : Addr) (v0 : Int64) (v1 : Int64) (v2 : Int64) (v3 : Int64) (v4 : Int64) (x1 : Int32) (k_aa : ClassId) (h0 : Heap) (n0 : Nat) (Z0 : n0 ≤ h0.size) (V_aa : Arv Z h0 aa k_aa .long (5 : Int32) [.long v0, .long v1, .long v2, .long v3, .long v4] (.long (0 : Int64))) (hp1 : ¬ x1 < (1 : Int32)) (hp2 : ¬ (100 : Int32) < x1) :
    Con l (⟨"com/example/seshat/seshat/util/Percentiles", "nearestRank", "([JI)J"⟩ : MethodName) prog_38_method_2_code 4 (some .long) ws ({ frames := 0, cells := 0, slots := 0, locals := 0 } : Room) #[(.ref aa), (.int x1)] Z h0 (Q1_5 Z aa v0 v1 v2 v3 v4 x1 k_aa h0 n0) ({ frames := 0, cells := 0, slots := 0, locals := 0 } : Room).cells ({ frames := 0, cells := 0, slots := 0, locals := 0 } : Room).slots := by
  refine own_body (plainFor_of_name pn_1) ?_
  intro p e s m below meth c s₁ hx hby hlk hml hown hnm hrt hZ X0 e0
  have w : ∀ (k : Nat) (d : Jvm.Cond), tables_1[k]? = some d → d.before a0 Z = true := fun k d h => hw d (List.mem_of_getElem? h)
  have N0 := Fr.nil n0
  rw [ef_1_5]
  generalize hOWE : Owe s _ _ _ = OWE
  refine o_aloadN X0 hx (hb hby d1_0) (pc' := 1) rfl rfl rfl ?_
  refine o_arraylength X0 hx hZ e0 V_aa (hb hby d1_1) (pc' := 2) rfl ?_
  refine o_ifY X0 hx (hb hby d1_2) (feq (by decide : ¬ ((5 : Int32) = (0 : Int32)))).2 (by decide) (pc' := 15) (by decide) ?_
  refine o_iloadN X0 hx (hb hby d1_15) (pc' := 16) rfl rfl ?_
  refine o_iconst X0 hx (1 : Int32) (hb hby d1_16) (pc' := 17) rfl (by decide) ?_
  refine o_cmpN X0 hx (hb hby d1_17) (flt (hp1 : ¬ (x1 < (1 : Int32)))).1 (pc' := 20) rfl ?_
  refine o_iloadN X0 hx (hb hby d1_20) (pc' := 21) rfl rfl ?_
  refine o_bipush X0 hx (100 : Int32) (hb hby d1_21) (pc' := 23) rfl (by decide) ?_
  refine o_cmpY X0 hx (hb hby d1_23) (flt (hp2 : ¬ ((100 : Int32) < x1))).2.2.2 (by decide) (pc' := 40) (by decide) ?_
  refine o_iloadN X0 hx (hb hby d1_40) (pc' := 41) rfl rfl ?_
  refine o_i2l X0 hx (hb hby d1_41) (pc' := 42) rfl ?_
  refine o_aloadN X0 hx (hb hby d1_42) (pc' := 43) rfl rfl rfl ?_
  refine o_arraylength X0 hx hZ e0 V_aa (hb hby d1_43) (pc' := 44) rfl ?_
  refine o_i2l X0 hx (hb hby d1_44) (pc' := 45) rfl ?_
  rw [show ((5 : Int32).toInt64) = (5 : Int64) from by decide]
  refine o_lmul X0 hx (hb hby d1_45) (pc' := 46) rfl ?_
  refine o_ldcJ X0 hx hZ (99 : Int64) hown (w 7 _ rfl) (hb hby d1_46) (pc' := 49) rfl ?_
  refine o_ladd X0 hx (hb hby d1_49) (pc' := 50) rfl ?_
  refine o_ldcJ X0 hx hZ (100 : Int64) hown (w 8 _ rfl) (hb hby d1_50) (pc' := 53) rfl ?_
  refine o_ldiv X0 hx (hb hby d1_53) (pc' := 54) rfl (by decide) ?_
  refine o_lstoreN X0 hx (hb hby d1_54) (pc' := 55) rfl (L' := #[.val (.ref aa), .val (.int x1), .val (.long ((((x1.toInt64) * (5 : Int64)) + (99 : Int64)) / (100 : Int64))), .second]) rfl ?_
  refine o_aloadN X0 hx (hb hby d1_55) (pc' := 56) rfl rfl rfl ?_
  refine o_lloadN X0 hx (hb hby d1_56) (pc' := 57) rfl rfl ?_
  refine o_l2i X0 hx (hb hby d1_57) (pc' := 58) rfl ?_
  refine o_iconst X0 hx (1 : Int32) (hb hby d1_58) (pc' := 59) rfl (by decide) ?_
  refine o_isub X0 hx (hb hby d1_59) (pc' := 60) rfl ?_
  refine o_laload X0 hx hZ (.long (([v0, v1, v2, v3, v4] : List Int64).getD (own_ix (5 : Int64) x1).toNatClampNeg 0)) e0 V_aa (own_ix_in (5 : Int64) (5 : Int32) x1 5 (by decide) (by decide) hp1 hp2 (by decide) (by decide)) (own_getJ [v0, v1, v2, v3, v4] _) (hb hby d1_60) (pc' := 61) rfl ?_
  rw [← hOWE]
  exact o_retJ X0 hx hlk hrt (hb hby d1_61) (by decide) (by decide) (by rw [e0]; exact ⟨(by rw [own_f1_5_ret]), N0, rfl⟩)
theorem ef_1_6 (m : MethodId) (x0 : Addr) (x1 : Int32) : entryFrame m #[(.ref x0), (.int x1)] 4 = mkF m 0 #[.val (.ref x0), .val (.int x1), .unset, .unset] [] := by first | (simp [entryFrame, mkF, argsToLocals, Value.category]; done) | rfl
def own_f1_6_ret (v0 : Int64) (v1 : Int64) (v2 : Int64) (v3 : Int64) (v4 : Int64) (v5 : Int64) (x1 : Int32) : Int64 := (([v0, v1, v2, v3, v4, v5] : List Int64).getD (own_ix (6 : Int64) x1).toNatClampNeg 0)
def Q1_6 (Z : State) (aa : Addr) (v0 : Int64) (v1 : Int64) (v2 : Int64) (v3 : Int64) (v4 : Int64) (v5 : Int64) (x1 : Int32) (k_aa : ClassId) (h0 : Heap) (n0 : Nat) (v : Option Value) (h : Heap) (L : List Loc) : Prop := v = some (.long (own_f1_6_ret v0 v1 v2 v3 v4 v5 x1)) ∧ Fr n0 L ∧ h = h0
set_option maxRecDepth 65536 in
set_option maxHeartbeats 40000000 in
theorem rm1_6 (l : Launch) (Z : State) (a0 : Array Value) (hw : ∀ d ∈ tables_1, d.before a0 Z = true) (ws : List Jvm.Cond) (aa : Addr) (v0 : Int64) (v1 : Int64) (v2 : Int64) (v3 : Int64) (v4 : Int64) (v5 : Int64) (x1 : Int32) (k_aa : ClassId) (h0 : Heap) (n0 : Nat) (Z0 : n0 ≤ h0.size) (V_aa : Arv Z h0 aa k_aa .long (6 : Int32) [.long v0, .long v1, .long v2, .long v3, .long v4, .long v5] (.long (0 : Int64))) (hp1 : ¬ x1 < (1 : Int32)) (hp2 : ¬ (100 : Int32) < x1) :
    Con l (⟨"com/example/seshat/seshat/util/Percentiles", "nearestRank", "([JI)J"⟩ : MethodName) prog_38_method_2_code 4 (some .long) ws ({ frames := 0, cells := 0, slots := 0, locals := 0 } : Room) #[(.ref aa), (.int x1)] Z h0 (Q1_6 Z aa v0 v1 v2 v3 v4 v5 x1 k_aa h0 n0) ({ frames := 0, cells := 0, slots := 0, locals := 0 } : Room).cells ({ frames := 0, cells := 0, slots := 0, locals := 0 } : Room).slots := by
  refine own_body (plainFor_of_name pn_1) ?_
  intro p e s m below meth c s₁ hx hby hlk hml hown hnm hrt hZ X0 e0
  have w : ∀ (k : Nat) (d : Jvm.Cond), tables_1[k]? = some d → d.before a0 Z = true := fun k d h => hw d (List.mem_of_getElem? h)
  have N0 := Fr.nil n0
  rw [ef_1_6]
  generalize hOWE : Owe s _ _ _ = OWE
  refine o_aloadN X0 hx (hb hby d1_0) (pc' := 1) rfl rfl rfl ?_
  refine o_arraylength X0 hx hZ e0 V_aa (hb hby d1_1) (pc' := 2) rfl ?_
  refine o_ifY X0 hx (hb hby d1_2) (feq (by decide : ¬ ((6 : Int32) = (0 : Int32)))).2 (by decide) (pc' := 15) (by decide) ?_
  refine o_iloadN X0 hx (hb hby d1_15) (pc' := 16) rfl rfl ?_
  refine o_iconst X0 hx (1 : Int32) (hb hby d1_16) (pc' := 17) rfl (by decide) ?_
  refine o_cmpN X0 hx (hb hby d1_17) (flt (hp1 : ¬ (x1 < (1 : Int32)))).1 (pc' := 20) rfl ?_
  refine o_iloadN X0 hx (hb hby d1_20) (pc' := 21) rfl rfl ?_
  refine o_bipush X0 hx (100 : Int32) (hb hby d1_21) (pc' := 23) rfl (by decide) ?_
  refine o_cmpY X0 hx (hb hby d1_23) (flt (hp2 : ¬ ((100 : Int32) < x1))).2.2.2 (by decide) (pc' := 40) (by decide) ?_
  refine o_iloadN X0 hx (hb hby d1_40) (pc' := 41) rfl rfl ?_
  refine o_i2l X0 hx (hb hby d1_41) (pc' := 42) rfl ?_
  refine o_aloadN X0 hx (hb hby d1_42) (pc' := 43) rfl rfl rfl ?_
  refine o_arraylength X0 hx hZ e0 V_aa (hb hby d1_43) (pc' := 44) rfl ?_
  refine o_i2l X0 hx (hb hby d1_44) (pc' := 45) rfl ?_
  rw [show ((6 : Int32).toInt64) = (6 : Int64) from by decide]
  refine o_lmul X0 hx (hb hby d1_45) (pc' := 46) rfl ?_
  refine o_ldcJ X0 hx hZ (99 : Int64) hown (w 7 _ rfl) (hb hby d1_46) (pc' := 49) rfl ?_
  refine o_ladd X0 hx (hb hby d1_49) (pc' := 50) rfl ?_
  refine o_ldcJ X0 hx hZ (100 : Int64) hown (w 8 _ rfl) (hb hby d1_50) (pc' := 53) rfl ?_
  refine o_ldiv X0 hx (hb hby d1_53) (pc' := 54) rfl (by decide) ?_
  refine o_lstoreN X0 hx (hb hby d1_54) (pc' := 55) rfl (L' := #[.val (.ref aa), .val (.int x1), .val (.long ((((x1.toInt64) * (6 : Int64)) + (99 : Int64)) / (100 : Int64))), .second]) rfl ?_
  refine o_aloadN X0 hx (hb hby d1_55) (pc' := 56) rfl rfl rfl ?_
  refine o_lloadN X0 hx (hb hby d1_56) (pc' := 57) rfl rfl ?_
  refine o_l2i X0 hx (hb hby d1_57) (pc' := 58) rfl ?_
  refine o_iconst X0 hx (1 : Int32) (hb hby d1_58) (pc' := 59) rfl (by decide) ?_
  refine o_isub X0 hx (hb hby d1_59) (pc' := 60) rfl ?_
  refine o_laload X0 hx hZ (.long (([v0, v1, v2, v3, v4, v5] : List Int64).getD (own_ix (6 : Int64) x1).toNatClampNeg 0)) e0 V_aa (own_ix_in (6 : Int64) (6 : Int32) x1 6 (by decide) (by decide) hp1 hp2 (by decide) (by decide)) (own_getJ [v0, v1, v2, v3, v4, v5] _) (hb hby d1_60) (pc' := 61) rfl ?_
  rw [← hOWE]
  exact o_retJ X0 hx hlk hrt (hb hby d1_61) (by decide) (by decide) (by rw [e0]; exact ⟨(by rw [own_f1_6_ret]), N0, rfl⟩)
theorem ef_1_7 (m : MethodId) (x0 : Addr) (x1 : Int32) : entryFrame m #[(.ref x0), (.int x1)] 4 = mkF m 0 #[.val (.ref x0), .val (.int x1), .unset, .unset] [] := by first | (simp [entryFrame, mkF, argsToLocals, Value.category]; done) | rfl
def own_f1_7_ret (v0 : Int64) (v1 : Int64) (v2 : Int64) (v3 : Int64) (v4 : Int64) (v5 : Int64) (v6 : Int64) (x1 : Int32) : Int64 := (([v0, v1, v2, v3, v4, v5, v6] : List Int64).getD (own_ix (7 : Int64) x1).toNatClampNeg 0)
def Q1_7 (Z : State) (aa : Addr) (v0 : Int64) (v1 : Int64) (v2 : Int64) (v3 : Int64) (v4 : Int64) (v5 : Int64) (v6 : Int64) (x1 : Int32) (k_aa : ClassId) (h0 : Heap) (n0 : Nat) (v : Option Value) (h : Heap) (L : List Loc) : Prop := v = some (.long (own_f1_7_ret v0 v1 v2 v3 v4 v5 v6 x1)) ∧ Fr n0 L ∧ h = h0
set_option maxRecDepth 65536 in
set_option maxHeartbeats 40000000 in
theorem rm1_7 (l : Launch) (Z : State) (a0 : Array Value) (hw : ∀ d ∈ tables_1, d.before a0 Z = true) (ws : List Jvm.Cond) (aa : Addr) (v0 : Int64) (v1 : Int64) (v2 : Int64) (v3 : Int64) (v4 : Int64) (v5 : Int64) (v6 : Int64) (x1 : Int32) (k_aa : ClassId) (h0 : Heap) (n0 : Nat) (Z0 : n0 ≤ h0.size) (V_aa : Arv Z h0 aa k_aa .long (7 : Int32) [.long v0, .long v1, .long v2, .long v3, .long v4, .long v5, .long v6] (.long (0 : Int64))) (hp1 : ¬ x1 < (1 : Int32)) (hp2 : ¬ (100 : Int32) < x1) :
    Con l (⟨"com/example/seshat/seshat/util/Percentiles", "nearestRank", "([JI)J"⟩ : MethodName) prog_38_method_2_code 4 (some .long) ws ({ frames := 0, cells := 0, slots := 0, locals := 0 } : Room) #[(.ref aa), (.int x1)] Z h0 (Q1_7 Z aa v0 v1 v2 v3 v4 v5 v6 x1 k_aa h0 n0) ({ frames := 0, cells := 0, slots := 0, locals := 0 } : Room).cells ({ frames := 0, cells := 0, slots := 0, locals := 0 } : Room).slots := by
  refine own_body (plainFor_of_name pn_1) ?_
  intro p e s m below meth c s₁ hx hby hlk hml hown hnm hrt hZ X0 e0
  have w : ∀ (k : Nat) (d : Jvm.Cond), tables_1[k]? = some d → d.before a0 Z = true := fun k d h => hw d (List.mem_of_getElem? h)
  have N0 := Fr.nil n0
  rw [ef_1_7]
  generalize hOWE : Owe s _ _ _ = OWE
  refine o_aloadN X0 hx (hb hby d1_0) (pc' := 1) rfl rfl rfl ?_
  refine o_arraylength X0 hx hZ e0 V_aa (hb hby d1_1) (pc' := 2) rfl ?_
  refine o_ifY X0 hx (hb hby d1_2) (feq (by decide : ¬ ((7 : Int32) = (0 : Int32)))).2 (by decide) (pc' := 15) (by decide) ?_
  refine o_iloadN X0 hx (hb hby d1_15) (pc' := 16) rfl rfl ?_
  refine o_iconst X0 hx (1 : Int32) (hb hby d1_16) (pc' := 17) rfl (by decide) ?_
  refine o_cmpN X0 hx (hb hby d1_17) (flt (hp1 : ¬ (x1 < (1 : Int32)))).1 (pc' := 20) rfl ?_
  refine o_iloadN X0 hx (hb hby d1_20) (pc' := 21) rfl rfl ?_
  refine o_bipush X0 hx (100 : Int32) (hb hby d1_21) (pc' := 23) rfl (by decide) ?_
  refine o_cmpY X0 hx (hb hby d1_23) (flt (hp2 : ¬ ((100 : Int32) < x1))).2.2.2 (by decide) (pc' := 40) (by decide) ?_
  refine o_iloadN X0 hx (hb hby d1_40) (pc' := 41) rfl rfl ?_
  refine o_i2l X0 hx (hb hby d1_41) (pc' := 42) rfl ?_
  refine o_aloadN X0 hx (hb hby d1_42) (pc' := 43) rfl rfl rfl ?_
  refine o_arraylength X0 hx hZ e0 V_aa (hb hby d1_43) (pc' := 44) rfl ?_
  refine o_i2l X0 hx (hb hby d1_44) (pc' := 45) rfl ?_
  rw [show ((7 : Int32).toInt64) = (7 : Int64) from by decide]
  refine o_lmul X0 hx (hb hby d1_45) (pc' := 46) rfl ?_
  refine o_ldcJ X0 hx hZ (99 : Int64) hown (w 7 _ rfl) (hb hby d1_46) (pc' := 49) rfl ?_
  refine o_ladd X0 hx (hb hby d1_49) (pc' := 50) rfl ?_
  refine o_ldcJ X0 hx hZ (100 : Int64) hown (w 8 _ rfl) (hb hby d1_50) (pc' := 53) rfl ?_
  refine o_ldiv X0 hx (hb hby d1_53) (pc' := 54) rfl (by decide) ?_
  refine o_lstoreN X0 hx (hb hby d1_54) (pc' := 55) rfl (L' := #[.val (.ref aa), .val (.int x1), .val (.long ((((x1.toInt64) * (7 : Int64)) + (99 : Int64)) / (100 : Int64))), .second]) rfl ?_
  refine o_aloadN X0 hx (hb hby d1_55) (pc' := 56) rfl rfl rfl ?_
  refine o_lloadN X0 hx (hb hby d1_56) (pc' := 57) rfl rfl ?_
  refine o_l2i X0 hx (hb hby d1_57) (pc' := 58) rfl ?_
  refine o_iconst X0 hx (1 : Int32) (hb hby d1_58) (pc' := 59) rfl (by decide) ?_
  refine o_isub X0 hx (hb hby d1_59) (pc' := 60) rfl ?_
  refine o_laload X0 hx hZ (.long (([v0, v1, v2, v3, v4, v5, v6] : List Int64).getD (own_ix (7 : Int64) x1).toNatClampNeg 0)) e0 V_aa (own_ix_in (7 : Int64) (7 : Int32) x1 7 (by decide) (by decide) hp1 hp2 (by decide) (by decide)) (own_getJ [v0, v1, v2, v3, v4, v5, v6] _) (hb hby d1_60) (pc' := 61) rfl ?_
  rw [← hOWE]
  exact o_retJ X0 hx hlk hrt (hb hby d1_61) (by decide) (by decide) (by rw [e0]; exact ⟨(by rw [own_f1_7_ret]), N0, rfl⟩)
theorem ef_1_8 (m : MethodId) (x0 : Addr) (x1 : Int32) : entryFrame m #[(.ref x0), (.int x1)] 4 = mkF m 0 #[.val (.ref x0), .val (.int x1), .unset, .unset] [] := by first | (simp [entryFrame, mkF, argsToLocals, Value.category]; done) | rfl
def own_f1_8_ret (v0 : Int64) (v1 : Int64) (v2 : Int64) (v3 : Int64) (v4 : Int64) (v5 : Int64) (v6 : Int64) (v7 : Int64) (x1 : Int32) : Int64 := (([v0, v1, v2, v3, v4, v5, v6, v7] : List Int64).getD (own_ix (8 : Int64) x1).toNatClampNeg 0)
def Q1_8 (Z : State) (aa : Addr) (v0 : Int64) (v1 : Int64) (v2 : Int64) (v3 : Int64) (v4 : Int64) (v5 : Int64) (v6 : Int64) (v7 : Int64) (x1 : Int32) (k_aa : ClassId) (h0 : Heap) (n0 : Nat) (v : Option Value) (h : Heap) (L : List Loc) : Prop := v = some (.long (own_f1_8_ret v0 v1 v2 v3 v4 v5 v6 v7 x1)) ∧ Fr n0 L ∧ h = h0
set_option maxRecDepth 65536 in
set_option maxHeartbeats 40000000 in
theorem rm1_8 (l : Launch) (Z : State) (a0 : Array Value) (hw : ∀ d ∈ tables_1, d.before a0 Z = true) (ws : List Jvm.Cond) (aa : Addr) (v0 : Int64) (v1 : Int64) (v2 : Int64) (v3 : Int64) (v4 : Int64) (v5 : Int64) (v6 : Int64) (v7 : Int64) (x1 : Int32) (k_aa : ClassId) (h0 : Heap) (n0 : Nat) (Z0 : n0 ≤ h0.size) (V_aa : Arv Z h0 aa k_aa .long (8 : Int32) [.long v0, .long v1, .long v2, .long v3, .long v4, .long v5, .long v6, .long v7] (.long (0 : Int64))) (hp1 : ¬ x1 < (1 : Int32)) (hp2 : ¬ (100 : Int32) < x1) :
    Con l (⟨"com/example/seshat/seshat/util/Percentiles", "nearestRank", "([JI)J"⟩ : MethodName) prog_38_method_2_code 4 (some .long) ws ({ frames := 0, cells := 0, slots := 0, locals := 0 } : Room) #[(.ref aa), (.int x1)] Z h0 (Q1_8 Z aa v0 v1 v2 v3 v4 v5 v6 v7 x1 k_aa h0 n0) ({ frames := 0, cells := 0, slots := 0, locals := 0 } : Room).cells ({ frames := 0, cells := 0, slots := 0, locals := 0 } : Room).slots := by
  refine own_body (plainFor_of_name pn_1) ?_
  intro p e s m below meth c s₁ hx hby hlk hml hown hnm hrt hZ X0 e0
  have w : ∀ (k : Nat) (d : Jvm.Cond), tables_1[k]? = some d → d.before a0 Z = true := fun k d h => hw d (List.mem_of_getElem? h)
  have N0 := Fr.nil n0
  rw [ef_1_8]
  generalize hOWE : Owe s _ _ _ = OWE
  refine o_aloadN X0 hx (hb hby d1_0) (pc' := 1) rfl rfl rfl ?_
  refine o_arraylength X0 hx hZ e0 V_aa (hb hby d1_1) (pc' := 2) rfl ?_
  refine o_ifY X0 hx (hb hby d1_2) (feq (by decide : ¬ ((8 : Int32) = (0 : Int32)))).2 (by decide) (pc' := 15) (by decide) ?_
  refine o_iloadN X0 hx (hb hby d1_15) (pc' := 16) rfl rfl ?_
  refine o_iconst X0 hx (1 : Int32) (hb hby d1_16) (pc' := 17) rfl (by decide) ?_
  refine o_cmpN X0 hx (hb hby d1_17) (flt (hp1 : ¬ (x1 < (1 : Int32)))).1 (pc' := 20) rfl ?_
  refine o_iloadN X0 hx (hb hby d1_20) (pc' := 21) rfl rfl ?_
  refine o_bipush X0 hx (100 : Int32) (hb hby d1_21) (pc' := 23) rfl (by decide) ?_
  refine o_cmpY X0 hx (hb hby d1_23) (flt (hp2 : ¬ ((100 : Int32) < x1))).2.2.2 (by decide) (pc' := 40) (by decide) ?_
  refine o_iloadN X0 hx (hb hby d1_40) (pc' := 41) rfl rfl ?_
  refine o_i2l X0 hx (hb hby d1_41) (pc' := 42) rfl ?_
  refine o_aloadN X0 hx (hb hby d1_42) (pc' := 43) rfl rfl rfl ?_
  refine o_arraylength X0 hx hZ e0 V_aa (hb hby d1_43) (pc' := 44) rfl ?_
  refine o_i2l X0 hx (hb hby d1_44) (pc' := 45) rfl ?_
  rw [show ((8 : Int32).toInt64) = (8 : Int64) from by decide]
  refine o_lmul X0 hx (hb hby d1_45) (pc' := 46) rfl ?_
  refine o_ldcJ X0 hx hZ (99 : Int64) hown (w 7 _ rfl) (hb hby d1_46) (pc' := 49) rfl ?_
  refine o_ladd X0 hx (hb hby d1_49) (pc' := 50) rfl ?_
  refine o_ldcJ X0 hx hZ (100 : Int64) hown (w 8 _ rfl) (hb hby d1_50) (pc' := 53) rfl ?_
  refine o_ldiv X0 hx (hb hby d1_53) (pc' := 54) rfl (by decide) ?_
  refine o_lstoreN X0 hx (hb hby d1_54) (pc' := 55) rfl (L' := #[.val (.ref aa), .val (.int x1), .val (.long ((((x1.toInt64) * (8 : Int64)) + (99 : Int64)) / (100 : Int64))), .second]) rfl ?_
  refine o_aloadN X0 hx (hb hby d1_55) (pc' := 56) rfl rfl rfl ?_
  refine o_lloadN X0 hx (hb hby d1_56) (pc' := 57) rfl rfl ?_
  refine o_l2i X0 hx (hb hby d1_57) (pc' := 58) rfl ?_
  refine o_iconst X0 hx (1 : Int32) (hb hby d1_58) (pc' := 59) rfl (by decide) ?_
  refine o_isub X0 hx (hb hby d1_59) (pc' := 60) rfl ?_
  refine o_laload X0 hx hZ (.long (([v0, v1, v2, v3, v4, v5, v6, v7] : List Int64).getD (own_ix (8 : Int64) x1).toNatClampNeg 0)) e0 V_aa (own_ix_in (8 : Int64) (8 : Int32) x1 8 (by decide) (by decide) hp1 hp2 (by decide) (by decide)) (own_getJ [v0, v1, v2, v3, v4, v5, v6, v7] _) (hb hby d1_60) (pc' := 61) rfl ?_
  rw [← hOWE]
  exact o_retJ X0 hx hlk hrt (hb hby d1_61) (by decide) (by decide) (by rw [e0]; exact ⟨(by rw [own_f1_8_ret]), N0, rfl⟩)
theorem d2_0 : decode method_3_code 0 = .ok (.iload_n 0, 1) := by decide +kernel
theorem d2_1 : decode method_3_code 1 = .ok (.bipush 100, 2) := by decide +kernel
theorem d2_3 : decode method_3_code 3 = .ok (.if_icmp .gt 5, 3) := by decide +kernel
theorem d2_6 : decode method_3_code 6 = .ok (.iconst 1, 1) := by decide +kernel
theorem d2_7 : decode method_3_code 7 = .ok (.ireturn, 1) := by decide +kernel
theorem d2_8 : decode method_3_code 8 = .ok (.iload_n 0, 1) := by decide +kernel
theorem d2_9 : decode method_3_code 9 = .ok (.sipush 200, 3) := by decide +kernel
theorem d2_12 : decode method_3_code 12 = .ok (.if_icmp .gt 5, 3) := by decide +kernel
theorem d2_15 : decode method_3_code 15 = .ok (.iconst 2, 1) := by decide +kernel
theorem d2_16 : decode method_3_code 16 = .ok (.ireturn, 1) := by decide +kernel
theorem d2_17 : decode method_3_code 17 = .ok (.iload_n 0, 1) := by decide +kernel
theorem d2_18 : decode method_3_code 18 = .ok (.sipush 300, 3) := by decide +kernel
theorem d2_21 : decode method_3_code 21 = .ok (.if_icmp .gt 5, 3) := by decide +kernel
theorem d2_24 : decode method_3_code 24 = .ok (.iconst 3, 1) := by decide +kernel
theorem d2_25 : decode method_3_code 25 = .ok (.ireturn, 1) := by decide +kernel
theorem d2_26 : decode method_3_code 26 = .ok (.iload_n 0, 1) := by decide +kernel
theorem d2_27 : decode method_3_code 27 = .ok (.sipush 400, 3) := by decide +kernel
theorem d2_30 : decode method_3_code 30 = .ok (.if_icmp .gt 5, 3) := by decide +kernel
theorem d2_33 : decode method_3_code 33 = .ok (.iconst 4, 1) := by decide +kernel
theorem d2_34 : decode method_3_code 34 = .ok (.ireturn, 1) := by decide +kernel
theorem d2_35 : decode method_3_code 35 = .ok (.iload_n 0, 1) := by decide +kernel
theorem d2_36 : decode method_3_code 36 = .ok (.sipush 500, 3) := by decide +kernel
theorem d2_39 : decode method_3_code 39 = .ok (.if_icmp .gt 5, 3) := by decide +kernel
theorem d2_42 : decode method_3_code 42 = .ok (.iconst 5, 1) := by decide +kernel
theorem d2_43 : decode method_3_code 43 = .ok (.ireturn, 1) := by decide +kernel
theorem d2_44 : decode method_3_code 44 = .ok (.iload_n 0, 1) := by decide +kernel
theorem d2_45 : decode method_3_code 45 = .ok (.sipush 600, 3) := by decide +kernel
theorem d2_48 : decode method_3_code 48 = .ok (.if_icmp .gt 6, 3) := by decide +kernel
theorem d2_51 : decode method_3_code 51 = .ok (.bipush 6, 2) := by decide +kernel
theorem d2_53 : decode method_3_code 53 = .ok (.ireturn, 1) := by decide +kernel
theorem d2_54 : decode method_3_code 54 = .ok (.iload_n 0, 1) := by decide +kernel
theorem d2_55 : decode method_3_code 55 = .ok (.sipush 700, 3) := by decide +kernel
theorem d2_58 : decode method_3_code 58 = .ok (.if_icmp .gt 6, 3) := by decide +kernel
theorem d2_61 : decode method_3_code 61 = .ok (.bipush 7, 2) := by decide +kernel
theorem d2_63 : decode method_3_code 63 = .ok (.ireturn, 1) := by decide +kernel
theorem d2_64 : decode method_3_code 64 = .ok (.bipush 8, 2) := by decide +kernel
theorem d2_66 : decode method_3_code 66 = .ok (.ireturn, 1) := by decide +kernel
theorem pn_2 : plainName "com/example/seshat/seshat/util/PercentilesNearestRankPinLaw" = true := by first | (simp [plainName, overriddenIn]; done) | decide +kernel
theorem ef_2 (m : MethodId) (x0 : Int32) : entryFrame m #[(.int x0)] 1 = mkF m 0 #[.val (.int x0)] [] := by first | (simp [entryFrame, mkF, argsToLocals, Value.category]; done) | rfl
def own_f2_ret (x1 : Int32) : Int32 := (if (100 : Int32) < x1 then (if (200 : Int32) < x1 then (if (300 : Int32) < x1 then (if (400 : Int32) < x1 then (if (500 : Int32) < x1 then (if (600 : Int32) < x1 then (if (700 : Int32) < x1 then (8 : Int32) else (7 : Int32)) else (6 : Int32)) else (5 : Int32)) else (4 : Int32)) else (3 : Int32)) else (2 : Int32)) else (1 : Int32))
def Q2 (Z : State) (x1 : Int32) (h0 : Heap) (n0 : Nat) (v : Option Value) (h : Heap) (L : List Loc) : Prop := v = some (.int (own_f2_ret x1)) ∧ Fr n0 L ∧ h = h0
set_option maxRecDepth 65536 in
set_option maxHeartbeats 40000000 in
theorem rm2 (l : Launch) (Z : State) (a0 : Array Value) (hw : ∀ d ∈ tables_1, d.before a0 Z = true) (ws : List Jvm.Cond) (x1 : Int32) (h0 : Heap) (n0 : Nat) (Z0 : n0 ≤ h0.size)  :
    Con l (⟨"com/example/seshat/seshat/util/PercentilesNearestRankPinLaw", "expectedRank", "(I)I"⟩ : MethodName) method_3_code 1 (some .int) ws ({ frames := 0, cells := 0, slots := 0, locals := 0 } : Room) #[(.int x1)] Z h0 (Q2 Z x1 h0 n0) ({ frames := 0, cells := 0, slots := 0, locals := 0 } : Room).cells ({ frames := 0, cells := 0, slots := 0, locals := 0 } : Room).slots := by
  refine own_body (plainFor_of_name pn_2) ?_
  intro p e s m below meth c s₁ hx hby hlk hml hown hnm hrt hZ X0 e0
  have w : ∀ (k : Nat) (d : Jvm.Cond), tables_1[k]? = some d → d.before a0 Z = true := fun k d h => hw d (List.mem_of_getElem? h)
  have N0 := Fr.nil n0
  rw [ef_2]
  generalize hOWE : Owe s _ _ _ = OWE
  refine o_iloadN X0 hx (hb hby d2_0) (pc' := 1) rfl rfl ?_
  refine o_bipush X0 hx (100 : Int32) (hb hby d2_1) (pc' := 3) rfl (by decide) ?_
  by_cases hc3_1 : (100 : Int32) < x1
  · refine o_cmpY X0 hx (hb hby d2_3) (tlt hc3_1).2.2.1 (by decide) (pc' := 8) (by decide) ?_
    refine o_iloadN X0 hx (hb hby d2_8) (pc' := 9) rfl rfl ?_
    refine o_sipush X0 hx (200 : Int32) (hb hby d2_9) (pc' := 12) rfl (by decide) ?_
    by_cases hc12_2 : (200 : Int32) < x1
    · refine o_cmpY X0 hx (hb hby d2_12) (tlt hc12_2).2.2.1 (by decide) (pc' := 17) (by decide) ?_
      refine o_iloadN X0 hx (hb hby d2_17) (pc' := 18) rfl rfl ?_
      refine o_sipush X0 hx (300 : Int32) (hb hby d2_18) (pc' := 21) rfl (by decide) ?_
      by_cases hc21_3 : (300 : Int32) < x1
      · refine o_cmpY X0 hx (hb hby d2_21) (tlt hc21_3).2.2.1 (by decide) (pc' := 26) (by decide) ?_
        refine o_iloadN X0 hx (hb hby d2_26) (pc' := 27) rfl rfl ?_
        refine o_sipush X0 hx (400 : Int32) (hb hby d2_27) (pc' := 30) rfl (by decide) ?_
        by_cases hc30_4 : (400 : Int32) < x1
        · refine o_cmpY X0 hx (hb hby d2_30) (tlt hc30_4).2.2.1 (by decide) (pc' := 35) (by decide) ?_
          refine o_iloadN X0 hx (hb hby d2_35) (pc' := 36) rfl rfl ?_
          refine o_sipush X0 hx (500 : Int32) (hb hby d2_36) (pc' := 39) rfl (by decide) ?_
          by_cases hc39_5 : (500 : Int32) < x1
          · refine o_cmpY X0 hx (hb hby d2_39) (tlt hc39_5).2.2.1 (by decide) (pc' := 44) (by decide) ?_
            refine o_iloadN X0 hx (hb hby d2_44) (pc' := 45) rfl rfl ?_
            refine o_sipush X0 hx (600 : Int32) (hb hby d2_45) (pc' := 48) rfl (by decide) ?_
            by_cases hc48_6 : (600 : Int32) < x1
            · refine o_cmpY X0 hx (hb hby d2_48) (tlt hc48_6).2.2.1 (by decide) (pc' := 54) (by decide) ?_
              refine o_iloadN X0 hx (hb hby d2_54) (pc' := 55) rfl rfl ?_
              refine o_sipush X0 hx (700 : Int32) (hb hby d2_55) (pc' := 58) rfl (by decide) ?_
              by_cases hc58_7 : (700 : Int32) < x1
              · refine o_cmpY X0 hx (hb hby d2_58) (tlt hc58_7).2.2.1 (by decide) (pc' := 64) (by decide) ?_
                refine o_bipush X0 hx (8 : Int32) (hb hby d2_64) (pc' := 66) rfl (by decide) ?_
                rw [← hOWE]
                exact o_retI X0 hx hlk hrt (hb hby d2_66) (by decide) (by decide) (by rw [e0]; exact ⟨(by rw [own_f2_ret, if_pos hc3_1, if_pos hc12_2, if_pos hc21_3, if_pos hc30_4, if_pos hc39_5, if_pos hc48_6, if_pos hc58_7]), N0, rfl⟩)
              · refine o_cmpN X0 hx (hb hby d2_58) (flt hc58_7).2.2.1 (pc' := 61) rfl ?_
                refine o_bipush X0 hx (7 : Int32) (hb hby d2_61) (pc' := 63) rfl (by decide) ?_
                rw [← hOWE]
                exact o_retI X0 hx hlk hrt (hb hby d2_63) (by decide) (by decide) (by rw [e0]; exact ⟨(by rw [own_f2_ret, if_pos hc3_1, if_pos hc12_2, if_pos hc21_3, if_pos hc30_4, if_pos hc39_5, if_pos hc48_6, if_neg hc58_7]), N0, rfl⟩)
            · refine o_cmpN X0 hx (hb hby d2_48) (flt hc48_6).2.2.1 (pc' := 51) rfl ?_
              refine o_bipush X0 hx (6 : Int32) (hb hby d2_51) (pc' := 53) rfl (by decide) ?_
              rw [← hOWE]
              exact o_retI X0 hx hlk hrt (hb hby d2_53) (by decide) (by decide) (by rw [e0]; exact ⟨(by rw [own_f2_ret, if_pos hc3_1, if_pos hc12_2, if_pos hc21_3, if_pos hc30_4, if_pos hc39_5, if_neg hc48_6]), N0, rfl⟩)
          · refine o_cmpN X0 hx (hb hby d2_39) (flt hc39_5).2.2.1 (pc' := 42) rfl ?_
            refine o_iconst X0 hx (5 : Int32) (hb hby d2_42) (pc' := 43) rfl (by decide) ?_
            rw [← hOWE]
            exact o_retI X0 hx hlk hrt (hb hby d2_43) (by decide) (by decide) (by rw [e0]; exact ⟨(by rw [own_f2_ret, if_pos hc3_1, if_pos hc12_2, if_pos hc21_3, if_pos hc30_4, if_neg hc39_5]), N0, rfl⟩)
        · refine o_cmpN X0 hx (hb hby d2_30) (flt hc30_4).2.2.1 (pc' := 33) rfl ?_
          refine o_iconst X0 hx (4 : Int32) (hb hby d2_33) (pc' := 34) rfl (by decide) ?_
          rw [← hOWE]
          exact o_retI X0 hx hlk hrt (hb hby d2_34) (by decide) (by decide) (by rw [e0]; exact ⟨(by rw [own_f2_ret, if_pos hc3_1, if_pos hc12_2, if_pos hc21_3, if_neg hc30_4]), N0, rfl⟩)
      · refine o_cmpN X0 hx (hb hby d2_21) (flt hc21_3).2.2.1 (pc' := 24) rfl ?_
        refine o_iconst X0 hx (3 : Int32) (hb hby d2_24) (pc' := 25) rfl (by decide) ?_
        rw [← hOWE]
        exact o_retI X0 hx hlk hrt (hb hby d2_25) (by decide) (by decide) (by rw [e0]; exact ⟨(by rw [own_f2_ret, if_pos hc3_1, if_pos hc12_2, if_neg hc21_3]), N0, rfl⟩)
    · refine o_cmpN X0 hx (hb hby d2_12) (flt hc12_2).2.2.1 (pc' := 15) rfl ?_
      refine o_iconst X0 hx (2 : Int32) (hb hby d2_15) (pc' := 16) rfl (by decide) ?_
      rw [← hOWE]
      exact o_retI X0 hx hlk hrt (hb hby d2_16) (by decide) (by decide) (by rw [e0]; exact ⟨(by rw [own_f2_ret, if_pos hc3_1, if_neg hc12_2]), N0, rfl⟩)
  · refine o_cmpN X0 hx (hb hby d2_3) (flt hc3_1).2.2.1 (pc' := 6) rfl ?_
    refine o_iconst X0 hx (1 : Int32) (hb hby d2_6) (pc' := 7) rfl (by decide) ?_
    rw [← hOWE]
    exact o_retI X0 hx hlk hrt (hb hby d2_7) (by decide) (by decide) (by rw [e0]; exact ⟨(by rw [own_f2_ret, if_neg hc3_1]), N0, rfl⟩)
theorem ef_0 (m : MethodId) (x0 : Int32) (x1 : Int32) (x2 : Int64) (x3 : Int32) : entryFrame m #[(.int x0), (.int x1), (.long x2), (.int x3)] maxLocals = mkF m 0 #[.val (.int x0), .val (.int x1), .val (.long x2), .second, .val (.int x3), .unset, .unset, .unset, .unset, .unset, .unset, .unset, .unset, .unset, .unset] [] := by first | (simp [entryFrame, mkF, argsToLocals, Value.category, maxLocals]; done) | rfl
def own_law_x0 (q0 : Int32) (q1 : Int32) (q2 : Int64) (q3 : Int32) : Int32 := ((q0 &&& (7 : Int32)) + (1 : Int32))
def own_law_x1 (q0 : Int32) (q1 : Int32) (q2 : Int64) (q3 : Int32) : Int32 := (((q1 &&& (2147483647 : Int32)) % (100 : Int32)) + (1 : Int32))
def own_law_x2 (q0 : Int32) (q1 : Int32) (q2 : Int64) (q3 : Int32) : Int64 := (sL q2 (4 : Int32))
def own_law_x3 (q0 : Int32) (q1 : Int32) (q2 : Int64) (q3 : Int32) : Int64 := (((q3 &&& (1048575 : Int32)).toInt64) + (1 : Int64))
def own_law_x4 (q0 : Int32) (q1 : Int32) (q2 : Int64) (q3 : Int32) : Int64 := (own_f1_1_ret (own_law_x2 q0 q1 q2 q3) (own_law_x1 q0 q1 q2 q3))
def own_law_x5 (q0 : Int32) (q1 : Int32) (q2 : Int64) (q3 : Int32) : Int32 := (own_f2_ret ((own_law_x1 q0 q1 q2 q3) * (1 : Int32)))
def own_law_x6 (q0 : Int32) (q1 : Int32) (q2 : Int64) (q3 : Int32) : Int64 := (own_f1_2_ret (own_law_x2 q0 q1 q2 q3) ((own_law_x2 q0 q1 q2 q3) + (own_law_x3 q0 q1 q2 q3)) (own_law_x1 q0 q1 q2 q3))
def own_law_x7 (q0 : Int32) (q1 : Int32) (q2 : Int64) (q3 : Int32) : Int32 := (own_f2_ret ((own_law_x1 q0 q1 q2 q3) * (2 : Int32)))
def own_law_x8 (q0 : Int32) (q1 : Int32) (q2 : Int64) (q3 : Int32) : Int64 := (own_f1_3_ret (own_law_x2 q0 q1 q2 q3) ((own_law_x2 q0 q1 q2 q3) + (own_law_x3 q0 q1 q2 q3)) ((own_law_x2 q0 q1 q2 q3) + ((2 : Int64) * (own_law_x3 q0 q1 q2 q3))) (own_law_x1 q0 q1 q2 q3))
def own_law_x9 (q0 : Int32) (q1 : Int32) (q2 : Int64) (q3 : Int32) : Int32 := (own_f2_ret ((own_law_x1 q0 q1 q2 q3) * (3 : Int32)))
def own_law_x10 (q0 : Int32) (q1 : Int32) (q2 : Int64) (q3 : Int32) : Int64 := (own_f1_4_ret (own_law_x2 q0 q1 q2 q3) ((own_law_x2 q0 q1 q2 q3) + (own_law_x3 q0 q1 q2 q3)) ((own_law_x2 q0 q1 q2 q3) + ((2 : Int64) * (own_law_x3 q0 q1 q2 q3))) ((own_law_x2 q0 q1 q2 q3) + ((3 : Int64) * (own_law_x3 q0 q1 q2 q3))) (own_law_x1 q0 q1 q2 q3))
def own_law_x11 (q0 : Int32) (q1 : Int32) (q2 : Int64) (q3 : Int32) : Int32 := (own_f2_ret ((own_law_x1 q0 q1 q2 q3) * (4 : Int32)))
def own_law_x12 (q0 : Int32) (q1 : Int32) (q2 : Int64) (q3 : Int32) : Int64 := (own_f1_5_ret (own_law_x2 q0 q1 q2 q3) ((own_law_x2 q0 q1 q2 q3) + (own_law_x3 q0 q1 q2 q3)) ((own_law_x2 q0 q1 q2 q3) + ((2 : Int64) * (own_law_x3 q0 q1 q2 q3))) ((own_law_x2 q0 q1 q2 q3) + ((3 : Int64) * (own_law_x3 q0 q1 q2 q3))) ((own_law_x2 q0 q1 q2 q3) + ((4 : Int64) * (own_law_x3 q0 q1 q2 q3))) (own_law_x1 q0 q1 q2 q3))
def own_law_x13 (q0 : Int32) (q1 : Int32) (q2 : Int64) (q3 : Int32) : Int32 := (own_f2_ret ((own_law_x1 q0 q1 q2 q3) * (5 : Int32)))
def own_law_x14 (q0 : Int32) (q1 : Int32) (q2 : Int64) (q3 : Int32) : Int64 := (own_f1_6_ret (own_law_x2 q0 q1 q2 q3) ((own_law_x2 q0 q1 q2 q3) + (own_law_x3 q0 q1 q2 q3)) ((own_law_x2 q0 q1 q2 q3) + ((2 : Int64) * (own_law_x3 q0 q1 q2 q3))) ((own_law_x2 q0 q1 q2 q3) + ((3 : Int64) * (own_law_x3 q0 q1 q2 q3))) ((own_law_x2 q0 q1 q2 q3) + ((4 : Int64) * (own_law_x3 q0 q1 q2 q3))) ((own_law_x2 q0 q1 q2 q3) + ((5 : Int64) * (own_law_x3 q0 q1 q2 q3))) (own_law_x1 q0 q1 q2 q3))
def own_law_x15 (q0 : Int32) (q1 : Int32) (q2 : Int64) (q3 : Int32) : Int32 := (own_f2_ret ((own_law_x1 q0 q1 q2 q3) * (6 : Int32)))
def own_law_x16 (q0 : Int32) (q1 : Int32) (q2 : Int64) (q3 : Int32) : Int64 := (own_f1_7_ret (own_law_x2 q0 q1 q2 q3) ((own_law_x2 q0 q1 q2 q3) + (own_law_x3 q0 q1 q2 q3)) ((own_law_x2 q0 q1 q2 q3) + ((2 : Int64) * (own_law_x3 q0 q1 q2 q3))) ((own_law_x2 q0 q1 q2 q3) + ((3 : Int64) * (own_law_x3 q0 q1 q2 q3))) ((own_law_x2 q0 q1 q2 q3) + ((4 : Int64) * (own_law_x3 q0 q1 q2 q3))) ((own_law_x2 q0 q1 q2 q3) + ((5 : Int64) * (own_law_x3 q0 q1 q2 q3))) ((own_law_x2 q0 q1 q2 q3) + ((6 : Int64) * (own_law_x3 q0 q1 q2 q3))) (own_law_x1 q0 q1 q2 q3))
def own_law_x17 (q0 : Int32) (q1 : Int32) (q2 : Int64) (q3 : Int32) : Int32 := (own_f2_ret ((own_law_x1 q0 q1 q2 q3) * (7 : Int32)))
def own_law_x18 (q0 : Int32) (q1 : Int32) (q2 : Int64) (q3 : Int32) : Int64 := (own_f1_8_ret (own_law_x2 q0 q1 q2 q3) ((own_law_x2 q0 q1 q2 q3) + (own_law_x3 q0 q1 q2 q3)) ((own_law_x2 q0 q1 q2 q3) + ((2 : Int64) * (own_law_x3 q0 q1 q2 q3))) ((own_law_x2 q0 q1 q2 q3) + ((3 : Int64) * (own_law_x3 q0 q1 q2 q3))) ((own_law_x2 q0 q1 q2 q3) + ((4 : Int64) * (own_law_x3 q0 q1 q2 q3))) ((own_law_x2 q0 q1 q2 q3) + ((5 : Int64) * (own_law_x3 q0 q1 q2 q3))) ((own_law_x2 q0 q1 q2 q3) + ((6 : Int64) * (own_law_x3 q0 q1 q2 q3))) ((own_law_x2 q0 q1 q2 q3) + ((7 : Int64) * (own_law_x3 q0 q1 q2 q3))) (own_law_x1 q0 q1 q2 q3))
def own_law_x19 (q0 : Int32) (q1 : Int32) (q2 : Int64) (q3 : Int32) : Int32 := (own_f2_ret ((own_law_x1 q0 q1 q2 q3) * (8 : Int32)))
def own_law_ret (q0 : Int32) (q1 : Int32) (q2 : Int64) (q3 : Int32) : Int32 := (if (own_law_x0 q0 q1 q2 q3) = (1 : Int32) then (if (own_law_x4 q0 q1 q2 q3) = ((own_law_x2 q0 q1 q2 q3) + ((((own_law_x5 q0 q1 q2 q3) - (1 : Int32)).toInt64) * (own_law_x3 q0 q1 q2 q3))) then (1 : Int32) else (0 : Int32)) else (if (own_law_x0 q0 q1 q2 q3) = (2 : Int32) then (if (own_law_x6 q0 q1 q2 q3) = ((own_law_x2 q0 q1 q2 q3) + ((((own_law_x7 q0 q1 q2 q3) - (1 : Int32)).toInt64) * (own_law_x3 q0 q1 q2 q3))) then (1 : Int32) else (0 : Int32)) else (if (own_law_x0 q0 q1 q2 q3) = (3 : Int32) then (if (own_law_x8 q0 q1 q2 q3) = ((own_law_x2 q0 q1 q2 q3) + ((((own_law_x9 q0 q1 q2 q3) - (1 : Int32)).toInt64) * (own_law_x3 q0 q1 q2 q3))) then (1 : Int32) else (0 : Int32)) else (if (own_law_x0 q0 q1 q2 q3) = (4 : Int32) then (if (own_law_x10 q0 q1 q2 q3) = ((own_law_x2 q0 q1 q2 q3) + ((((own_law_x11 q0 q1 q2 q3) - (1 : Int32)).toInt64) * (own_law_x3 q0 q1 q2 q3))) then (1 : Int32) else (0 : Int32)) else (if (own_law_x0 q0 q1 q2 q3) = (5 : Int32) then (if (own_law_x12 q0 q1 q2 q3) = ((own_law_x2 q0 q1 q2 q3) + ((((own_law_x13 q0 q1 q2 q3) - (1 : Int32)).toInt64) * (own_law_x3 q0 q1 q2 q3))) then (1 : Int32) else (0 : Int32)) else (if (own_law_x0 q0 q1 q2 q3) = (6 : Int32) then (if (own_law_x14 q0 q1 q2 q3) = ((own_law_x2 q0 q1 q2 q3) + ((((own_law_x15 q0 q1 q2 q3) - (1 : Int32)).toInt64) * (own_law_x3 q0 q1 q2 q3))) then (1 : Int32) else (0 : Int32)) else (if (own_law_x0 q0 q1 q2 q3) = (7 : Int32) then (if (own_law_x16 q0 q1 q2 q3) = ((own_law_x2 q0 q1 q2 q3) + ((((own_law_x17 q0 q1 q2 q3) - (1 : Int32)).toInt64) * (own_law_x3 q0 q1 q2 q3))) then (1 : Int32) else (0 : Int32)) else (if (own_law_x18 q0 q1 q2 q3) = ((own_law_x2 q0 q1 q2 q3) + ((((own_law_x19 q0 q1 q2 q3) - (1 : Int32)).toInt64) * (own_law_x3 q0 q1 q2 q3))) then (1 : Int32) else (0 : Int32)))))))))
theorem own_n8 (q0 q1 : Int32) (q2 : Int64) (q3 : Int32) : own_law_x0 q0 q1 q2 q3 = (1 : Int32) ∨ own_law_x0 q0 q1 q2 q3 = (2 : Int32) ∨ own_law_x0 q0 q1 q2 q3 = (3 : Int32) ∨ own_law_x0 q0 q1 q2 q3 = (4 : Int32) ∨ own_law_x0 q0 q1 q2 q3 = (5 : Int32) ∨ own_law_x0 q0 q1 q2 q3 = (6 : Int32) ∨ own_law_x0 q0 q1 q2 q3 = (7 : Int32) ∨ own_law_x0 q0 q1 q2 q3 = (8 : Int32) := by
  have h1 := c_and q0 7 (by decide)
  rw [show (7 : Int32).toInt = 7 from rfl] at h1
  have h2 := c_iadd (q0 &&& 7) 1
  have h3 := rng32 ((q0 &&& 7) + 1)
  rw [show (1 : Int32).toInt = 1 from rfl] at h2
  unfold own_law_x0
  simp only [← Int32.toInt_inj, show (1 : Int32).toInt = 1 from rfl, show (2 : Int32).toInt = 2 from rfl, show (3 : Int32).toInt = 3 from rfl, show (4 : Int32).toInt = 4 from rfl, show (5 : Int32).toInt = 5 from rfl, show (6 : Int32).toInt = 6 from rfl, show (7 : Int32).toInt = 7 from rfl, show (8 : Int32).toInt = 8 from rfl]
  omega
theorem own_p (q0 q1 : Int32) (q2 : Int64) (q3 : Int32) : ¬ own_law_x1 q0 q1 q2 q3 < (1 : Int32) ∧ ¬ (100 : Int32) < own_law_x1 q0 q1 q2 q3 := by
  have h1 := c_and q1 2147483647 (by decide)
  have h2 := (c_irem (q1 &&& 2147483647) 100 100 (by decide)).1 h1.1
  have h3 := c_iadd ((q1 &&& 2147483647) % 100) 1
  have h4 := rng32 ((q1 &&& 2147483647) % 100 + 1)
  rw [show (1 : Int32).toInt = 1 from rfl] at h3
  unfold own_law_x1
  rw [Int32.lt_iff_toInt_lt, Int32.lt_iff_toInt_lt, show (1 : Int32).toInt = 1 from rfl, show (100 : Int32).toInt = 100 from by decide]
  omega
def Q0 (Z : State) (q0 : Int32) (q1 : Int32) (q2 : Int64) (q3 : Int32) (h0 : Heap) (n0 : Nat) (v : Option Value) (h : Heap) (L : List Loc) : Prop := v = some (.int (own_law_ret q0 q1 q2 q3)) ∧ Fr n0 L
set_option maxRecDepth 65536 in
set_option maxHeartbeats 40000000 in
theorem rm0 (l : Launch) (Z : State) (a0 : Array Value) (hw : ∀ d ∈ tables_1, d.before a0 Z = true) (ws : List Jvm.Cond) (q0 : Int32) (q1 : Int32) (q2 : Int64) (q3 : Int32) (h0 : Heap) (n0 : Nat) (Z0 : n0 ≤ h0.size)  :
    Con l x code maxLocals ret ws room_1 #[(.int q0), (.int q1), (.long q2), (.int q3)] Z h0 (Q0 Z q0 q1 q2 q3 h0 n0) 1 8 := by
  refine own_body (plainFor_of_name pn_2) ?_
  intro p e s m below meth c s₁ hx hby hlk hml hown hnm hrt hZ X0 e0
  have w : ∀ (k : Nat) (d : Jvm.Cond), tables_1[k]? = some d → d.before a0 Z = true := fun k d h => hw d (List.mem_of_getElem? h)
  have N0 := Fr.nil n0
  have hml : c.maxLocals = 15 := hml
  rw [ef_0]
  generalize hOWE : Owe s _ _ _ = OWE
  refine o_iloadN X0 hx (hb hby at_0) (pc' := 1) rfl rfl ?_
  refine o_bipush X0 hx (7 : Int32) (hb hby at_1) (pc' := 3) rfl (by decide) ?_
  refine o_iand X0 hx (hb hby at_3) (pc' := 4) rfl ?_
  refine o_iconst X0 hx (1 : Int32) (hb hby at_4) (pc' := 5) rfl (by decide) ?_
  refine o_iadd X0 hx (hb hby at_5) (pc' := 6) rfl ?_
  refine o_istore (x := (own_law_x0 q0 q1 q2 q3)) X0 hx (hb hby at_6) (pc' := 8) rfl (L' := #[.val (.int q0), .val (.int q1), .val (.long q2), .second, .val (.int q3), .val (.int (own_law_x0 q0 q1 q2 q3)), .unset, .unset, .unset, .unset, .unset, .unset, .unset, .unset, .unset]) rfl ?_
  by_cases hs1 : (own_law_x0 q0 q1 q2 q3) = (1 : Int32)
  · rw [hs1]
    refine o_iloadN X0 hx (hb hby at_8) (pc' := 9) rfl rfl ?_
    refine o_ldcI X0 hx hZ (2147483647 : Int32) hown (w 0 _ rfl) (hb hby at_9) (pc' := 11) rfl ?_
    refine o_iand X0 hx (hb hby at_11) (pc' := 12) rfl ?_
    refine o_bipush X0 hx (100 : Int32) (hb hby at_12) (pc' := 14) rfl (by decide) ?_
    refine o_irem X0 hx (hb hby at_14) (pc' := 15) rfl (by decide) ?_
    refine o_iconst X0 hx (1 : Int32) (hb hby at_15) (pc' := 16) rfl (by decide) ?_
    refine o_iadd X0 hx (hb hby at_16) (pc' := 17) rfl ?_
    refine o_istore (x := (own_law_x1 q0 q1 q2 q3)) X0 hx (hb hby at_17) (pc' := 19) rfl (L' := #[.val (.int q0), .val (.int q1), .val (.long q2), .second, .val (.int q3), .val (.int (1 : Int32)), .val (.int (own_law_x1 q0 q1 q2 q3)), .unset, .unset, .unset, .unset, .unset, .unset, .unset, .unset]) rfl ?_
    refine o_lloadN X0 hx (hb hby at_19) (pc' := 20) rfl rfl ?_
    refine o_iconst X0 hx (4 : Int32) (hb hby at_20) (pc' := 21) rfl (by decide) ?_
    refine o_lshr X0 hx (hb hby at_21) (pc' := 22) rfl ?_
    refine o_lstore (x := (own_law_x2 q0 q1 q2 q3)) X0 hx (hb hby at_22) (pc' := 24) rfl (L' := #[.val (.int q0), .val (.int q1), .val (.long q2), .second, .val (.int q3), .val (.int (1 : Int32)), .val (.int (own_law_x1 q0 q1 q2 q3)), .val (.long (own_law_x2 q0 q1 q2 q3)), .second, .unset, .unset, .unset, .unset, .unset, .unset]) rfl ?_
    refine o_iload X0 hx (hb hby at_24) (pc' := 26) rfl rfl ?_
    refine o_ldcI X0 hx hZ (1048575 : Int32) hown (w 1 _ rfl) (hb hby at_26) (pc' := 28) rfl ?_
    refine o_iand X0 hx (hb hby at_28) (pc' := 29) rfl ?_
    refine o_i2l X0 hx (hb hby at_29) (pc' := 30) rfl ?_
    refine o_lconst X0 hx (1 : Int64) (hb hby at_30) (pc' := 31) rfl (by decide) ?_
    refine o_ladd X0 hx (hb hby at_31) (pc' := 32) rfl ?_
    refine o_lstore (x := (own_law_x3 q0 q1 q2 q3)) X0 hx (hb hby at_32) (pc' := 34) rfl (L' := #[.val (.int q0), .val (.int q1), .val (.long q2), .second, .val (.int q3), .val (.int (1 : Int32)), .val (.int (own_law_x1 q0 q1 q2 q3)), .val (.long (own_law_x2 q0 q1 q2 q3)), .second, .val (.long (own_law_x3 q0 q1 q2 q3)), .second, .unset, .unset, .unset, .unset]) rfl ?_
    refine o_iload X0 hx (hb hby at_34) (pc' := 36) rfl rfl ?_
    refine o_newP X0 hx hZ 1 (w 2 _ rfl) e0 (hb hby at_36) (pc' := 38) rfl (by decide) (by decide) (by decide) (cells' := 1) rfl (slots' := 1) rfl (by decide) (by decide) ?_
    intro T2 h2 b2 k2 qa2 X2 e2 Ex2 A2
    have g_b2 : n0 ≤ b2 := by rw [qa2]; exact Z0
    have Z2 : n0 ≤ h2.size := Nat.le_trans Z0 Ex2.1
    have V2_ : Arv Z h2 b2 k2 .long (1 : Int32) [.long (0 : Int64)] (.long (0 : Int64)) := own_fill 1 A2
    refine o_astore X2 hx (hb hby at_38) (pc' := 40) rfl (L' := #[.val (.int q0), .val (.int q1), .val (.long q2), .second, .val (.int q3), .val (.int (1 : Int32)), .val (.int (own_law_x1 q0 q1 q2 q3)), .val (.long (own_law_x2 q0 q1 q2 q3)), .second, .val (.long (own_law_x3 q0 q1 q2 q3)), .second, .val (.ref b2), .unset, .unset, .unset]) rfl rfl ?_
    refine o_aload X2 hx (hb hby at_40) (pc' := 42) rfl rfl rfl ?_
    refine o_iconst X2 hx (0 : Int32) (hb hby at_42) (pc' := 43) rfl (by decide) ?_
    refine o_lload X2 hx (hb hby at_43) (pc' := 45) rfl rfl ?_
    refine o_lastore X2 hx hZ 0 e2 V2_ (by decide) (by decide) (by exact (by decide : 0 < 1)) (vs' := [.long (own_law_x2 q0 q1 q2 q3)]) rfl (hb hby at_45) (pc' := 46) rfl ?_
    intro T4 h4 X4 e4 W4 V4_
    have N4 := Fr.snoc X4 N0 g_b2
    have Z4 : n0 ≤ h4.size := by rw [W4.size]; exact Z2
    refine o_iload X4 hx (hb hby at_46) (pc' := 48) rfl rfl ?_
    refine o_iconst X4 hx (1 : Int32) (hb hby at_48) (pc' := 49) rfl (by decide) ?_
    refine o_cmpY X4 hx (hb hby at_49) (flt (by decide : ¬ ((1 : Int32) < (1 : Int32)))).2.2.2 (by decide) (pc' := 61) (by decide) ?_
    refine o_iload X4 hx (hb hby at_61) (pc' := 63) rfl rfl ?_
    refine o_iconst X4 hx (2 : Int32) (hb hby at_63) (pc' := 64) rfl (by decide) ?_
    refine o_cmpY X4 hx (hb hby at_64) (flt (by decide : ¬ ((2 : Int32) < (1 : Int32)))).2.2.2 (by decide) (pc' := 80) (by decide) ?_
    refine o_iload X4 hx (hb hby at_80) (pc' := 82) rfl rfl ?_
    refine o_iconst X4 hx (3 : Int32) (hb hby at_82) (pc' := 83) rfl (by decide) ?_
    refine o_cmpY X4 hx (hb hby at_83) (flt (by decide : ¬ ((3 : Int32) < (1 : Int32)))).2.2.2 (by decide) (pc' := 99) (by decide) ?_
    refine o_iload X4 hx (hb hby at_99) (pc' := 101) rfl rfl ?_
    refine o_iconst X4 hx (4 : Int32) (hb hby at_101) (pc' := 102) rfl (by decide) ?_
    refine o_cmpY X4 hx (hb hby at_102) (flt (by decide : ¬ ((4 : Int32) < (1 : Int32)))).2.2.2 (by decide) (pc' := 118) (by decide) ?_
    refine o_iload X4 hx (hb hby at_118) (pc' := 120) rfl rfl ?_
    refine o_iconst X4 hx (5 : Int32) (hb hby at_120) (pc' := 121) rfl (by decide) ?_
    refine o_cmpY X4 hx (hb hby at_121) (flt (by decide : ¬ ((5 : Int32) < (1 : Int32)))).2.2.2 (by decide) (pc' := 137) (by decide) ?_
    refine o_iload X4 hx (hb hby at_137) (pc' := 139) rfl rfl ?_
    refine o_bipush X4 hx (6 : Int32) (hb hby at_139) (pc' := 141) rfl (by decide) ?_
    refine o_cmpY X4 hx (hb hby at_141) (flt (by decide : ¬ ((6 : Int32) < (1 : Int32)))).2.2.2 (by decide) (pc' := 158) (by decide) ?_
    refine o_iload X4 hx (hb hby at_158) (pc' := 160) rfl rfl ?_
    refine o_bipush X4 hx (7 : Int32) (hb hby at_160) (pc' := 162) rfl (by decide) ?_
    refine o_cmpY X4 hx (hb hby at_162) (flt (by decide : ¬ ((7 : Int32) < (1 : Int32)))).2.2.2 (by decide) (pc' := 179) (by decide) ?_
    refine o_aload X4 hx (hb hby at_179) (pc' := 181) rfl rfl rfl ?_
    refine o_iload X4 hx (hb hby at_181) (pc' := 183) rfl rfl ?_
    refine o_callS X4 hx hZ 0 (argsL := [.ref b2, .int (own_law_x1 q0 q1 q2 q3)]) (rest := []) hown (w 3 _ rfl) (w 4 _ rfl) (w 5 _ rfl) (w 6 _ rfl) (by decide) (rm1_1 l Z a0 hw [] b2 (own_law_x2 q0 q1 q2 q3) (own_law_x1 q0 q1 q2 q3) k2 h4 n0 Z4 V4_ (own_p q0 q1 q2 q3).1 (own_p q0 q1 q2 q3).2) (by decide) (by decide) (cells' := 1) rfl (slots' := 1) rfl (by decide) (by decide) e4 (by rw [hml]; rfl) (lenOf pd_0 rfl) rfl rfl (hb hby at_183) (pc' := 186) rfl ?_
    intro T6 v6 L6 X6 hQ6
    obtain ⟨rfl, Nq6, e6⟩ := hQ6
    have N6 := Fr.app N4 Nq6
    show Go p e below _ (T6.setTop (mkF m 186 _ [.long (own_f1_1_ret (own_law_x2 q0 q1 q2 q3) (own_law_x1 q0 q1 q2 q3))]))
    refine o_lstore (x := (own_law_x4 q0 q1 q2 q3)) X6 hx (hb hby at_186) (pc' := 188) rfl (L' := #[.val (.int q0), .val (.int q1), .val (.long q2), .second, .val (.int q3), .val (.int (1 : Int32)), .val (.int (own_law_x1 q0 q1 q2 q3)), .val (.long (own_law_x2 q0 q1 q2 q3)), .second, .val (.long (own_law_x3 q0 q1 q2 q3)), .second, .val (.ref b2), .val (.long (own_law_x4 q0 q1 q2 q3)), .second, .unset]) rfl ?_
    refine o_iload X6 hx (hb hby at_188) (pc' := 190) rfl rfl ?_
    refine o_iload X6 hx (hb hby at_190) (pc' := 192) rfl rfl ?_
    refine o_imul X6 hx (hb hby at_192) (pc' := 193) rfl ?_
    refine o_callS X6 hx hZ 0 (argsL := [.int ((own_law_x1 q0 q1 q2 q3) * (1 : Int32))]) (rest := []) hown (w 9 _ rfl) (w 10 _ rfl) (w 11 _ rfl) (w 12 _ rfl) (by decide) (rm2 l Z a0 hw [] ((own_law_x1 q0 q1 q2 q3) * (1 : Int32)) h4 n0 Z4 ) (by decide) (by decide) (cells' := 1) rfl (slots' := 1) rfl (by decide) (by decide) e6 (by rw [hml]; rfl) (lenOf pd_1 rfl) rfl rfl (hb hby at_193) (pc' := 196) rfl ?_
    intro T7 v7 L7 X7 hQ7
    obtain ⟨rfl, Nq7, e7⟩ := hQ7
    have N7 := Fr.app N6 Nq7
    show Go p e below _ (T7.setTop (mkF m 196 _ [.int (own_f2_ret ((own_law_x1 q0 q1 q2 q3) * (1 : Int32)))]))
    refine o_istore (x := (own_law_x5 q0 q1 q2 q3)) X7 hx (hb hby at_196) (pc' := 198) rfl (L' := #[.val (.int q0), .val (.int q1), .val (.long q2), .second, .val (.int q3), .val (.int (1 : Int32)), .val (.int (own_law_x1 q0 q1 q2 q3)), .val (.long (own_law_x2 q0 q1 q2 q3)), .second, .val (.long (own_law_x3 q0 q1 q2 q3)), .second, .val (.ref b2), .val (.long (own_law_x4 q0 q1 q2 q3)), .second, .val (.int (own_law_x5 q0 q1 q2 q3))]) rfl ?_
    refine o_lload X7 hx (hb hby at_198) (pc' := 200) rfl rfl ?_
    refine o_lload X7 hx (hb hby at_200) (pc' := 202) rfl rfl ?_
    refine o_iload X7 hx (hb hby at_202) (pc' := 204) rfl rfl ?_
    refine o_iconst X7 hx (1 : Int32) (hb hby at_204) (pc' := 205) rfl (by decide) ?_
    refine o_isub X7 hx (hb hby at_205) (pc' := 206) rfl ?_
    refine o_i2l X7 hx (hb hby at_206) (pc' := 207) rfl ?_
    refine o_lload X7 hx (hb hby at_207) (pc' := 209) rfl rfl ?_
    refine o_lmul X7 hx (hb hby at_209) (pc' := 210) rfl ?_
    refine o_ladd X7 hx (hb hby at_210) (pc' := 211) rfl ?_
    refine o_lcmp X7 hx (hb hby at_211) (pc' := 212) rfl ?_
    by_cases hc212_8 : (own_law_x4 q0 q1 q2 q3) = ((own_law_x2 q0 q1 q2 q3) + ((((own_law_x5 q0 q1 q2 q3) - (1 : Int32)).toInt64) * (own_law_x3 q0 q1 q2 q3)))
    · refine o_ifN X7 hx (hb hby at_212) (teqL hc212_8).2 (pc' := 215) rfl ?_
      refine o_iconst X7 hx (1 : Int32) (hb hby at_215) (pc' := 216) rfl (by decide) ?_
      refine o_goto X7 hx (hb hby at_216) (by decide) (pc' := 220) (by decide) ?_
      rw [← hOWE]
      exact o_retZ X7 hx rfl hlk hrt (hb hby at_220) (by decide) (by decide) (by rw [e7]; exact ⟨(by rw [own_law_ret, if_pos hs1, if_pos hc212_8]), N7⟩)
    · refine o_ifY X7 hx (hb hby at_212) (feqL hc212_8).2 (by decide) (pc' := 219) (by decide) ?_
      refine o_iconst X7 hx (0 : Int32) (hb hby at_219) (pc' := 220) rfl (by decide) ?_
      rw [← hOWE]
      exact o_retZ X7 hx rfl hlk hrt (hb hby at_220) (by decide) (by decide) (by rw [e7]; exact ⟨(by rw [own_law_ret, if_pos hs1, if_neg hc212_8]), N7⟩)
  · by_cases hs9 : (own_law_x0 q0 q1 q2 q3) = (2 : Int32)
    · rw [hs9]
      refine o_iloadN X0 hx (hb hby at_8) (pc' := 9) rfl rfl ?_
      refine o_ldcI X0 hx hZ (2147483647 : Int32) hown (w 0 _ rfl) (hb hby at_9) (pc' := 11) rfl ?_
      refine o_iand X0 hx (hb hby at_11) (pc' := 12) rfl ?_
      refine o_bipush X0 hx (100 : Int32) (hb hby at_12) (pc' := 14) rfl (by decide) ?_
      refine o_irem X0 hx (hb hby at_14) (pc' := 15) rfl (by decide) ?_
      refine o_iconst X0 hx (1 : Int32) (hb hby at_15) (pc' := 16) rfl (by decide) ?_
      refine o_iadd X0 hx (hb hby at_16) (pc' := 17) rfl ?_
      refine o_istore (x := (own_law_x1 q0 q1 q2 q3)) X0 hx (hb hby at_17) (pc' := 19) rfl (L' := #[.val (.int q0), .val (.int q1), .val (.long q2), .second, .val (.int q3), .val (.int (2 : Int32)), .val (.int (own_law_x1 q0 q1 q2 q3)), .unset, .unset, .unset, .unset, .unset, .unset, .unset, .unset]) rfl ?_
      refine o_lloadN X0 hx (hb hby at_19) (pc' := 20) rfl rfl ?_
      refine o_iconst X0 hx (4 : Int32) (hb hby at_20) (pc' := 21) rfl (by decide) ?_
      refine o_lshr X0 hx (hb hby at_21) (pc' := 22) rfl ?_
      refine o_lstore (x := (own_law_x2 q0 q1 q2 q3)) X0 hx (hb hby at_22) (pc' := 24) rfl (L' := #[.val (.int q0), .val (.int q1), .val (.long q2), .second, .val (.int q3), .val (.int (2 : Int32)), .val (.int (own_law_x1 q0 q1 q2 q3)), .val (.long (own_law_x2 q0 q1 q2 q3)), .second, .unset, .unset, .unset, .unset, .unset, .unset]) rfl ?_
      refine o_iload X0 hx (hb hby at_24) (pc' := 26) rfl rfl ?_
      refine o_ldcI X0 hx hZ (1048575 : Int32) hown (w 1 _ rfl) (hb hby at_26) (pc' := 28) rfl ?_
      refine o_iand X0 hx (hb hby at_28) (pc' := 29) rfl ?_
      refine o_i2l X0 hx (hb hby at_29) (pc' := 30) rfl ?_
      refine o_lconst X0 hx (1 : Int64) (hb hby at_30) (pc' := 31) rfl (by decide) ?_
      refine o_ladd X0 hx (hb hby at_31) (pc' := 32) rfl ?_
      refine o_lstore (x := (own_law_x3 q0 q1 q2 q3)) X0 hx (hb hby at_32) (pc' := 34) rfl (L' := #[.val (.int q0), .val (.int q1), .val (.long q2), .second, .val (.int q3), .val (.int (2 : Int32)), .val (.int (own_law_x1 q0 q1 q2 q3)), .val (.long (own_law_x2 q0 q1 q2 q3)), .second, .val (.long (own_law_x3 q0 q1 q2 q3)), .second, .unset, .unset, .unset, .unset]) rfl ?_
      refine o_iload X0 hx (hb hby at_34) (pc' := 36) rfl rfl ?_
      refine o_newP X0 hx hZ 2 (w 2 _ rfl) e0 (hb hby at_36) (pc' := 38) rfl (by decide) (by decide) (by decide) (cells' := 1) rfl (slots' := 2) rfl (by decide) (by decide) ?_
      intro T10 h10 b10 k10 qa10 X10 e10 Ex10 A10
      have g_b10 : n0 ≤ b10 := by rw [qa10]; exact Z0
      have Z10 : n0 ≤ h10.size := Nat.le_trans Z0 Ex10.1
      have V10_ : Arv Z h10 b10 k10 .long (2 : Int32) [.long (0 : Int64), .long (0 : Int64)] (.long (0 : Int64)) := own_fill 2 A10
      refine o_astore X10 hx (hb hby at_38) (pc' := 40) rfl (L' := #[.val (.int q0), .val (.int q1), .val (.long q2), .second, .val (.int q3), .val (.int (2 : Int32)), .val (.int (own_law_x1 q0 q1 q2 q3)), .val (.long (own_law_x2 q0 q1 q2 q3)), .second, .val (.long (own_law_x3 q0 q1 q2 q3)), .second, .val (.ref b10), .unset, .unset, .unset]) rfl rfl ?_
      refine o_aload X10 hx (hb hby at_40) (pc' := 42) rfl rfl rfl ?_
      refine o_iconst X10 hx (0 : Int32) (hb hby at_42) (pc' := 43) rfl (by decide) ?_
      refine o_lload X10 hx (hb hby at_43) (pc' := 45) rfl rfl ?_
      refine o_lastore X10 hx hZ 0 e10 V10_ (by decide) (by decide) (by exact (by decide : 0 < 2)) (vs' := [.long (own_law_x2 q0 q1 q2 q3), .long (0 : Int64)]) rfl (hb hby at_45) (pc' := 46) rfl ?_
      intro T12 h12 X12 e12 W12 V12_
      have N12 := Fr.snoc X12 N0 g_b10
      have Z12 : n0 ≤ h12.size := by rw [W12.size]; exact Z10
      refine o_iload X12 hx (hb hby at_46) (pc' := 48) rfl rfl ?_
      refine o_iconst X12 hx (1 : Int32) (hb hby at_48) (pc' := 49) rfl (by decide) ?_
      refine o_cmpN X12 hx (hb hby at_49) (tlt (by decide : (1 : Int32) < (2 : Int32))).2.2.2 (pc' := 52) rfl ?_
      refine o_aload X12 hx (hb hby at_52) (pc' := 54) rfl rfl rfl ?_
      refine o_iconst X12 hx (1 : Int32) (hb hby at_54) (pc' := 55) rfl (by decide) ?_
      refine o_lload X12 hx (hb hby at_55) (pc' := 57) rfl rfl ?_
      refine o_lload X12 hx (hb hby at_57) (pc' := 59) rfl rfl ?_
      refine o_ladd X12 hx (hb hby at_59) (pc' := 60) rfl ?_
      refine o_lastore X12 hx hZ 1 e12 V12_ (by decide) (by decide) (by exact (by decide : 1 < 2)) (vs' := [.long (own_law_x2 q0 q1 q2 q3), .long ((own_law_x2 q0 q1 q2 q3) + (own_law_x3 q0 q1 q2 q3))]) rfl (hb hby at_60) (pc' := 61) rfl ?_
      intro T14 h14 X14 e14 W14 V14_
      have N14 := Fr.snoc X14 N12 g_b10
      have Z14 : n0 ≤ h14.size := by rw [W14.size]; exact Z12
      refine o_iload X14 hx (hb hby at_61) (pc' := 63) rfl rfl ?_
      refine o_iconst X14 hx (2 : Int32) (hb hby at_63) (pc' := 64) rfl (by decide) ?_
      refine o_cmpY X14 hx (hb hby at_64) (flt (by decide : ¬ ((2 : Int32) < (2 : Int32)))).2.2.2 (by decide) (pc' := 80) (by decide) ?_
      refine o_iload X14 hx (hb hby at_80) (pc' := 82) rfl rfl ?_
      refine o_iconst X14 hx (3 : Int32) (hb hby at_82) (pc' := 83) rfl (by decide) ?_
      refine o_cmpY X14 hx (hb hby at_83) (flt (by decide : ¬ ((3 : Int32) < (2 : Int32)))).2.2.2 (by decide) (pc' := 99) (by decide) ?_
      refine o_iload X14 hx (hb hby at_99) (pc' := 101) rfl rfl ?_
      refine o_iconst X14 hx (4 : Int32) (hb hby at_101) (pc' := 102) rfl (by decide) ?_
      refine o_cmpY X14 hx (hb hby at_102) (flt (by decide : ¬ ((4 : Int32) < (2 : Int32)))).2.2.2 (by decide) (pc' := 118) (by decide) ?_
      refine o_iload X14 hx (hb hby at_118) (pc' := 120) rfl rfl ?_
      refine o_iconst X14 hx (5 : Int32) (hb hby at_120) (pc' := 121) rfl (by decide) ?_
      refine o_cmpY X14 hx (hb hby at_121) (flt (by decide : ¬ ((5 : Int32) < (2 : Int32)))).2.2.2 (by decide) (pc' := 137) (by decide) ?_
      refine o_iload X14 hx (hb hby at_137) (pc' := 139) rfl rfl ?_
      refine o_bipush X14 hx (6 : Int32) (hb hby at_139) (pc' := 141) rfl (by decide) ?_
      refine o_cmpY X14 hx (hb hby at_141) (flt (by decide : ¬ ((6 : Int32) < (2 : Int32)))).2.2.2 (by decide) (pc' := 158) (by decide) ?_
      refine o_iload X14 hx (hb hby at_158) (pc' := 160) rfl rfl ?_
      refine o_bipush X14 hx (7 : Int32) (hb hby at_160) (pc' := 162) rfl (by decide) ?_
      refine o_cmpY X14 hx (hb hby at_162) (flt (by decide : ¬ ((7 : Int32) < (2 : Int32)))).2.2.2 (by decide) (pc' := 179) (by decide) ?_
      refine o_aload X14 hx (hb hby at_179) (pc' := 181) rfl rfl rfl ?_
      refine o_iload X14 hx (hb hby at_181) (pc' := 183) rfl rfl ?_
      refine o_callS X14 hx hZ 0 (argsL := [.ref b10, .int (own_law_x1 q0 q1 q2 q3)]) (rest := []) hown (w 3 _ rfl) (w 4 _ rfl) (w 5 _ rfl) (w 6 _ rfl) (by decide) (rm1_2 l Z a0 hw [] b10 (own_law_x2 q0 q1 q2 q3) ((own_law_x2 q0 q1 q2 q3) + (own_law_x3 q0 q1 q2 q3)) (own_law_x1 q0 q1 q2 q3) k10 h14 n0 Z14 V14_ (own_p q0 q1 q2 q3).1 (own_p q0 q1 q2 q3).2) (by decide) (by decide) (cells' := 1) rfl (slots' := 2) rfl (by decide) (by decide) e14 (by rw [hml]; rfl) (lenOf pd_0 rfl) rfl rfl (hb hby at_183) (pc' := 186) rfl ?_
      intro T16 v16 L16 X16 hQ16
      obtain ⟨rfl, Nq16, e16⟩ := hQ16
      have N16 := Fr.app N14 Nq16
      show Go p e below _ (T16.setTop (mkF m 186 _ [.long (own_f1_2_ret (own_law_x2 q0 q1 q2 q3) ((own_law_x2 q0 q1 q2 q3) + (own_law_x3 q0 q1 q2 q3)) (own_law_x1 q0 q1 q2 q3))]))
      refine o_lstore (x := (own_law_x6 q0 q1 q2 q3)) X16 hx (hb hby at_186) (pc' := 188) rfl (L' := #[.val (.int q0), .val (.int q1), .val (.long q2), .second, .val (.int q3), .val (.int (2 : Int32)), .val (.int (own_law_x1 q0 q1 q2 q3)), .val (.long (own_law_x2 q0 q1 q2 q3)), .second, .val (.long (own_law_x3 q0 q1 q2 q3)), .second, .val (.ref b10), .val (.long (own_law_x6 q0 q1 q2 q3)), .second, .unset]) rfl ?_
      refine o_iload X16 hx (hb hby at_188) (pc' := 190) rfl rfl ?_
      refine o_iload X16 hx (hb hby at_190) (pc' := 192) rfl rfl ?_
      refine o_imul X16 hx (hb hby at_192) (pc' := 193) rfl ?_
      refine o_callS X16 hx hZ 0 (argsL := [.int ((own_law_x1 q0 q1 q2 q3) * (2 : Int32))]) (rest := []) hown (w 9 _ rfl) (w 10 _ rfl) (w 11 _ rfl) (w 12 _ rfl) (by decide) (rm2 l Z a0 hw [] ((own_law_x1 q0 q1 q2 q3) * (2 : Int32)) h14 n0 Z14 ) (by decide) (by decide) (cells' := 1) rfl (slots' := 2) rfl (by decide) (by decide) e16 (by rw [hml]; rfl) (lenOf pd_1 rfl) rfl rfl (hb hby at_193) (pc' := 196) rfl ?_
      intro T17 v17 L17 X17 hQ17
      obtain ⟨rfl, Nq17, e17⟩ := hQ17
      have N17 := Fr.app N16 Nq17
      show Go p e below _ (T17.setTop (mkF m 196 _ [.int (own_f2_ret ((own_law_x1 q0 q1 q2 q3) * (2 : Int32)))]))
      refine o_istore (x := (own_law_x7 q0 q1 q2 q3)) X17 hx (hb hby at_196) (pc' := 198) rfl (L' := #[.val (.int q0), .val (.int q1), .val (.long q2), .second, .val (.int q3), .val (.int (2 : Int32)), .val (.int (own_law_x1 q0 q1 q2 q3)), .val (.long (own_law_x2 q0 q1 q2 q3)), .second, .val (.long (own_law_x3 q0 q1 q2 q3)), .second, .val (.ref b10), .val (.long (own_law_x6 q0 q1 q2 q3)), .second, .val (.int (own_law_x7 q0 q1 q2 q3))]) rfl ?_
      refine o_lload X17 hx (hb hby at_198) (pc' := 200) rfl rfl ?_
      refine o_lload X17 hx (hb hby at_200) (pc' := 202) rfl rfl ?_
      refine o_iload X17 hx (hb hby at_202) (pc' := 204) rfl rfl ?_
      refine o_iconst X17 hx (1 : Int32) (hb hby at_204) (pc' := 205) rfl (by decide) ?_
      refine o_isub X17 hx (hb hby at_205) (pc' := 206) rfl ?_
      refine o_i2l X17 hx (hb hby at_206) (pc' := 207) rfl ?_
      refine o_lload X17 hx (hb hby at_207) (pc' := 209) rfl rfl ?_
      refine o_lmul X17 hx (hb hby at_209) (pc' := 210) rfl ?_
      refine o_ladd X17 hx (hb hby at_210) (pc' := 211) rfl ?_
      refine o_lcmp X17 hx (hb hby at_211) (pc' := 212) rfl ?_
      by_cases hc212_18 : (own_law_x6 q0 q1 q2 q3) = ((own_law_x2 q0 q1 q2 q3) + ((((own_law_x7 q0 q1 q2 q3) - (1 : Int32)).toInt64) * (own_law_x3 q0 q1 q2 q3)))
      · refine o_ifN X17 hx (hb hby at_212) (teqL hc212_18).2 (pc' := 215) rfl ?_
        refine o_iconst X17 hx (1 : Int32) (hb hby at_215) (pc' := 216) rfl (by decide) ?_
        refine o_goto X17 hx (hb hby at_216) (by decide) (pc' := 220) (by decide) ?_
        rw [← hOWE]
        exact o_retZ X17 hx rfl hlk hrt (hb hby at_220) (by decide) (by decide) (by rw [e17]; exact ⟨(by rw [own_law_ret, if_neg hs1, if_pos hs9, if_pos hc212_18]), N17⟩)
      · refine o_ifY X17 hx (hb hby at_212) (feqL hc212_18).2 (by decide) (pc' := 219) (by decide) ?_
        refine o_iconst X17 hx (0 : Int32) (hb hby at_219) (pc' := 220) rfl (by decide) ?_
        rw [← hOWE]
        exact o_retZ X17 hx rfl hlk hrt (hb hby at_220) (by decide) (by decide) (by rw [e17]; exact ⟨(by rw [own_law_ret, if_neg hs1, if_pos hs9, if_neg hc212_18]), N17⟩)
    · by_cases hs19 : (own_law_x0 q0 q1 q2 q3) = (3 : Int32)
      · rw [hs19]
        refine o_iloadN X0 hx (hb hby at_8) (pc' := 9) rfl rfl ?_
        refine o_ldcI X0 hx hZ (2147483647 : Int32) hown (w 0 _ rfl) (hb hby at_9) (pc' := 11) rfl ?_
        refine o_iand X0 hx (hb hby at_11) (pc' := 12) rfl ?_
        refine o_bipush X0 hx (100 : Int32) (hb hby at_12) (pc' := 14) rfl (by decide) ?_
        refine o_irem X0 hx (hb hby at_14) (pc' := 15) rfl (by decide) ?_
        refine o_iconst X0 hx (1 : Int32) (hb hby at_15) (pc' := 16) rfl (by decide) ?_
        refine o_iadd X0 hx (hb hby at_16) (pc' := 17) rfl ?_
        refine o_istore (x := (own_law_x1 q0 q1 q2 q3)) X0 hx (hb hby at_17) (pc' := 19) rfl (L' := #[.val (.int q0), .val (.int q1), .val (.long q2), .second, .val (.int q3), .val (.int (3 : Int32)), .val (.int (own_law_x1 q0 q1 q2 q3)), .unset, .unset, .unset, .unset, .unset, .unset, .unset, .unset]) rfl ?_
        refine o_lloadN X0 hx (hb hby at_19) (pc' := 20) rfl rfl ?_
        refine o_iconst X0 hx (4 : Int32) (hb hby at_20) (pc' := 21) rfl (by decide) ?_
        refine o_lshr X0 hx (hb hby at_21) (pc' := 22) rfl ?_
        refine o_lstore (x := (own_law_x2 q0 q1 q2 q3)) X0 hx (hb hby at_22) (pc' := 24) rfl (L' := #[.val (.int q0), .val (.int q1), .val (.long q2), .second, .val (.int q3), .val (.int (3 : Int32)), .val (.int (own_law_x1 q0 q1 q2 q3)), .val (.long (own_law_x2 q0 q1 q2 q3)), .second, .unset, .unset, .unset, .unset, .unset, .unset]) rfl ?_
        refine o_iload X0 hx (hb hby at_24) (pc' := 26) rfl rfl ?_
        refine o_ldcI X0 hx hZ (1048575 : Int32) hown (w 1 _ rfl) (hb hby at_26) (pc' := 28) rfl ?_
        refine o_iand X0 hx (hb hby at_28) (pc' := 29) rfl ?_
        refine o_i2l X0 hx (hb hby at_29) (pc' := 30) rfl ?_
        refine o_lconst X0 hx (1 : Int64) (hb hby at_30) (pc' := 31) rfl (by decide) ?_
        refine o_ladd X0 hx (hb hby at_31) (pc' := 32) rfl ?_
        refine o_lstore (x := (own_law_x3 q0 q1 q2 q3)) X0 hx (hb hby at_32) (pc' := 34) rfl (L' := #[.val (.int q0), .val (.int q1), .val (.long q2), .second, .val (.int q3), .val (.int (3 : Int32)), .val (.int (own_law_x1 q0 q1 q2 q3)), .val (.long (own_law_x2 q0 q1 q2 q3)), .second, .val (.long (own_law_x3 q0 q1 q2 q3)), .second, .unset, .unset, .unset, .unset]) rfl ?_
        refine o_iload X0 hx (hb hby at_34) (pc' := 36) rfl rfl ?_
        refine o_newP X0 hx hZ 3 (w 2 _ rfl) e0 (hb hby at_36) (pc' := 38) rfl (by decide) (by decide) (by decide) (cells' := 1) rfl (slots' := 3) rfl (by decide) (by decide) ?_
        intro T20 h20 b20 k20 qa20 X20 e20 Ex20 A20
        have g_b20 : n0 ≤ b20 := by rw [qa20]; exact Z0
        have Z20 : n0 ≤ h20.size := Nat.le_trans Z0 Ex20.1
        have V20_ : Arv Z h20 b20 k20 .long (3 : Int32) [.long (0 : Int64), .long (0 : Int64), .long (0 : Int64)] (.long (0 : Int64)) := own_fill 3 A20
        refine o_astore X20 hx (hb hby at_38) (pc' := 40) rfl (L' := #[.val (.int q0), .val (.int q1), .val (.long q2), .second, .val (.int q3), .val (.int (3 : Int32)), .val (.int (own_law_x1 q0 q1 q2 q3)), .val (.long (own_law_x2 q0 q1 q2 q3)), .second, .val (.long (own_law_x3 q0 q1 q2 q3)), .second, .val (.ref b20), .unset, .unset, .unset]) rfl rfl ?_
        refine o_aload X20 hx (hb hby at_40) (pc' := 42) rfl rfl rfl ?_
        refine o_iconst X20 hx (0 : Int32) (hb hby at_42) (pc' := 43) rfl (by decide) ?_
        refine o_lload X20 hx (hb hby at_43) (pc' := 45) rfl rfl ?_
        refine o_lastore X20 hx hZ 0 e20 V20_ (by decide) (by decide) (by exact (by decide : 0 < 3)) (vs' := [.long (own_law_x2 q0 q1 q2 q3), .long (0 : Int64), .long (0 : Int64)]) rfl (hb hby at_45) (pc' := 46) rfl ?_
        intro T22 h22 X22 e22 W22 V22_
        have N22 := Fr.snoc X22 N0 g_b20
        have Z22 : n0 ≤ h22.size := by rw [W22.size]; exact Z20
        refine o_iload X22 hx (hb hby at_46) (pc' := 48) rfl rfl ?_
        refine o_iconst X22 hx (1 : Int32) (hb hby at_48) (pc' := 49) rfl (by decide) ?_
        refine o_cmpN X22 hx (hb hby at_49) (tlt (by decide : (1 : Int32) < (3 : Int32))).2.2.2 (pc' := 52) rfl ?_
        refine o_aload X22 hx (hb hby at_52) (pc' := 54) rfl rfl rfl ?_
        refine o_iconst X22 hx (1 : Int32) (hb hby at_54) (pc' := 55) rfl (by decide) ?_
        refine o_lload X22 hx (hb hby at_55) (pc' := 57) rfl rfl ?_
        refine o_lload X22 hx (hb hby at_57) (pc' := 59) rfl rfl ?_
        refine o_ladd X22 hx (hb hby at_59) (pc' := 60) rfl ?_
        refine o_lastore X22 hx hZ 1 e22 V22_ (by decide) (by decide) (by exact (by decide : 1 < 3)) (vs' := [.long (own_law_x2 q0 q1 q2 q3), .long ((own_law_x2 q0 q1 q2 q3) + (own_law_x3 q0 q1 q2 q3)), .long (0 : Int64)]) rfl (hb hby at_60) (pc' := 61) rfl ?_
        intro T24 h24 X24 e24 W24 V24_
        have N24 := Fr.snoc X24 N22 g_b20
        have Z24 : n0 ≤ h24.size := by rw [W24.size]; exact Z22
        refine o_iload X24 hx (hb hby at_61) (pc' := 63) rfl rfl ?_
        refine o_iconst X24 hx (2 : Int32) (hb hby at_63) (pc' := 64) rfl (by decide) ?_
        refine o_cmpN X24 hx (hb hby at_64) (tlt (by decide : (2 : Int32) < (3 : Int32))).2.2.2 (pc' := 67) rfl ?_
        refine o_aload X24 hx (hb hby at_67) (pc' := 69) rfl rfl rfl ?_
        refine o_iconst X24 hx (2 : Int32) (hb hby at_69) (pc' := 70) rfl (by decide) ?_
        refine o_lload X24 hx (hb hby at_70) (pc' := 72) rfl rfl ?_
        refine o_ldcJ X24 hx hZ (2 : Int64) hown (w 13 _ rfl) (hb hby at_72) (pc' := 75) rfl ?_
        refine o_lload X24 hx (hb hby at_75) (pc' := 77) rfl rfl ?_
        refine o_lmul X24 hx (hb hby at_77) (pc' := 78) rfl ?_
        refine o_ladd X24 hx (hb hby at_78) (pc' := 79) rfl ?_
        refine o_lastore X24 hx hZ 2 e24 V24_ (by decide) (by decide) (by exact (by decide : 2 < 3)) (vs' := [.long (own_law_x2 q0 q1 q2 q3), .long ((own_law_x2 q0 q1 q2 q3) + (own_law_x3 q0 q1 q2 q3)), .long ((own_law_x2 q0 q1 q2 q3) + ((2 : Int64) * (own_law_x3 q0 q1 q2 q3)))]) rfl (hb hby at_79) (pc' := 80) rfl ?_
        intro T26 h26 X26 e26 W26 V26_
        have N26 := Fr.snoc X26 N24 g_b20
        have Z26 : n0 ≤ h26.size := by rw [W26.size]; exact Z24
        refine o_iload X26 hx (hb hby at_80) (pc' := 82) rfl rfl ?_
        refine o_iconst X26 hx (3 : Int32) (hb hby at_82) (pc' := 83) rfl (by decide) ?_
        refine o_cmpY X26 hx (hb hby at_83) (flt (by decide : ¬ ((3 : Int32) < (3 : Int32)))).2.2.2 (by decide) (pc' := 99) (by decide) ?_
        refine o_iload X26 hx (hb hby at_99) (pc' := 101) rfl rfl ?_
        refine o_iconst X26 hx (4 : Int32) (hb hby at_101) (pc' := 102) rfl (by decide) ?_
        refine o_cmpY X26 hx (hb hby at_102) (flt (by decide : ¬ ((4 : Int32) < (3 : Int32)))).2.2.2 (by decide) (pc' := 118) (by decide) ?_
        refine o_iload X26 hx (hb hby at_118) (pc' := 120) rfl rfl ?_
        refine o_iconst X26 hx (5 : Int32) (hb hby at_120) (pc' := 121) rfl (by decide) ?_
        refine o_cmpY X26 hx (hb hby at_121) (flt (by decide : ¬ ((5 : Int32) < (3 : Int32)))).2.2.2 (by decide) (pc' := 137) (by decide) ?_
        refine o_iload X26 hx (hb hby at_137) (pc' := 139) rfl rfl ?_
        refine o_bipush X26 hx (6 : Int32) (hb hby at_139) (pc' := 141) rfl (by decide) ?_
        refine o_cmpY X26 hx (hb hby at_141) (flt (by decide : ¬ ((6 : Int32) < (3 : Int32)))).2.2.2 (by decide) (pc' := 158) (by decide) ?_
        refine o_iload X26 hx (hb hby at_158) (pc' := 160) rfl rfl ?_
        refine o_bipush X26 hx (7 : Int32) (hb hby at_160) (pc' := 162) rfl (by decide) ?_
        refine o_cmpY X26 hx (hb hby at_162) (flt (by decide : ¬ ((7 : Int32) < (3 : Int32)))).2.2.2 (by decide) (pc' := 179) (by decide) ?_
        refine o_aload X26 hx (hb hby at_179) (pc' := 181) rfl rfl rfl ?_
        refine o_iload X26 hx (hb hby at_181) (pc' := 183) rfl rfl ?_
        refine o_callS X26 hx hZ 0 (argsL := [.ref b20, .int (own_law_x1 q0 q1 q2 q3)]) (rest := []) hown (w 3 _ rfl) (w 4 _ rfl) (w 5 _ rfl) (w 6 _ rfl) (by decide) (rm1_3 l Z a0 hw [] b20 (own_law_x2 q0 q1 q2 q3) ((own_law_x2 q0 q1 q2 q3) + (own_law_x3 q0 q1 q2 q3)) ((own_law_x2 q0 q1 q2 q3) + ((2 : Int64) * (own_law_x3 q0 q1 q2 q3))) (own_law_x1 q0 q1 q2 q3) k20 h26 n0 Z26 V26_ (own_p q0 q1 q2 q3).1 (own_p q0 q1 q2 q3).2) (by decide) (by decide) (cells' := 1) rfl (slots' := 3) rfl (by decide) (by decide) e26 (by rw [hml]; rfl) (lenOf pd_0 rfl) rfl rfl (hb hby at_183) (pc' := 186) rfl ?_
        intro T28 v28 L28 X28 hQ28
        obtain ⟨rfl, Nq28, e28⟩ := hQ28
        have N28 := Fr.app N26 Nq28
        show Go p e below _ (T28.setTop (mkF m 186 _ [.long (own_f1_3_ret (own_law_x2 q0 q1 q2 q3) ((own_law_x2 q0 q1 q2 q3) + (own_law_x3 q0 q1 q2 q3)) ((own_law_x2 q0 q1 q2 q3) + ((2 : Int64) * (own_law_x3 q0 q1 q2 q3))) (own_law_x1 q0 q1 q2 q3))]))
        refine o_lstore (x := (own_law_x8 q0 q1 q2 q3)) X28 hx (hb hby at_186) (pc' := 188) rfl (L' := #[.val (.int q0), .val (.int q1), .val (.long q2), .second, .val (.int q3), .val (.int (3 : Int32)), .val (.int (own_law_x1 q0 q1 q2 q3)), .val (.long (own_law_x2 q0 q1 q2 q3)), .second, .val (.long (own_law_x3 q0 q1 q2 q3)), .second, .val (.ref b20), .val (.long (own_law_x8 q0 q1 q2 q3)), .second, .unset]) rfl ?_
        refine o_iload X28 hx (hb hby at_188) (pc' := 190) rfl rfl ?_
        refine o_iload X28 hx (hb hby at_190) (pc' := 192) rfl rfl ?_
        refine o_imul X28 hx (hb hby at_192) (pc' := 193) rfl ?_
        refine o_callS X28 hx hZ 0 (argsL := [.int ((own_law_x1 q0 q1 q2 q3) * (3 : Int32))]) (rest := []) hown (w 9 _ rfl) (w 10 _ rfl) (w 11 _ rfl) (w 12 _ rfl) (by decide) (rm2 l Z a0 hw [] ((own_law_x1 q0 q1 q2 q3) * (3 : Int32)) h26 n0 Z26 ) (by decide) (by decide) (cells' := 1) rfl (slots' := 3) rfl (by decide) (by decide) e28 (by rw [hml]; rfl) (lenOf pd_1 rfl) rfl rfl (hb hby at_193) (pc' := 196) rfl ?_
        intro T29 v29 L29 X29 hQ29
        obtain ⟨rfl, Nq29, e29⟩ := hQ29
        have N29 := Fr.app N28 Nq29
        show Go p e below _ (T29.setTop (mkF m 196 _ [.int (own_f2_ret ((own_law_x1 q0 q1 q2 q3) * (3 : Int32)))]))
        refine o_istore (x := (own_law_x9 q0 q1 q2 q3)) X29 hx (hb hby at_196) (pc' := 198) rfl (L' := #[.val (.int q0), .val (.int q1), .val (.long q2), .second, .val (.int q3), .val (.int (3 : Int32)), .val (.int (own_law_x1 q0 q1 q2 q3)), .val (.long (own_law_x2 q0 q1 q2 q3)), .second, .val (.long (own_law_x3 q0 q1 q2 q3)), .second, .val (.ref b20), .val (.long (own_law_x8 q0 q1 q2 q3)), .second, .val (.int (own_law_x9 q0 q1 q2 q3))]) rfl ?_
        refine o_lload X29 hx (hb hby at_198) (pc' := 200) rfl rfl ?_
        refine o_lload X29 hx (hb hby at_200) (pc' := 202) rfl rfl ?_
        refine o_iload X29 hx (hb hby at_202) (pc' := 204) rfl rfl ?_
        refine o_iconst X29 hx (1 : Int32) (hb hby at_204) (pc' := 205) rfl (by decide) ?_
        refine o_isub X29 hx (hb hby at_205) (pc' := 206) rfl ?_
        refine o_i2l X29 hx (hb hby at_206) (pc' := 207) rfl ?_
        refine o_lload X29 hx (hb hby at_207) (pc' := 209) rfl rfl ?_
        refine o_lmul X29 hx (hb hby at_209) (pc' := 210) rfl ?_
        refine o_ladd X29 hx (hb hby at_210) (pc' := 211) rfl ?_
        refine o_lcmp X29 hx (hb hby at_211) (pc' := 212) rfl ?_
        by_cases hc212_30 : (own_law_x8 q0 q1 q2 q3) = ((own_law_x2 q0 q1 q2 q3) + ((((own_law_x9 q0 q1 q2 q3) - (1 : Int32)).toInt64) * (own_law_x3 q0 q1 q2 q3)))
        · refine o_ifN X29 hx (hb hby at_212) (teqL hc212_30).2 (pc' := 215) rfl ?_
          refine o_iconst X29 hx (1 : Int32) (hb hby at_215) (pc' := 216) rfl (by decide) ?_
          refine o_goto X29 hx (hb hby at_216) (by decide) (pc' := 220) (by decide) ?_
          rw [← hOWE]
          exact o_retZ X29 hx rfl hlk hrt (hb hby at_220) (by decide) (by decide) (by rw [e29]; exact ⟨(by rw [own_law_ret, if_neg hs1, if_neg hs9, if_pos hs19, if_pos hc212_30]), N29⟩)
        · refine o_ifY X29 hx (hb hby at_212) (feqL hc212_30).2 (by decide) (pc' := 219) (by decide) ?_
          refine o_iconst X29 hx (0 : Int32) (hb hby at_219) (pc' := 220) rfl (by decide) ?_
          rw [← hOWE]
          exact o_retZ X29 hx rfl hlk hrt (hb hby at_220) (by decide) (by decide) (by rw [e29]; exact ⟨(by rw [own_law_ret, if_neg hs1, if_neg hs9, if_pos hs19, if_neg hc212_30]), N29⟩)
      · by_cases hs31 : (own_law_x0 q0 q1 q2 q3) = (4 : Int32)
        · rw [hs31]
          refine o_iloadN X0 hx (hb hby at_8) (pc' := 9) rfl rfl ?_
          refine o_ldcI X0 hx hZ (2147483647 : Int32) hown (w 0 _ rfl) (hb hby at_9) (pc' := 11) rfl ?_
          refine o_iand X0 hx (hb hby at_11) (pc' := 12) rfl ?_
          refine o_bipush X0 hx (100 : Int32) (hb hby at_12) (pc' := 14) rfl (by decide) ?_
          refine o_irem X0 hx (hb hby at_14) (pc' := 15) rfl (by decide) ?_
          refine o_iconst X0 hx (1 : Int32) (hb hby at_15) (pc' := 16) rfl (by decide) ?_
          refine o_iadd X0 hx (hb hby at_16) (pc' := 17) rfl ?_
          refine o_istore (x := (own_law_x1 q0 q1 q2 q3)) X0 hx (hb hby at_17) (pc' := 19) rfl (L' := #[.val (.int q0), .val (.int q1), .val (.long q2), .second, .val (.int q3), .val (.int (4 : Int32)), .val (.int (own_law_x1 q0 q1 q2 q3)), .unset, .unset, .unset, .unset, .unset, .unset, .unset, .unset]) rfl ?_
          refine o_lloadN X0 hx (hb hby at_19) (pc' := 20) rfl rfl ?_
          refine o_iconst X0 hx (4 : Int32) (hb hby at_20) (pc' := 21) rfl (by decide) ?_
          refine o_lshr X0 hx (hb hby at_21) (pc' := 22) rfl ?_
          refine o_lstore (x := (own_law_x2 q0 q1 q2 q3)) X0 hx (hb hby at_22) (pc' := 24) rfl (L' := #[.val (.int q0), .val (.int q1), .val (.long q2), .second, .val (.int q3), .val (.int (4 : Int32)), .val (.int (own_law_x1 q0 q1 q2 q3)), .val (.long (own_law_x2 q0 q1 q2 q3)), .second, .unset, .unset, .unset, .unset, .unset, .unset]) rfl ?_
          refine o_iload X0 hx (hb hby at_24) (pc' := 26) rfl rfl ?_
          refine o_ldcI X0 hx hZ (1048575 : Int32) hown (w 1 _ rfl) (hb hby at_26) (pc' := 28) rfl ?_
          refine o_iand X0 hx (hb hby at_28) (pc' := 29) rfl ?_
          refine o_i2l X0 hx (hb hby at_29) (pc' := 30) rfl ?_
          refine o_lconst X0 hx (1 : Int64) (hb hby at_30) (pc' := 31) rfl (by decide) ?_
          refine o_ladd X0 hx (hb hby at_31) (pc' := 32) rfl ?_
          refine o_lstore (x := (own_law_x3 q0 q1 q2 q3)) X0 hx (hb hby at_32) (pc' := 34) rfl (L' := #[.val (.int q0), .val (.int q1), .val (.long q2), .second, .val (.int q3), .val (.int (4 : Int32)), .val (.int (own_law_x1 q0 q1 q2 q3)), .val (.long (own_law_x2 q0 q1 q2 q3)), .second, .val (.long (own_law_x3 q0 q1 q2 q3)), .second, .unset, .unset, .unset, .unset]) rfl ?_
          refine o_iload X0 hx (hb hby at_34) (pc' := 36) rfl rfl ?_
          refine o_newP X0 hx hZ 4 (w 2 _ rfl) e0 (hb hby at_36) (pc' := 38) rfl (by decide) (by decide) (by decide) (cells' := 1) rfl (slots' := 4) rfl (by decide) (by decide) ?_
          intro T32 h32 b32 k32 qa32 X32 e32 Ex32 A32
          have g_b32 : n0 ≤ b32 := by rw [qa32]; exact Z0
          have Z32 : n0 ≤ h32.size := Nat.le_trans Z0 Ex32.1
          have V32_ : Arv Z h32 b32 k32 .long (4 : Int32) [.long (0 : Int64), .long (0 : Int64), .long (0 : Int64), .long (0 : Int64)] (.long (0 : Int64)) := own_fill 4 A32
          refine o_astore X32 hx (hb hby at_38) (pc' := 40) rfl (L' := #[.val (.int q0), .val (.int q1), .val (.long q2), .second, .val (.int q3), .val (.int (4 : Int32)), .val (.int (own_law_x1 q0 q1 q2 q3)), .val (.long (own_law_x2 q0 q1 q2 q3)), .second, .val (.long (own_law_x3 q0 q1 q2 q3)), .second, .val (.ref b32), .unset, .unset, .unset]) rfl rfl ?_
          refine o_aload X32 hx (hb hby at_40) (pc' := 42) rfl rfl rfl ?_
          refine o_iconst X32 hx (0 : Int32) (hb hby at_42) (pc' := 43) rfl (by decide) ?_
          refine o_lload X32 hx (hb hby at_43) (pc' := 45) rfl rfl ?_
          refine o_lastore X32 hx hZ 0 e32 V32_ (by decide) (by decide) (by exact (by decide : 0 < 4)) (vs' := [.long (own_law_x2 q0 q1 q2 q3), .long (0 : Int64), .long (0 : Int64), .long (0 : Int64)]) rfl (hb hby at_45) (pc' := 46) rfl ?_
          intro T34 h34 X34 e34 W34 V34_
          have N34 := Fr.snoc X34 N0 g_b32
          have Z34 : n0 ≤ h34.size := by rw [W34.size]; exact Z32
          refine o_iload X34 hx (hb hby at_46) (pc' := 48) rfl rfl ?_
          refine o_iconst X34 hx (1 : Int32) (hb hby at_48) (pc' := 49) rfl (by decide) ?_
          refine o_cmpN X34 hx (hb hby at_49) (tlt (by decide : (1 : Int32) < (4 : Int32))).2.2.2 (pc' := 52) rfl ?_
          refine o_aload X34 hx (hb hby at_52) (pc' := 54) rfl rfl rfl ?_
          refine o_iconst X34 hx (1 : Int32) (hb hby at_54) (pc' := 55) rfl (by decide) ?_
          refine o_lload X34 hx (hb hby at_55) (pc' := 57) rfl rfl ?_
          refine o_lload X34 hx (hb hby at_57) (pc' := 59) rfl rfl ?_
          refine o_ladd X34 hx (hb hby at_59) (pc' := 60) rfl ?_
          refine o_lastore X34 hx hZ 1 e34 V34_ (by decide) (by decide) (by exact (by decide : 1 < 4)) (vs' := [.long (own_law_x2 q0 q1 q2 q3), .long ((own_law_x2 q0 q1 q2 q3) + (own_law_x3 q0 q1 q2 q3)), .long (0 : Int64), .long (0 : Int64)]) rfl (hb hby at_60) (pc' := 61) rfl ?_
          intro T36 h36 X36 e36 W36 V36_
          have N36 := Fr.snoc X36 N34 g_b32
          have Z36 : n0 ≤ h36.size := by rw [W36.size]; exact Z34
          refine o_iload X36 hx (hb hby at_61) (pc' := 63) rfl rfl ?_
          refine o_iconst X36 hx (2 : Int32) (hb hby at_63) (pc' := 64) rfl (by decide) ?_
          refine o_cmpN X36 hx (hb hby at_64) (tlt (by decide : (2 : Int32) < (4 : Int32))).2.2.2 (pc' := 67) rfl ?_
          refine o_aload X36 hx (hb hby at_67) (pc' := 69) rfl rfl rfl ?_
          refine o_iconst X36 hx (2 : Int32) (hb hby at_69) (pc' := 70) rfl (by decide) ?_
          refine o_lload X36 hx (hb hby at_70) (pc' := 72) rfl rfl ?_
          refine o_ldcJ X36 hx hZ (2 : Int64) hown (w 13 _ rfl) (hb hby at_72) (pc' := 75) rfl ?_
          refine o_lload X36 hx (hb hby at_75) (pc' := 77) rfl rfl ?_
          refine o_lmul X36 hx (hb hby at_77) (pc' := 78) rfl ?_
          refine o_ladd X36 hx (hb hby at_78) (pc' := 79) rfl ?_
          refine o_lastore X36 hx hZ 2 e36 V36_ (by decide) (by decide) (by exact (by decide : 2 < 4)) (vs' := [.long (own_law_x2 q0 q1 q2 q3), .long ((own_law_x2 q0 q1 q2 q3) + (own_law_x3 q0 q1 q2 q3)), .long ((own_law_x2 q0 q1 q2 q3) + ((2 : Int64) * (own_law_x3 q0 q1 q2 q3))), .long (0 : Int64)]) rfl (hb hby at_79) (pc' := 80) rfl ?_
          intro T38 h38 X38 e38 W38 V38_
          have N38 := Fr.snoc X38 N36 g_b32
          have Z38 : n0 ≤ h38.size := by rw [W38.size]; exact Z36
          refine o_iload X38 hx (hb hby at_80) (pc' := 82) rfl rfl ?_
          refine o_iconst X38 hx (3 : Int32) (hb hby at_82) (pc' := 83) rfl (by decide) ?_
          refine o_cmpN X38 hx (hb hby at_83) (tlt (by decide : (3 : Int32) < (4 : Int32))).2.2.2 (pc' := 86) rfl ?_
          refine o_aload X38 hx (hb hby at_86) (pc' := 88) rfl rfl rfl ?_
          refine o_iconst X38 hx (3 : Int32) (hb hby at_88) (pc' := 89) rfl (by decide) ?_
          refine o_lload X38 hx (hb hby at_89) (pc' := 91) rfl rfl ?_
          refine o_ldcJ X38 hx hZ (3 : Int64) hown (w 14 _ rfl) (hb hby at_91) (pc' := 94) rfl ?_
          refine o_lload X38 hx (hb hby at_94) (pc' := 96) rfl rfl ?_
          refine o_lmul X38 hx (hb hby at_96) (pc' := 97) rfl ?_
          refine o_ladd X38 hx (hb hby at_97) (pc' := 98) rfl ?_
          refine o_lastore X38 hx hZ 3 e38 V38_ (by decide) (by decide) (by exact (by decide : 3 < 4)) (vs' := [.long (own_law_x2 q0 q1 q2 q3), .long ((own_law_x2 q0 q1 q2 q3) + (own_law_x3 q0 q1 q2 q3)), .long ((own_law_x2 q0 q1 q2 q3) + ((2 : Int64) * (own_law_x3 q0 q1 q2 q3))), .long ((own_law_x2 q0 q1 q2 q3) + ((3 : Int64) * (own_law_x3 q0 q1 q2 q3)))]) rfl (hb hby at_98) (pc' := 99) rfl ?_
          intro T40 h40 X40 e40 W40 V40_
          have N40 := Fr.snoc X40 N38 g_b32
          have Z40 : n0 ≤ h40.size := by rw [W40.size]; exact Z38
          refine o_iload X40 hx (hb hby at_99) (pc' := 101) rfl rfl ?_
          refine o_iconst X40 hx (4 : Int32) (hb hby at_101) (pc' := 102) rfl (by decide) ?_
          refine o_cmpY X40 hx (hb hby at_102) (flt (by decide : ¬ ((4 : Int32) < (4 : Int32)))).2.2.2 (by decide) (pc' := 118) (by decide) ?_
          refine o_iload X40 hx (hb hby at_118) (pc' := 120) rfl rfl ?_
          refine o_iconst X40 hx (5 : Int32) (hb hby at_120) (pc' := 121) rfl (by decide) ?_
          refine o_cmpY X40 hx (hb hby at_121) (flt (by decide : ¬ ((5 : Int32) < (4 : Int32)))).2.2.2 (by decide) (pc' := 137) (by decide) ?_
          refine o_iload X40 hx (hb hby at_137) (pc' := 139) rfl rfl ?_
          refine o_bipush X40 hx (6 : Int32) (hb hby at_139) (pc' := 141) rfl (by decide) ?_
          refine o_cmpY X40 hx (hb hby at_141) (flt (by decide : ¬ ((6 : Int32) < (4 : Int32)))).2.2.2 (by decide) (pc' := 158) (by decide) ?_
          refine o_iload X40 hx (hb hby at_158) (pc' := 160) rfl rfl ?_
          refine o_bipush X40 hx (7 : Int32) (hb hby at_160) (pc' := 162) rfl (by decide) ?_
          refine o_cmpY X40 hx (hb hby at_162) (flt (by decide : ¬ ((7 : Int32) < (4 : Int32)))).2.2.2 (by decide) (pc' := 179) (by decide) ?_
          refine o_aload X40 hx (hb hby at_179) (pc' := 181) rfl rfl rfl ?_
          refine o_iload X40 hx (hb hby at_181) (pc' := 183) rfl rfl ?_
          refine o_callS X40 hx hZ 0 (argsL := [.ref b32, .int (own_law_x1 q0 q1 q2 q3)]) (rest := []) hown (w 3 _ rfl) (w 4 _ rfl) (w 5 _ rfl) (w 6 _ rfl) (by decide) (rm1_4 l Z a0 hw [] b32 (own_law_x2 q0 q1 q2 q3) ((own_law_x2 q0 q1 q2 q3) + (own_law_x3 q0 q1 q2 q3)) ((own_law_x2 q0 q1 q2 q3) + ((2 : Int64) * (own_law_x3 q0 q1 q2 q3))) ((own_law_x2 q0 q1 q2 q3) + ((3 : Int64) * (own_law_x3 q0 q1 q2 q3))) (own_law_x1 q0 q1 q2 q3) k32 h40 n0 Z40 V40_ (own_p q0 q1 q2 q3).1 (own_p q0 q1 q2 q3).2) (by decide) (by decide) (cells' := 1) rfl (slots' := 4) rfl (by decide) (by decide) e40 (by rw [hml]; rfl) (lenOf pd_0 rfl) rfl rfl (hb hby at_183) (pc' := 186) rfl ?_
          intro T42 v42 L42 X42 hQ42
          obtain ⟨rfl, Nq42, e42⟩ := hQ42
          have N42 := Fr.app N40 Nq42
          show Go p e below _ (T42.setTop (mkF m 186 _ [.long (own_f1_4_ret (own_law_x2 q0 q1 q2 q3) ((own_law_x2 q0 q1 q2 q3) + (own_law_x3 q0 q1 q2 q3)) ((own_law_x2 q0 q1 q2 q3) + ((2 : Int64) * (own_law_x3 q0 q1 q2 q3))) ((own_law_x2 q0 q1 q2 q3) + ((3 : Int64) * (own_law_x3 q0 q1 q2 q3))) (own_law_x1 q0 q1 q2 q3))]))
          refine o_lstore (x := (own_law_x10 q0 q1 q2 q3)) X42 hx (hb hby at_186) (pc' := 188) rfl (L' := #[.val (.int q0), .val (.int q1), .val (.long q2), .second, .val (.int q3), .val (.int (4 : Int32)), .val (.int (own_law_x1 q0 q1 q2 q3)), .val (.long (own_law_x2 q0 q1 q2 q3)), .second, .val (.long (own_law_x3 q0 q1 q2 q3)), .second, .val (.ref b32), .val (.long (own_law_x10 q0 q1 q2 q3)), .second, .unset]) rfl ?_
          refine o_iload X42 hx (hb hby at_188) (pc' := 190) rfl rfl ?_
          refine o_iload X42 hx (hb hby at_190) (pc' := 192) rfl rfl ?_
          refine o_imul X42 hx (hb hby at_192) (pc' := 193) rfl ?_
          refine o_callS X42 hx hZ 0 (argsL := [.int ((own_law_x1 q0 q1 q2 q3) * (4 : Int32))]) (rest := []) hown (w 9 _ rfl) (w 10 _ rfl) (w 11 _ rfl) (w 12 _ rfl) (by decide) (rm2 l Z a0 hw [] ((own_law_x1 q0 q1 q2 q3) * (4 : Int32)) h40 n0 Z40 ) (by decide) (by decide) (cells' := 1) rfl (slots' := 4) rfl (by decide) (by decide) e42 (by rw [hml]; rfl) (lenOf pd_1 rfl) rfl rfl (hb hby at_193) (pc' := 196) rfl ?_
          intro T43 v43 L43 X43 hQ43
          obtain ⟨rfl, Nq43, e43⟩ := hQ43
          have N43 := Fr.app N42 Nq43
          show Go p e below _ (T43.setTop (mkF m 196 _ [.int (own_f2_ret ((own_law_x1 q0 q1 q2 q3) * (4 : Int32)))]))
          refine o_istore (x := (own_law_x11 q0 q1 q2 q3)) X43 hx (hb hby at_196) (pc' := 198) rfl (L' := #[.val (.int q0), .val (.int q1), .val (.long q2), .second, .val (.int q3), .val (.int (4 : Int32)), .val (.int (own_law_x1 q0 q1 q2 q3)), .val (.long (own_law_x2 q0 q1 q2 q3)), .second, .val (.long (own_law_x3 q0 q1 q2 q3)), .second, .val (.ref b32), .val (.long (own_law_x10 q0 q1 q2 q3)), .second, .val (.int (own_law_x11 q0 q1 q2 q3))]) rfl ?_
          refine o_lload X43 hx (hb hby at_198) (pc' := 200) rfl rfl ?_
          refine o_lload X43 hx (hb hby at_200) (pc' := 202) rfl rfl ?_
          refine o_iload X43 hx (hb hby at_202) (pc' := 204) rfl rfl ?_
          refine o_iconst X43 hx (1 : Int32) (hb hby at_204) (pc' := 205) rfl (by decide) ?_
          refine o_isub X43 hx (hb hby at_205) (pc' := 206) rfl ?_
          refine o_i2l X43 hx (hb hby at_206) (pc' := 207) rfl ?_
          refine o_lload X43 hx (hb hby at_207) (pc' := 209) rfl rfl ?_
          refine o_lmul X43 hx (hb hby at_209) (pc' := 210) rfl ?_
          refine o_ladd X43 hx (hb hby at_210) (pc' := 211) rfl ?_
          refine o_lcmp X43 hx (hb hby at_211) (pc' := 212) rfl ?_
          by_cases hc212_44 : (own_law_x10 q0 q1 q2 q3) = ((own_law_x2 q0 q1 q2 q3) + ((((own_law_x11 q0 q1 q2 q3) - (1 : Int32)).toInt64) * (own_law_x3 q0 q1 q2 q3)))
          · refine o_ifN X43 hx (hb hby at_212) (teqL hc212_44).2 (pc' := 215) rfl ?_
            refine o_iconst X43 hx (1 : Int32) (hb hby at_215) (pc' := 216) rfl (by decide) ?_
            refine o_goto X43 hx (hb hby at_216) (by decide) (pc' := 220) (by decide) ?_
            rw [← hOWE]
            exact o_retZ X43 hx rfl hlk hrt (hb hby at_220) (by decide) (by decide) (by rw [e43]; exact ⟨(by rw [own_law_ret, if_neg hs1, if_neg hs9, if_neg hs19, if_pos hs31, if_pos hc212_44]), N43⟩)
          · refine o_ifY X43 hx (hb hby at_212) (feqL hc212_44).2 (by decide) (pc' := 219) (by decide) ?_
            refine o_iconst X43 hx (0 : Int32) (hb hby at_219) (pc' := 220) rfl (by decide) ?_
            rw [← hOWE]
            exact o_retZ X43 hx rfl hlk hrt (hb hby at_220) (by decide) (by decide) (by rw [e43]; exact ⟨(by rw [own_law_ret, if_neg hs1, if_neg hs9, if_neg hs19, if_pos hs31, if_neg hc212_44]), N43⟩)
        · by_cases hs45 : (own_law_x0 q0 q1 q2 q3) = (5 : Int32)
          · rw [hs45]
            refine o_iloadN X0 hx (hb hby at_8) (pc' := 9) rfl rfl ?_
            refine o_ldcI X0 hx hZ (2147483647 : Int32) hown (w 0 _ rfl) (hb hby at_9) (pc' := 11) rfl ?_
            refine o_iand X0 hx (hb hby at_11) (pc' := 12) rfl ?_
            refine o_bipush X0 hx (100 : Int32) (hb hby at_12) (pc' := 14) rfl (by decide) ?_
            refine o_irem X0 hx (hb hby at_14) (pc' := 15) rfl (by decide) ?_
            refine o_iconst X0 hx (1 : Int32) (hb hby at_15) (pc' := 16) rfl (by decide) ?_
            refine o_iadd X0 hx (hb hby at_16) (pc' := 17) rfl ?_
            refine o_istore (x := (own_law_x1 q0 q1 q2 q3)) X0 hx (hb hby at_17) (pc' := 19) rfl (L' := #[.val (.int q0), .val (.int q1), .val (.long q2), .second, .val (.int q3), .val (.int (5 : Int32)), .val (.int (own_law_x1 q0 q1 q2 q3)), .unset, .unset, .unset, .unset, .unset, .unset, .unset, .unset]) rfl ?_
            refine o_lloadN X0 hx (hb hby at_19) (pc' := 20) rfl rfl ?_
            refine o_iconst X0 hx (4 : Int32) (hb hby at_20) (pc' := 21) rfl (by decide) ?_
            refine o_lshr X0 hx (hb hby at_21) (pc' := 22) rfl ?_
            refine o_lstore (x := (own_law_x2 q0 q1 q2 q3)) X0 hx (hb hby at_22) (pc' := 24) rfl (L' := #[.val (.int q0), .val (.int q1), .val (.long q2), .second, .val (.int q3), .val (.int (5 : Int32)), .val (.int (own_law_x1 q0 q1 q2 q3)), .val (.long (own_law_x2 q0 q1 q2 q3)), .second, .unset, .unset, .unset, .unset, .unset, .unset]) rfl ?_
            refine o_iload X0 hx (hb hby at_24) (pc' := 26) rfl rfl ?_
            refine o_ldcI X0 hx hZ (1048575 : Int32) hown (w 1 _ rfl) (hb hby at_26) (pc' := 28) rfl ?_
            refine o_iand X0 hx (hb hby at_28) (pc' := 29) rfl ?_
            refine o_i2l X0 hx (hb hby at_29) (pc' := 30) rfl ?_
            refine o_lconst X0 hx (1 : Int64) (hb hby at_30) (pc' := 31) rfl (by decide) ?_
            refine o_ladd X0 hx (hb hby at_31) (pc' := 32) rfl ?_
            refine o_lstore (x := (own_law_x3 q0 q1 q2 q3)) X0 hx (hb hby at_32) (pc' := 34) rfl (L' := #[.val (.int q0), .val (.int q1), .val (.long q2), .second, .val (.int q3), .val (.int (5 : Int32)), .val (.int (own_law_x1 q0 q1 q2 q3)), .val (.long (own_law_x2 q0 q1 q2 q3)), .second, .val (.long (own_law_x3 q0 q1 q2 q3)), .second, .unset, .unset, .unset, .unset]) rfl ?_
            refine o_iload X0 hx (hb hby at_34) (pc' := 36) rfl rfl ?_
            refine o_newP X0 hx hZ 5 (w 2 _ rfl) e0 (hb hby at_36) (pc' := 38) rfl (by decide) (by decide) (by decide) (cells' := 1) rfl (slots' := 5) rfl (by decide) (by decide) ?_
            intro T46 h46 b46 k46 qa46 X46 e46 Ex46 A46
            have g_b46 : n0 ≤ b46 := by rw [qa46]; exact Z0
            have Z46 : n0 ≤ h46.size := Nat.le_trans Z0 Ex46.1
            have V46_ : Arv Z h46 b46 k46 .long (5 : Int32) [.long (0 : Int64), .long (0 : Int64), .long (0 : Int64), .long (0 : Int64), .long (0 : Int64)] (.long (0 : Int64)) := own_fill 5 A46
            refine o_astore X46 hx (hb hby at_38) (pc' := 40) rfl (L' := #[.val (.int q0), .val (.int q1), .val (.long q2), .second, .val (.int q3), .val (.int (5 : Int32)), .val (.int (own_law_x1 q0 q1 q2 q3)), .val (.long (own_law_x2 q0 q1 q2 q3)), .second, .val (.long (own_law_x3 q0 q1 q2 q3)), .second, .val (.ref b46), .unset, .unset, .unset]) rfl rfl ?_
            refine o_aload X46 hx (hb hby at_40) (pc' := 42) rfl rfl rfl ?_
            refine o_iconst X46 hx (0 : Int32) (hb hby at_42) (pc' := 43) rfl (by decide) ?_
            refine o_lload X46 hx (hb hby at_43) (pc' := 45) rfl rfl ?_
            refine o_lastore X46 hx hZ 0 e46 V46_ (by decide) (by decide) (by exact (by decide : 0 < 5)) (vs' := [.long (own_law_x2 q0 q1 q2 q3), .long (0 : Int64), .long (0 : Int64), .long (0 : Int64), .long (0 : Int64)]) rfl (hb hby at_45) (pc' := 46) rfl ?_
            intro T48 h48 X48 e48 W48 V48_
            have N48 := Fr.snoc X48 N0 g_b46
            have Z48 : n0 ≤ h48.size := by rw [W48.size]; exact Z46
            refine o_iload X48 hx (hb hby at_46) (pc' := 48) rfl rfl ?_
            refine o_iconst X48 hx (1 : Int32) (hb hby at_48) (pc' := 49) rfl (by decide) ?_
            refine o_cmpN X48 hx (hb hby at_49) (tlt (by decide : (1 : Int32) < (5 : Int32))).2.2.2 (pc' := 52) rfl ?_
            refine o_aload X48 hx (hb hby at_52) (pc' := 54) rfl rfl rfl ?_
            refine o_iconst X48 hx (1 : Int32) (hb hby at_54) (pc' := 55) rfl (by decide) ?_
            refine o_lload X48 hx (hb hby at_55) (pc' := 57) rfl rfl ?_
            refine o_lload X48 hx (hb hby at_57) (pc' := 59) rfl rfl ?_
            refine o_ladd X48 hx (hb hby at_59) (pc' := 60) rfl ?_
            refine o_lastore X48 hx hZ 1 e48 V48_ (by decide) (by decide) (by exact (by decide : 1 < 5)) (vs' := [.long (own_law_x2 q0 q1 q2 q3), .long ((own_law_x2 q0 q1 q2 q3) + (own_law_x3 q0 q1 q2 q3)), .long (0 : Int64), .long (0 : Int64), .long (0 : Int64)]) rfl (hb hby at_60) (pc' := 61) rfl ?_
            intro T50 h50 X50 e50 W50 V50_
            have N50 := Fr.snoc X50 N48 g_b46
            have Z50 : n0 ≤ h50.size := by rw [W50.size]; exact Z48
            refine o_iload X50 hx (hb hby at_61) (pc' := 63) rfl rfl ?_
            refine o_iconst X50 hx (2 : Int32) (hb hby at_63) (pc' := 64) rfl (by decide) ?_
            refine o_cmpN X50 hx (hb hby at_64) (tlt (by decide : (2 : Int32) < (5 : Int32))).2.2.2 (pc' := 67) rfl ?_
            refine o_aload X50 hx (hb hby at_67) (pc' := 69) rfl rfl rfl ?_
            refine o_iconst X50 hx (2 : Int32) (hb hby at_69) (pc' := 70) rfl (by decide) ?_
            refine o_lload X50 hx (hb hby at_70) (pc' := 72) rfl rfl ?_
            refine o_ldcJ X50 hx hZ (2 : Int64) hown (w 13 _ rfl) (hb hby at_72) (pc' := 75) rfl ?_
            refine o_lload X50 hx (hb hby at_75) (pc' := 77) rfl rfl ?_
            refine o_lmul X50 hx (hb hby at_77) (pc' := 78) rfl ?_
            refine o_ladd X50 hx (hb hby at_78) (pc' := 79) rfl ?_
            refine o_lastore X50 hx hZ 2 e50 V50_ (by decide) (by decide) (by exact (by decide : 2 < 5)) (vs' := [.long (own_law_x2 q0 q1 q2 q3), .long ((own_law_x2 q0 q1 q2 q3) + (own_law_x3 q0 q1 q2 q3)), .long ((own_law_x2 q0 q1 q2 q3) + ((2 : Int64) * (own_law_x3 q0 q1 q2 q3))), .long (0 : Int64), .long (0 : Int64)]) rfl (hb hby at_79) (pc' := 80) rfl ?_
            intro T52 h52 X52 e52 W52 V52_
            have N52 := Fr.snoc X52 N50 g_b46
            have Z52 : n0 ≤ h52.size := by rw [W52.size]; exact Z50
            refine o_iload X52 hx (hb hby at_80) (pc' := 82) rfl rfl ?_
            refine o_iconst X52 hx (3 : Int32) (hb hby at_82) (pc' := 83) rfl (by decide) ?_
            refine o_cmpN X52 hx (hb hby at_83) (tlt (by decide : (3 : Int32) < (5 : Int32))).2.2.2 (pc' := 86) rfl ?_
            refine o_aload X52 hx (hb hby at_86) (pc' := 88) rfl rfl rfl ?_
            refine o_iconst X52 hx (3 : Int32) (hb hby at_88) (pc' := 89) rfl (by decide) ?_
            refine o_lload X52 hx (hb hby at_89) (pc' := 91) rfl rfl ?_
            refine o_ldcJ X52 hx hZ (3 : Int64) hown (w 14 _ rfl) (hb hby at_91) (pc' := 94) rfl ?_
            refine o_lload X52 hx (hb hby at_94) (pc' := 96) rfl rfl ?_
            refine o_lmul X52 hx (hb hby at_96) (pc' := 97) rfl ?_
            refine o_ladd X52 hx (hb hby at_97) (pc' := 98) rfl ?_
            refine o_lastore X52 hx hZ 3 e52 V52_ (by decide) (by decide) (by exact (by decide : 3 < 5)) (vs' := [.long (own_law_x2 q0 q1 q2 q3), .long ((own_law_x2 q0 q1 q2 q3) + (own_law_x3 q0 q1 q2 q3)), .long ((own_law_x2 q0 q1 q2 q3) + ((2 : Int64) * (own_law_x3 q0 q1 q2 q3))), .long ((own_law_x2 q0 q1 q2 q3) + ((3 : Int64) * (own_law_x3 q0 q1 q2 q3))), .long (0 : Int64)]) rfl (hb hby at_98) (pc' := 99) rfl ?_
            intro T54 h54 X54 e54 W54 V54_
            have N54 := Fr.snoc X54 N52 g_b46
            have Z54 : n0 ≤ h54.size := by rw [W54.size]; exact Z52
            refine o_iload X54 hx (hb hby at_99) (pc' := 101) rfl rfl ?_
            refine o_iconst X54 hx (4 : Int32) (hb hby at_101) (pc' := 102) rfl (by decide) ?_
            refine o_cmpN X54 hx (hb hby at_102) (tlt (by decide : (4 : Int32) < (5 : Int32))).2.2.2 (pc' := 105) rfl ?_
            refine o_aload X54 hx (hb hby at_105) (pc' := 107) rfl rfl rfl ?_
            refine o_iconst X54 hx (4 : Int32) (hb hby at_107) (pc' := 108) rfl (by decide) ?_
            refine o_lload X54 hx (hb hby at_108) (pc' := 110) rfl rfl ?_
            refine o_ldcJ X54 hx hZ (4 : Int64) hown (w 15 _ rfl) (hb hby at_110) (pc' := 113) rfl ?_
            refine o_lload X54 hx (hb hby at_113) (pc' := 115) rfl rfl ?_
            refine o_lmul X54 hx (hb hby at_115) (pc' := 116) rfl ?_
            refine o_ladd X54 hx (hb hby at_116) (pc' := 117) rfl ?_
            refine o_lastore X54 hx hZ 4 e54 V54_ (by decide) (by decide) (by exact (by decide : 4 < 5)) (vs' := [.long (own_law_x2 q0 q1 q2 q3), .long ((own_law_x2 q0 q1 q2 q3) + (own_law_x3 q0 q1 q2 q3)), .long ((own_law_x2 q0 q1 q2 q3) + ((2 : Int64) * (own_law_x3 q0 q1 q2 q3))), .long ((own_law_x2 q0 q1 q2 q3) + ((3 : Int64) * (own_law_x3 q0 q1 q2 q3))), .long ((own_law_x2 q0 q1 q2 q3) + ((4 : Int64) * (own_law_x3 q0 q1 q2 q3)))]) rfl (hb hby at_117) (pc' := 118) rfl ?_
            intro T56 h56 X56 e56 W56 V56_
            have N56 := Fr.snoc X56 N54 g_b46
            have Z56 : n0 ≤ h56.size := by rw [W56.size]; exact Z54
            refine o_iload X56 hx (hb hby at_118) (pc' := 120) rfl rfl ?_
            refine o_iconst X56 hx (5 : Int32) (hb hby at_120) (pc' := 121) rfl (by decide) ?_
            refine o_cmpY X56 hx (hb hby at_121) (flt (by decide : ¬ ((5 : Int32) < (5 : Int32)))).2.2.2 (by decide) (pc' := 137) (by decide) ?_
            refine o_iload X56 hx (hb hby at_137) (pc' := 139) rfl rfl ?_
            refine o_bipush X56 hx (6 : Int32) (hb hby at_139) (pc' := 141) rfl (by decide) ?_
            refine o_cmpY X56 hx (hb hby at_141) (flt (by decide : ¬ ((6 : Int32) < (5 : Int32)))).2.2.2 (by decide) (pc' := 158) (by decide) ?_
            refine o_iload X56 hx (hb hby at_158) (pc' := 160) rfl rfl ?_
            refine o_bipush X56 hx (7 : Int32) (hb hby at_160) (pc' := 162) rfl (by decide) ?_
            refine o_cmpY X56 hx (hb hby at_162) (flt (by decide : ¬ ((7 : Int32) < (5 : Int32)))).2.2.2 (by decide) (pc' := 179) (by decide) ?_
            refine o_aload X56 hx (hb hby at_179) (pc' := 181) rfl rfl rfl ?_
            refine o_iload X56 hx (hb hby at_181) (pc' := 183) rfl rfl ?_
            refine o_callS X56 hx hZ 0 (argsL := [.ref b46, .int (own_law_x1 q0 q1 q2 q3)]) (rest := []) hown (w 3 _ rfl) (w 4 _ rfl) (w 5 _ rfl) (w 6 _ rfl) (by decide) (rm1_5 l Z a0 hw [] b46 (own_law_x2 q0 q1 q2 q3) ((own_law_x2 q0 q1 q2 q3) + (own_law_x3 q0 q1 q2 q3)) ((own_law_x2 q0 q1 q2 q3) + ((2 : Int64) * (own_law_x3 q0 q1 q2 q3))) ((own_law_x2 q0 q1 q2 q3) + ((3 : Int64) * (own_law_x3 q0 q1 q2 q3))) ((own_law_x2 q0 q1 q2 q3) + ((4 : Int64) * (own_law_x3 q0 q1 q2 q3))) (own_law_x1 q0 q1 q2 q3) k46 h56 n0 Z56 V56_ (own_p q0 q1 q2 q3).1 (own_p q0 q1 q2 q3).2) (by decide) (by decide) (cells' := 1) rfl (slots' := 5) rfl (by decide) (by decide) e56 (by rw [hml]; rfl) (lenOf pd_0 rfl) rfl rfl (hb hby at_183) (pc' := 186) rfl ?_
            intro T58 v58 L58 X58 hQ58
            obtain ⟨rfl, Nq58, e58⟩ := hQ58
            have N58 := Fr.app N56 Nq58
            show Go p e below _ (T58.setTop (mkF m 186 _ [.long (own_f1_5_ret (own_law_x2 q0 q1 q2 q3) ((own_law_x2 q0 q1 q2 q3) + (own_law_x3 q0 q1 q2 q3)) ((own_law_x2 q0 q1 q2 q3) + ((2 : Int64) * (own_law_x3 q0 q1 q2 q3))) ((own_law_x2 q0 q1 q2 q3) + ((3 : Int64) * (own_law_x3 q0 q1 q2 q3))) ((own_law_x2 q0 q1 q2 q3) + ((4 : Int64) * (own_law_x3 q0 q1 q2 q3))) (own_law_x1 q0 q1 q2 q3))]))
            refine o_lstore (x := (own_law_x12 q0 q1 q2 q3)) X58 hx (hb hby at_186) (pc' := 188) rfl (L' := #[.val (.int q0), .val (.int q1), .val (.long q2), .second, .val (.int q3), .val (.int (5 : Int32)), .val (.int (own_law_x1 q0 q1 q2 q3)), .val (.long (own_law_x2 q0 q1 q2 q3)), .second, .val (.long (own_law_x3 q0 q1 q2 q3)), .second, .val (.ref b46), .val (.long (own_law_x12 q0 q1 q2 q3)), .second, .unset]) rfl ?_
            refine o_iload X58 hx (hb hby at_188) (pc' := 190) rfl rfl ?_
            refine o_iload X58 hx (hb hby at_190) (pc' := 192) rfl rfl ?_
            refine o_imul X58 hx (hb hby at_192) (pc' := 193) rfl ?_
            refine o_callS X58 hx hZ 0 (argsL := [.int ((own_law_x1 q0 q1 q2 q3) * (5 : Int32))]) (rest := []) hown (w 9 _ rfl) (w 10 _ rfl) (w 11 _ rfl) (w 12 _ rfl) (by decide) (rm2 l Z a0 hw [] ((own_law_x1 q0 q1 q2 q3) * (5 : Int32)) h56 n0 Z56 ) (by decide) (by decide) (cells' := 1) rfl (slots' := 5) rfl (by decide) (by decide) e58 (by rw [hml]; rfl) (lenOf pd_1 rfl) rfl rfl (hb hby at_193) (pc' := 196) rfl ?_
            intro T59 v59 L59 X59 hQ59
            obtain ⟨rfl, Nq59, e59⟩ := hQ59
            have N59 := Fr.app N58 Nq59
            show Go p e below _ (T59.setTop (mkF m 196 _ [.int (own_f2_ret ((own_law_x1 q0 q1 q2 q3) * (5 : Int32)))]))
            refine o_istore (x := (own_law_x13 q0 q1 q2 q3)) X59 hx (hb hby at_196) (pc' := 198) rfl (L' := #[.val (.int q0), .val (.int q1), .val (.long q2), .second, .val (.int q3), .val (.int (5 : Int32)), .val (.int (own_law_x1 q0 q1 q2 q3)), .val (.long (own_law_x2 q0 q1 q2 q3)), .second, .val (.long (own_law_x3 q0 q1 q2 q3)), .second, .val (.ref b46), .val (.long (own_law_x12 q0 q1 q2 q3)), .second, .val (.int (own_law_x13 q0 q1 q2 q3))]) rfl ?_
            refine o_lload X59 hx (hb hby at_198) (pc' := 200) rfl rfl ?_
            refine o_lload X59 hx (hb hby at_200) (pc' := 202) rfl rfl ?_
            refine o_iload X59 hx (hb hby at_202) (pc' := 204) rfl rfl ?_
            refine o_iconst X59 hx (1 : Int32) (hb hby at_204) (pc' := 205) rfl (by decide) ?_
            refine o_isub X59 hx (hb hby at_205) (pc' := 206) rfl ?_
            refine o_i2l X59 hx (hb hby at_206) (pc' := 207) rfl ?_
            refine o_lload X59 hx (hb hby at_207) (pc' := 209) rfl rfl ?_
            refine o_lmul X59 hx (hb hby at_209) (pc' := 210) rfl ?_
            refine o_ladd X59 hx (hb hby at_210) (pc' := 211) rfl ?_
            refine o_lcmp X59 hx (hb hby at_211) (pc' := 212) rfl ?_
            by_cases hc212_60 : (own_law_x12 q0 q1 q2 q3) = ((own_law_x2 q0 q1 q2 q3) + ((((own_law_x13 q0 q1 q2 q3) - (1 : Int32)).toInt64) * (own_law_x3 q0 q1 q2 q3)))
            · refine o_ifN X59 hx (hb hby at_212) (teqL hc212_60).2 (pc' := 215) rfl ?_
              refine o_iconst X59 hx (1 : Int32) (hb hby at_215) (pc' := 216) rfl (by decide) ?_
              refine o_goto X59 hx (hb hby at_216) (by decide) (pc' := 220) (by decide) ?_
              rw [← hOWE]
              exact o_retZ X59 hx rfl hlk hrt (hb hby at_220) (by decide) (by decide) (by rw [e59]; exact ⟨(by rw [own_law_ret, if_neg hs1, if_neg hs9, if_neg hs19, if_neg hs31, if_pos hs45, if_pos hc212_60]), N59⟩)
            · refine o_ifY X59 hx (hb hby at_212) (feqL hc212_60).2 (by decide) (pc' := 219) (by decide) ?_
              refine o_iconst X59 hx (0 : Int32) (hb hby at_219) (pc' := 220) rfl (by decide) ?_
              rw [← hOWE]
              exact o_retZ X59 hx rfl hlk hrt (hb hby at_220) (by decide) (by decide) (by rw [e59]; exact ⟨(by rw [own_law_ret, if_neg hs1, if_neg hs9, if_neg hs19, if_neg hs31, if_pos hs45, if_neg hc212_60]), N59⟩)
          · by_cases hs61 : (own_law_x0 q0 q1 q2 q3) = (6 : Int32)
            · rw [hs61]
              refine o_iloadN X0 hx (hb hby at_8) (pc' := 9) rfl rfl ?_
              refine o_ldcI X0 hx hZ (2147483647 : Int32) hown (w 0 _ rfl) (hb hby at_9) (pc' := 11) rfl ?_
              refine o_iand X0 hx (hb hby at_11) (pc' := 12) rfl ?_
              refine o_bipush X0 hx (100 : Int32) (hb hby at_12) (pc' := 14) rfl (by decide) ?_
              refine o_irem X0 hx (hb hby at_14) (pc' := 15) rfl (by decide) ?_
              refine o_iconst X0 hx (1 : Int32) (hb hby at_15) (pc' := 16) rfl (by decide) ?_
              refine o_iadd X0 hx (hb hby at_16) (pc' := 17) rfl ?_
              refine o_istore (x := (own_law_x1 q0 q1 q2 q3)) X0 hx (hb hby at_17) (pc' := 19) rfl (L' := #[.val (.int q0), .val (.int q1), .val (.long q2), .second, .val (.int q3), .val (.int (6 : Int32)), .val (.int (own_law_x1 q0 q1 q2 q3)), .unset, .unset, .unset, .unset, .unset, .unset, .unset, .unset]) rfl ?_
              refine o_lloadN X0 hx (hb hby at_19) (pc' := 20) rfl rfl ?_
              refine o_iconst X0 hx (4 : Int32) (hb hby at_20) (pc' := 21) rfl (by decide) ?_
              refine o_lshr X0 hx (hb hby at_21) (pc' := 22) rfl ?_
              refine o_lstore (x := (own_law_x2 q0 q1 q2 q3)) X0 hx (hb hby at_22) (pc' := 24) rfl (L' := #[.val (.int q0), .val (.int q1), .val (.long q2), .second, .val (.int q3), .val (.int (6 : Int32)), .val (.int (own_law_x1 q0 q1 q2 q3)), .val (.long (own_law_x2 q0 q1 q2 q3)), .second, .unset, .unset, .unset, .unset, .unset, .unset]) rfl ?_
              refine o_iload X0 hx (hb hby at_24) (pc' := 26) rfl rfl ?_
              refine o_ldcI X0 hx hZ (1048575 : Int32) hown (w 1 _ rfl) (hb hby at_26) (pc' := 28) rfl ?_
              refine o_iand X0 hx (hb hby at_28) (pc' := 29) rfl ?_
              refine o_i2l X0 hx (hb hby at_29) (pc' := 30) rfl ?_
              refine o_lconst X0 hx (1 : Int64) (hb hby at_30) (pc' := 31) rfl (by decide) ?_
              refine o_ladd X0 hx (hb hby at_31) (pc' := 32) rfl ?_
              refine o_lstore (x := (own_law_x3 q0 q1 q2 q3)) X0 hx (hb hby at_32) (pc' := 34) rfl (L' := #[.val (.int q0), .val (.int q1), .val (.long q2), .second, .val (.int q3), .val (.int (6 : Int32)), .val (.int (own_law_x1 q0 q1 q2 q3)), .val (.long (own_law_x2 q0 q1 q2 q3)), .second, .val (.long (own_law_x3 q0 q1 q2 q3)), .second, .unset, .unset, .unset, .unset]) rfl ?_
              refine o_iload X0 hx (hb hby at_34) (pc' := 36) rfl rfl ?_
              refine o_newP X0 hx hZ 6 (w 2 _ rfl) e0 (hb hby at_36) (pc' := 38) rfl (by decide) (by decide) (by decide) (cells' := 1) rfl (slots' := 6) rfl (by decide) (by decide) ?_
              intro T62 h62 b62 k62 qa62 X62 e62 Ex62 A62
              have g_b62 : n0 ≤ b62 := by rw [qa62]; exact Z0
              have Z62 : n0 ≤ h62.size := Nat.le_trans Z0 Ex62.1
              have V62_ : Arv Z h62 b62 k62 .long (6 : Int32) [.long (0 : Int64), .long (0 : Int64), .long (0 : Int64), .long (0 : Int64), .long (0 : Int64), .long (0 : Int64)] (.long (0 : Int64)) := own_fill 6 A62
              refine o_astore X62 hx (hb hby at_38) (pc' := 40) rfl (L' := #[.val (.int q0), .val (.int q1), .val (.long q2), .second, .val (.int q3), .val (.int (6 : Int32)), .val (.int (own_law_x1 q0 q1 q2 q3)), .val (.long (own_law_x2 q0 q1 q2 q3)), .second, .val (.long (own_law_x3 q0 q1 q2 q3)), .second, .val (.ref b62), .unset, .unset, .unset]) rfl rfl ?_
              refine o_aload X62 hx (hb hby at_40) (pc' := 42) rfl rfl rfl ?_
              refine o_iconst X62 hx (0 : Int32) (hb hby at_42) (pc' := 43) rfl (by decide) ?_
              refine o_lload X62 hx (hb hby at_43) (pc' := 45) rfl rfl ?_
              refine o_lastore X62 hx hZ 0 e62 V62_ (by decide) (by decide) (by exact (by decide : 0 < 6)) (vs' := [.long (own_law_x2 q0 q1 q2 q3), .long (0 : Int64), .long (0 : Int64), .long (0 : Int64), .long (0 : Int64), .long (0 : Int64)]) rfl (hb hby at_45) (pc' := 46) rfl ?_
              intro T64 h64 X64 e64 W64 V64_
              have N64 := Fr.snoc X64 N0 g_b62
              have Z64 : n0 ≤ h64.size := by rw [W64.size]; exact Z62
              refine o_iload X64 hx (hb hby at_46) (pc' := 48) rfl rfl ?_
              refine o_iconst X64 hx (1 : Int32) (hb hby at_48) (pc' := 49) rfl (by decide) ?_
              refine o_cmpN X64 hx (hb hby at_49) (tlt (by decide : (1 : Int32) < (6 : Int32))).2.2.2 (pc' := 52) rfl ?_
              refine o_aload X64 hx (hb hby at_52) (pc' := 54) rfl rfl rfl ?_
              refine o_iconst X64 hx (1 : Int32) (hb hby at_54) (pc' := 55) rfl (by decide) ?_
              refine o_lload X64 hx (hb hby at_55) (pc' := 57) rfl rfl ?_
              refine o_lload X64 hx (hb hby at_57) (pc' := 59) rfl rfl ?_
              refine o_ladd X64 hx (hb hby at_59) (pc' := 60) rfl ?_
              refine o_lastore X64 hx hZ 1 e64 V64_ (by decide) (by decide) (by exact (by decide : 1 < 6)) (vs' := [.long (own_law_x2 q0 q1 q2 q3), .long ((own_law_x2 q0 q1 q2 q3) + (own_law_x3 q0 q1 q2 q3)), .long (0 : Int64), .long (0 : Int64), .long (0 : Int64), .long (0 : Int64)]) rfl (hb hby at_60) (pc' := 61) rfl ?_
              intro T66 h66 X66 e66 W66 V66_
              have N66 := Fr.snoc X66 N64 g_b62
              have Z66 : n0 ≤ h66.size := by rw [W66.size]; exact Z64
              refine o_iload X66 hx (hb hby at_61) (pc' := 63) rfl rfl ?_
              refine o_iconst X66 hx (2 : Int32) (hb hby at_63) (pc' := 64) rfl (by decide) ?_
              refine o_cmpN X66 hx (hb hby at_64) (tlt (by decide : (2 : Int32) < (6 : Int32))).2.2.2 (pc' := 67) rfl ?_
              refine o_aload X66 hx (hb hby at_67) (pc' := 69) rfl rfl rfl ?_
              refine o_iconst X66 hx (2 : Int32) (hb hby at_69) (pc' := 70) rfl (by decide) ?_
              refine o_lload X66 hx (hb hby at_70) (pc' := 72) rfl rfl ?_
              refine o_ldcJ X66 hx hZ (2 : Int64) hown (w 13 _ rfl) (hb hby at_72) (pc' := 75) rfl ?_
              refine o_lload X66 hx (hb hby at_75) (pc' := 77) rfl rfl ?_
              refine o_lmul X66 hx (hb hby at_77) (pc' := 78) rfl ?_
              refine o_ladd X66 hx (hb hby at_78) (pc' := 79) rfl ?_
              refine o_lastore X66 hx hZ 2 e66 V66_ (by decide) (by decide) (by exact (by decide : 2 < 6)) (vs' := [.long (own_law_x2 q0 q1 q2 q3), .long ((own_law_x2 q0 q1 q2 q3) + (own_law_x3 q0 q1 q2 q3)), .long ((own_law_x2 q0 q1 q2 q3) + ((2 : Int64) * (own_law_x3 q0 q1 q2 q3))), .long (0 : Int64), .long (0 : Int64), .long (0 : Int64)]) rfl (hb hby at_79) (pc' := 80) rfl ?_
              intro T68 h68 X68 e68 W68 V68_
              have N68 := Fr.snoc X68 N66 g_b62
              have Z68 : n0 ≤ h68.size := by rw [W68.size]; exact Z66
              refine o_iload X68 hx (hb hby at_80) (pc' := 82) rfl rfl ?_
              refine o_iconst X68 hx (3 : Int32) (hb hby at_82) (pc' := 83) rfl (by decide) ?_
              refine o_cmpN X68 hx (hb hby at_83) (tlt (by decide : (3 : Int32) < (6 : Int32))).2.2.2 (pc' := 86) rfl ?_
              refine o_aload X68 hx (hb hby at_86) (pc' := 88) rfl rfl rfl ?_
              refine o_iconst X68 hx (3 : Int32) (hb hby at_88) (pc' := 89) rfl (by decide) ?_
              refine o_lload X68 hx (hb hby at_89) (pc' := 91) rfl rfl ?_
              refine o_ldcJ X68 hx hZ (3 : Int64) hown (w 14 _ rfl) (hb hby at_91) (pc' := 94) rfl ?_
              refine o_lload X68 hx (hb hby at_94) (pc' := 96) rfl rfl ?_
              refine o_lmul X68 hx (hb hby at_96) (pc' := 97) rfl ?_
              refine o_ladd X68 hx (hb hby at_97) (pc' := 98) rfl ?_
              refine o_lastore X68 hx hZ 3 e68 V68_ (by decide) (by decide) (by exact (by decide : 3 < 6)) (vs' := [.long (own_law_x2 q0 q1 q2 q3), .long ((own_law_x2 q0 q1 q2 q3) + (own_law_x3 q0 q1 q2 q3)), .long ((own_law_x2 q0 q1 q2 q3) + ((2 : Int64) * (own_law_x3 q0 q1 q2 q3))), .long ((own_law_x2 q0 q1 q2 q3) + ((3 : Int64) * (own_law_x3 q0 q1 q2 q3))), .long (0 : Int64), .long (0 : Int64)]) rfl (hb hby at_98) (pc' := 99) rfl ?_
              intro T70 h70 X70 e70 W70 V70_
              have N70 := Fr.snoc X70 N68 g_b62
              have Z70 : n0 ≤ h70.size := by rw [W70.size]; exact Z68
              refine o_iload X70 hx (hb hby at_99) (pc' := 101) rfl rfl ?_
              refine o_iconst X70 hx (4 : Int32) (hb hby at_101) (pc' := 102) rfl (by decide) ?_
              refine o_cmpN X70 hx (hb hby at_102) (tlt (by decide : (4 : Int32) < (6 : Int32))).2.2.2 (pc' := 105) rfl ?_
              refine o_aload X70 hx (hb hby at_105) (pc' := 107) rfl rfl rfl ?_
              refine o_iconst X70 hx (4 : Int32) (hb hby at_107) (pc' := 108) rfl (by decide) ?_
              refine o_lload X70 hx (hb hby at_108) (pc' := 110) rfl rfl ?_
              refine o_ldcJ X70 hx hZ (4 : Int64) hown (w 15 _ rfl) (hb hby at_110) (pc' := 113) rfl ?_
              refine o_lload X70 hx (hb hby at_113) (pc' := 115) rfl rfl ?_
              refine o_lmul X70 hx (hb hby at_115) (pc' := 116) rfl ?_
              refine o_ladd X70 hx (hb hby at_116) (pc' := 117) rfl ?_
              refine o_lastore X70 hx hZ 4 e70 V70_ (by decide) (by decide) (by exact (by decide : 4 < 6)) (vs' := [.long (own_law_x2 q0 q1 q2 q3), .long ((own_law_x2 q0 q1 q2 q3) + (own_law_x3 q0 q1 q2 q3)), .long ((own_law_x2 q0 q1 q2 q3) + ((2 : Int64) * (own_law_x3 q0 q1 q2 q3))), .long ((own_law_x2 q0 q1 q2 q3) + ((3 : Int64) * (own_law_x3 q0 q1 q2 q3))), .long ((own_law_x2 q0 q1 q2 q3) + ((4 : Int64) * (own_law_x3 q0 q1 q2 q3))), .long (0 : Int64)]) rfl (hb hby at_117) (pc' := 118) rfl ?_
              intro T72 h72 X72 e72 W72 V72_
              have N72 := Fr.snoc X72 N70 g_b62
              have Z72 : n0 ≤ h72.size := by rw [W72.size]; exact Z70
              refine o_iload X72 hx (hb hby at_118) (pc' := 120) rfl rfl ?_
              refine o_iconst X72 hx (5 : Int32) (hb hby at_120) (pc' := 121) rfl (by decide) ?_
              refine o_cmpN X72 hx (hb hby at_121) (tlt (by decide : (5 : Int32) < (6 : Int32))).2.2.2 (pc' := 124) rfl ?_
              refine o_aload X72 hx (hb hby at_124) (pc' := 126) rfl rfl rfl ?_
              refine o_iconst X72 hx (5 : Int32) (hb hby at_126) (pc' := 127) rfl (by decide) ?_
              refine o_lload X72 hx (hb hby at_127) (pc' := 129) rfl rfl ?_
              refine o_ldcJ X72 hx hZ (5 : Int64) hown (w 16 _ rfl) (hb hby at_129) (pc' := 132) rfl ?_
              refine o_lload X72 hx (hb hby at_132) (pc' := 134) rfl rfl ?_
              refine o_lmul X72 hx (hb hby at_134) (pc' := 135) rfl ?_
              refine o_ladd X72 hx (hb hby at_135) (pc' := 136) rfl ?_
              refine o_lastore X72 hx hZ 5 e72 V72_ (by decide) (by decide) (by exact (by decide : 5 < 6)) (vs' := [.long (own_law_x2 q0 q1 q2 q3), .long ((own_law_x2 q0 q1 q2 q3) + (own_law_x3 q0 q1 q2 q3)), .long ((own_law_x2 q0 q1 q2 q3) + ((2 : Int64) * (own_law_x3 q0 q1 q2 q3))), .long ((own_law_x2 q0 q1 q2 q3) + ((3 : Int64) * (own_law_x3 q0 q1 q2 q3))), .long ((own_law_x2 q0 q1 q2 q3) + ((4 : Int64) * (own_law_x3 q0 q1 q2 q3))), .long ((own_law_x2 q0 q1 q2 q3) + ((5 : Int64) * (own_law_x3 q0 q1 q2 q3)))]) rfl (hb hby at_136) (pc' := 137) rfl ?_
              intro T74 h74 X74 e74 W74 V74_
              have N74 := Fr.snoc X74 N72 g_b62
              have Z74 : n0 ≤ h74.size := by rw [W74.size]; exact Z72
              refine o_iload X74 hx (hb hby at_137) (pc' := 139) rfl rfl ?_
              refine o_bipush X74 hx (6 : Int32) (hb hby at_139) (pc' := 141) rfl (by decide) ?_
              refine o_cmpY X74 hx (hb hby at_141) (flt (by decide : ¬ ((6 : Int32) < (6 : Int32)))).2.2.2 (by decide) (pc' := 158) (by decide) ?_
              refine o_iload X74 hx (hb hby at_158) (pc' := 160) rfl rfl ?_
              refine o_bipush X74 hx (7 : Int32) (hb hby at_160) (pc' := 162) rfl (by decide) ?_
              refine o_cmpY X74 hx (hb hby at_162) (flt (by decide : ¬ ((7 : Int32) < (6 : Int32)))).2.2.2 (by decide) (pc' := 179) (by decide) ?_
              refine o_aload X74 hx (hb hby at_179) (pc' := 181) rfl rfl rfl ?_
              refine o_iload X74 hx (hb hby at_181) (pc' := 183) rfl rfl ?_
              refine o_callS X74 hx hZ 0 (argsL := [.ref b62, .int (own_law_x1 q0 q1 q2 q3)]) (rest := []) hown (w 3 _ rfl) (w 4 _ rfl) (w 5 _ rfl) (w 6 _ rfl) (by decide) (rm1_6 l Z a0 hw [] b62 (own_law_x2 q0 q1 q2 q3) ((own_law_x2 q0 q1 q2 q3) + (own_law_x3 q0 q1 q2 q3)) ((own_law_x2 q0 q1 q2 q3) + ((2 : Int64) * (own_law_x3 q0 q1 q2 q3))) ((own_law_x2 q0 q1 q2 q3) + ((3 : Int64) * (own_law_x3 q0 q1 q2 q3))) ((own_law_x2 q0 q1 q2 q3) + ((4 : Int64) * (own_law_x3 q0 q1 q2 q3))) ((own_law_x2 q0 q1 q2 q3) + ((5 : Int64) * (own_law_x3 q0 q1 q2 q3))) (own_law_x1 q0 q1 q2 q3) k62 h74 n0 Z74 V74_ (own_p q0 q1 q2 q3).1 (own_p q0 q1 q2 q3).2) (by decide) (by decide) (cells' := 1) rfl (slots' := 6) rfl (by decide) (by decide) e74 (by rw [hml]; rfl) (lenOf pd_0 rfl) rfl rfl (hb hby at_183) (pc' := 186) rfl ?_
              intro T76 v76 L76 X76 hQ76
              obtain ⟨rfl, Nq76, e76⟩ := hQ76
              have N76 := Fr.app N74 Nq76
              show Go p e below _ (T76.setTop (mkF m 186 _ [.long (own_f1_6_ret (own_law_x2 q0 q1 q2 q3) ((own_law_x2 q0 q1 q2 q3) + (own_law_x3 q0 q1 q2 q3)) ((own_law_x2 q0 q1 q2 q3) + ((2 : Int64) * (own_law_x3 q0 q1 q2 q3))) ((own_law_x2 q0 q1 q2 q3) + ((3 : Int64) * (own_law_x3 q0 q1 q2 q3))) ((own_law_x2 q0 q1 q2 q3) + ((4 : Int64) * (own_law_x3 q0 q1 q2 q3))) ((own_law_x2 q0 q1 q2 q3) + ((5 : Int64) * (own_law_x3 q0 q1 q2 q3))) (own_law_x1 q0 q1 q2 q3))]))
              refine o_lstore (x := (own_law_x14 q0 q1 q2 q3)) X76 hx (hb hby at_186) (pc' := 188) rfl (L' := #[.val (.int q0), .val (.int q1), .val (.long q2), .second, .val (.int q3), .val (.int (6 : Int32)), .val (.int (own_law_x1 q0 q1 q2 q3)), .val (.long (own_law_x2 q0 q1 q2 q3)), .second, .val (.long (own_law_x3 q0 q1 q2 q3)), .second, .val (.ref b62), .val (.long (own_law_x14 q0 q1 q2 q3)), .second, .unset]) rfl ?_
              refine o_iload X76 hx (hb hby at_188) (pc' := 190) rfl rfl ?_
              refine o_iload X76 hx (hb hby at_190) (pc' := 192) rfl rfl ?_
              refine o_imul X76 hx (hb hby at_192) (pc' := 193) rfl ?_
              refine o_callS X76 hx hZ 0 (argsL := [.int ((own_law_x1 q0 q1 q2 q3) * (6 : Int32))]) (rest := []) hown (w 9 _ rfl) (w 10 _ rfl) (w 11 _ rfl) (w 12 _ rfl) (by decide) (rm2 l Z a0 hw [] ((own_law_x1 q0 q1 q2 q3) * (6 : Int32)) h74 n0 Z74 ) (by decide) (by decide) (cells' := 1) rfl (slots' := 6) rfl (by decide) (by decide) e76 (by rw [hml]; rfl) (lenOf pd_1 rfl) rfl rfl (hb hby at_193) (pc' := 196) rfl ?_
              intro T77 v77 L77 X77 hQ77
              obtain ⟨rfl, Nq77, e77⟩ := hQ77
              have N77 := Fr.app N76 Nq77
              show Go p e below _ (T77.setTop (mkF m 196 _ [.int (own_f2_ret ((own_law_x1 q0 q1 q2 q3) * (6 : Int32)))]))
              refine o_istore (x := (own_law_x15 q0 q1 q2 q3)) X77 hx (hb hby at_196) (pc' := 198) rfl (L' := #[.val (.int q0), .val (.int q1), .val (.long q2), .second, .val (.int q3), .val (.int (6 : Int32)), .val (.int (own_law_x1 q0 q1 q2 q3)), .val (.long (own_law_x2 q0 q1 q2 q3)), .second, .val (.long (own_law_x3 q0 q1 q2 q3)), .second, .val (.ref b62), .val (.long (own_law_x14 q0 q1 q2 q3)), .second, .val (.int (own_law_x15 q0 q1 q2 q3))]) rfl ?_
              refine o_lload X77 hx (hb hby at_198) (pc' := 200) rfl rfl ?_
              refine o_lload X77 hx (hb hby at_200) (pc' := 202) rfl rfl ?_
              refine o_iload X77 hx (hb hby at_202) (pc' := 204) rfl rfl ?_
              refine o_iconst X77 hx (1 : Int32) (hb hby at_204) (pc' := 205) rfl (by decide) ?_
              refine o_isub X77 hx (hb hby at_205) (pc' := 206) rfl ?_
              refine o_i2l X77 hx (hb hby at_206) (pc' := 207) rfl ?_
              refine o_lload X77 hx (hb hby at_207) (pc' := 209) rfl rfl ?_
              refine o_lmul X77 hx (hb hby at_209) (pc' := 210) rfl ?_
              refine o_ladd X77 hx (hb hby at_210) (pc' := 211) rfl ?_
              refine o_lcmp X77 hx (hb hby at_211) (pc' := 212) rfl ?_
              by_cases hc212_78 : (own_law_x14 q0 q1 q2 q3) = ((own_law_x2 q0 q1 q2 q3) + ((((own_law_x15 q0 q1 q2 q3) - (1 : Int32)).toInt64) * (own_law_x3 q0 q1 q2 q3)))
              · refine o_ifN X77 hx (hb hby at_212) (teqL hc212_78).2 (pc' := 215) rfl ?_
                refine o_iconst X77 hx (1 : Int32) (hb hby at_215) (pc' := 216) rfl (by decide) ?_
                refine o_goto X77 hx (hb hby at_216) (by decide) (pc' := 220) (by decide) ?_
                rw [← hOWE]
                exact o_retZ X77 hx rfl hlk hrt (hb hby at_220) (by decide) (by decide) (by rw [e77]; exact ⟨(by rw [own_law_ret, if_neg hs1, if_neg hs9, if_neg hs19, if_neg hs31, if_neg hs45, if_pos hs61, if_pos hc212_78]), N77⟩)
              · refine o_ifY X77 hx (hb hby at_212) (feqL hc212_78).2 (by decide) (pc' := 219) (by decide) ?_
                refine o_iconst X77 hx (0 : Int32) (hb hby at_219) (pc' := 220) rfl (by decide) ?_
                rw [← hOWE]
                exact o_retZ X77 hx rfl hlk hrt (hb hby at_220) (by decide) (by decide) (by rw [e77]; exact ⟨(by rw [own_law_ret, if_neg hs1, if_neg hs9, if_neg hs19, if_neg hs31, if_neg hs45, if_pos hs61, if_neg hc212_78]), N77⟩)
            · by_cases hs79 : (own_law_x0 q0 q1 q2 q3) = (7 : Int32)
              · rw [hs79]
                refine o_iloadN X0 hx (hb hby at_8) (pc' := 9) rfl rfl ?_
                refine o_ldcI X0 hx hZ (2147483647 : Int32) hown (w 0 _ rfl) (hb hby at_9) (pc' := 11) rfl ?_
                refine o_iand X0 hx (hb hby at_11) (pc' := 12) rfl ?_
                refine o_bipush X0 hx (100 : Int32) (hb hby at_12) (pc' := 14) rfl (by decide) ?_
                refine o_irem X0 hx (hb hby at_14) (pc' := 15) rfl (by decide) ?_
                refine o_iconst X0 hx (1 : Int32) (hb hby at_15) (pc' := 16) rfl (by decide) ?_
                refine o_iadd X0 hx (hb hby at_16) (pc' := 17) rfl ?_
                refine o_istore (x := (own_law_x1 q0 q1 q2 q3)) X0 hx (hb hby at_17) (pc' := 19) rfl (L' := #[.val (.int q0), .val (.int q1), .val (.long q2), .second, .val (.int q3), .val (.int (7 : Int32)), .val (.int (own_law_x1 q0 q1 q2 q3)), .unset, .unset, .unset, .unset, .unset, .unset, .unset, .unset]) rfl ?_
                refine o_lloadN X0 hx (hb hby at_19) (pc' := 20) rfl rfl ?_
                refine o_iconst X0 hx (4 : Int32) (hb hby at_20) (pc' := 21) rfl (by decide) ?_
                refine o_lshr X0 hx (hb hby at_21) (pc' := 22) rfl ?_
                refine o_lstore (x := (own_law_x2 q0 q1 q2 q3)) X0 hx (hb hby at_22) (pc' := 24) rfl (L' := #[.val (.int q0), .val (.int q1), .val (.long q2), .second, .val (.int q3), .val (.int (7 : Int32)), .val (.int (own_law_x1 q0 q1 q2 q3)), .val (.long (own_law_x2 q0 q1 q2 q3)), .second, .unset, .unset, .unset, .unset, .unset, .unset]) rfl ?_
                refine o_iload X0 hx (hb hby at_24) (pc' := 26) rfl rfl ?_
                refine o_ldcI X0 hx hZ (1048575 : Int32) hown (w 1 _ rfl) (hb hby at_26) (pc' := 28) rfl ?_
                refine o_iand X0 hx (hb hby at_28) (pc' := 29) rfl ?_
                refine o_i2l X0 hx (hb hby at_29) (pc' := 30) rfl ?_
                refine o_lconst X0 hx (1 : Int64) (hb hby at_30) (pc' := 31) rfl (by decide) ?_
                refine o_ladd X0 hx (hb hby at_31) (pc' := 32) rfl ?_
                refine o_lstore (x := (own_law_x3 q0 q1 q2 q3)) X0 hx (hb hby at_32) (pc' := 34) rfl (L' := #[.val (.int q0), .val (.int q1), .val (.long q2), .second, .val (.int q3), .val (.int (7 : Int32)), .val (.int (own_law_x1 q0 q1 q2 q3)), .val (.long (own_law_x2 q0 q1 q2 q3)), .second, .val (.long (own_law_x3 q0 q1 q2 q3)), .second, .unset, .unset, .unset, .unset]) rfl ?_
                refine o_iload X0 hx (hb hby at_34) (pc' := 36) rfl rfl ?_
                refine o_newP X0 hx hZ 7 (w 2 _ rfl) e0 (hb hby at_36) (pc' := 38) rfl (by decide) (by decide) (by decide) (cells' := 1) rfl (slots' := 7) rfl (by decide) (by decide) ?_
                intro T80 h80 b80 k80 qa80 X80 e80 Ex80 A80
                have g_b80 : n0 ≤ b80 := by rw [qa80]; exact Z0
                have Z80 : n0 ≤ h80.size := Nat.le_trans Z0 Ex80.1
                have V80_ : Arv Z h80 b80 k80 .long (7 : Int32) [.long (0 : Int64), .long (0 : Int64), .long (0 : Int64), .long (0 : Int64), .long (0 : Int64), .long (0 : Int64), .long (0 : Int64)] (.long (0 : Int64)) := own_fill 7 A80
                refine o_astore X80 hx (hb hby at_38) (pc' := 40) rfl (L' := #[.val (.int q0), .val (.int q1), .val (.long q2), .second, .val (.int q3), .val (.int (7 : Int32)), .val (.int (own_law_x1 q0 q1 q2 q3)), .val (.long (own_law_x2 q0 q1 q2 q3)), .second, .val (.long (own_law_x3 q0 q1 q2 q3)), .second, .val (.ref b80), .unset, .unset, .unset]) rfl rfl ?_
                refine o_aload X80 hx (hb hby at_40) (pc' := 42) rfl rfl rfl ?_
                refine o_iconst X80 hx (0 : Int32) (hb hby at_42) (pc' := 43) rfl (by decide) ?_
                refine o_lload X80 hx (hb hby at_43) (pc' := 45) rfl rfl ?_
                refine o_lastore X80 hx hZ 0 e80 V80_ (by decide) (by decide) (by exact (by decide : 0 < 7)) (vs' := [.long (own_law_x2 q0 q1 q2 q3), .long (0 : Int64), .long (0 : Int64), .long (0 : Int64), .long (0 : Int64), .long (0 : Int64), .long (0 : Int64)]) rfl (hb hby at_45) (pc' := 46) rfl ?_
                intro T82 h82 X82 e82 W82 V82_
                have N82 := Fr.snoc X82 N0 g_b80
                have Z82 : n0 ≤ h82.size := by rw [W82.size]; exact Z80
                refine o_iload X82 hx (hb hby at_46) (pc' := 48) rfl rfl ?_
                refine o_iconst X82 hx (1 : Int32) (hb hby at_48) (pc' := 49) rfl (by decide) ?_
                refine o_cmpN X82 hx (hb hby at_49) (tlt (by decide : (1 : Int32) < (7 : Int32))).2.2.2 (pc' := 52) rfl ?_
                refine o_aload X82 hx (hb hby at_52) (pc' := 54) rfl rfl rfl ?_
                refine o_iconst X82 hx (1 : Int32) (hb hby at_54) (pc' := 55) rfl (by decide) ?_
                refine o_lload X82 hx (hb hby at_55) (pc' := 57) rfl rfl ?_
                refine o_lload X82 hx (hb hby at_57) (pc' := 59) rfl rfl ?_
                refine o_ladd X82 hx (hb hby at_59) (pc' := 60) rfl ?_
                refine o_lastore X82 hx hZ 1 e82 V82_ (by decide) (by decide) (by exact (by decide : 1 < 7)) (vs' := [.long (own_law_x2 q0 q1 q2 q3), .long ((own_law_x2 q0 q1 q2 q3) + (own_law_x3 q0 q1 q2 q3)), .long (0 : Int64), .long (0 : Int64), .long (0 : Int64), .long (0 : Int64), .long (0 : Int64)]) rfl (hb hby at_60) (pc' := 61) rfl ?_
                intro T84 h84 X84 e84 W84 V84_
                have N84 := Fr.snoc X84 N82 g_b80
                have Z84 : n0 ≤ h84.size := by rw [W84.size]; exact Z82
                refine o_iload X84 hx (hb hby at_61) (pc' := 63) rfl rfl ?_
                refine o_iconst X84 hx (2 : Int32) (hb hby at_63) (pc' := 64) rfl (by decide) ?_
                refine o_cmpN X84 hx (hb hby at_64) (tlt (by decide : (2 : Int32) < (7 : Int32))).2.2.2 (pc' := 67) rfl ?_
                refine o_aload X84 hx (hb hby at_67) (pc' := 69) rfl rfl rfl ?_
                refine o_iconst X84 hx (2 : Int32) (hb hby at_69) (pc' := 70) rfl (by decide) ?_
                refine o_lload X84 hx (hb hby at_70) (pc' := 72) rfl rfl ?_
                refine o_ldcJ X84 hx hZ (2 : Int64) hown (w 13 _ rfl) (hb hby at_72) (pc' := 75) rfl ?_
                refine o_lload X84 hx (hb hby at_75) (pc' := 77) rfl rfl ?_
                refine o_lmul X84 hx (hb hby at_77) (pc' := 78) rfl ?_
                refine o_ladd X84 hx (hb hby at_78) (pc' := 79) rfl ?_
                refine o_lastore X84 hx hZ 2 e84 V84_ (by decide) (by decide) (by exact (by decide : 2 < 7)) (vs' := [.long (own_law_x2 q0 q1 q2 q3), .long ((own_law_x2 q0 q1 q2 q3) + (own_law_x3 q0 q1 q2 q3)), .long ((own_law_x2 q0 q1 q2 q3) + ((2 : Int64) * (own_law_x3 q0 q1 q2 q3))), .long (0 : Int64), .long (0 : Int64), .long (0 : Int64), .long (0 : Int64)]) rfl (hb hby at_79) (pc' := 80) rfl ?_
                intro T86 h86 X86 e86 W86 V86_
                have N86 := Fr.snoc X86 N84 g_b80
                have Z86 : n0 ≤ h86.size := by rw [W86.size]; exact Z84
                refine o_iload X86 hx (hb hby at_80) (pc' := 82) rfl rfl ?_
                refine o_iconst X86 hx (3 : Int32) (hb hby at_82) (pc' := 83) rfl (by decide) ?_
                refine o_cmpN X86 hx (hb hby at_83) (tlt (by decide : (3 : Int32) < (7 : Int32))).2.2.2 (pc' := 86) rfl ?_
                refine o_aload X86 hx (hb hby at_86) (pc' := 88) rfl rfl rfl ?_
                refine o_iconst X86 hx (3 : Int32) (hb hby at_88) (pc' := 89) rfl (by decide) ?_
                refine o_lload X86 hx (hb hby at_89) (pc' := 91) rfl rfl ?_
                refine o_ldcJ X86 hx hZ (3 : Int64) hown (w 14 _ rfl) (hb hby at_91) (pc' := 94) rfl ?_
                refine o_lload X86 hx (hb hby at_94) (pc' := 96) rfl rfl ?_
                refine o_lmul X86 hx (hb hby at_96) (pc' := 97) rfl ?_
                refine o_ladd X86 hx (hb hby at_97) (pc' := 98) rfl ?_
                refine o_lastore X86 hx hZ 3 e86 V86_ (by decide) (by decide) (by exact (by decide : 3 < 7)) (vs' := [.long (own_law_x2 q0 q1 q2 q3), .long ((own_law_x2 q0 q1 q2 q3) + (own_law_x3 q0 q1 q2 q3)), .long ((own_law_x2 q0 q1 q2 q3) + ((2 : Int64) * (own_law_x3 q0 q1 q2 q3))), .long ((own_law_x2 q0 q1 q2 q3) + ((3 : Int64) * (own_law_x3 q0 q1 q2 q3))), .long (0 : Int64), .long (0 : Int64), .long (0 : Int64)]) rfl (hb hby at_98) (pc' := 99) rfl ?_
                intro T88 h88 X88 e88 W88 V88_
                have N88 := Fr.snoc X88 N86 g_b80
                have Z88 : n0 ≤ h88.size := by rw [W88.size]; exact Z86
                refine o_iload X88 hx (hb hby at_99) (pc' := 101) rfl rfl ?_
                refine o_iconst X88 hx (4 : Int32) (hb hby at_101) (pc' := 102) rfl (by decide) ?_
                refine o_cmpN X88 hx (hb hby at_102) (tlt (by decide : (4 : Int32) < (7 : Int32))).2.2.2 (pc' := 105) rfl ?_
                refine o_aload X88 hx (hb hby at_105) (pc' := 107) rfl rfl rfl ?_
                refine o_iconst X88 hx (4 : Int32) (hb hby at_107) (pc' := 108) rfl (by decide) ?_
                refine o_lload X88 hx (hb hby at_108) (pc' := 110) rfl rfl ?_
                refine o_ldcJ X88 hx hZ (4 : Int64) hown (w 15 _ rfl) (hb hby at_110) (pc' := 113) rfl ?_
                refine o_lload X88 hx (hb hby at_113) (pc' := 115) rfl rfl ?_
                refine o_lmul X88 hx (hb hby at_115) (pc' := 116) rfl ?_
                refine o_ladd X88 hx (hb hby at_116) (pc' := 117) rfl ?_
                refine o_lastore X88 hx hZ 4 e88 V88_ (by decide) (by decide) (by exact (by decide : 4 < 7)) (vs' := [.long (own_law_x2 q0 q1 q2 q3), .long ((own_law_x2 q0 q1 q2 q3) + (own_law_x3 q0 q1 q2 q3)), .long ((own_law_x2 q0 q1 q2 q3) + ((2 : Int64) * (own_law_x3 q0 q1 q2 q3))), .long ((own_law_x2 q0 q1 q2 q3) + ((3 : Int64) * (own_law_x3 q0 q1 q2 q3))), .long ((own_law_x2 q0 q1 q2 q3) + ((4 : Int64) * (own_law_x3 q0 q1 q2 q3))), .long (0 : Int64), .long (0 : Int64)]) rfl (hb hby at_117) (pc' := 118) rfl ?_
                intro T90 h90 X90 e90 W90 V90_
                have N90 := Fr.snoc X90 N88 g_b80
                have Z90 : n0 ≤ h90.size := by rw [W90.size]; exact Z88
                refine o_iload X90 hx (hb hby at_118) (pc' := 120) rfl rfl ?_
                refine o_iconst X90 hx (5 : Int32) (hb hby at_120) (pc' := 121) rfl (by decide) ?_
                refine o_cmpN X90 hx (hb hby at_121) (tlt (by decide : (5 : Int32) < (7 : Int32))).2.2.2 (pc' := 124) rfl ?_
                refine o_aload X90 hx (hb hby at_124) (pc' := 126) rfl rfl rfl ?_
                refine o_iconst X90 hx (5 : Int32) (hb hby at_126) (pc' := 127) rfl (by decide) ?_
                refine o_lload X90 hx (hb hby at_127) (pc' := 129) rfl rfl ?_
                refine o_ldcJ X90 hx hZ (5 : Int64) hown (w 16 _ rfl) (hb hby at_129) (pc' := 132) rfl ?_
                refine o_lload X90 hx (hb hby at_132) (pc' := 134) rfl rfl ?_
                refine o_lmul X90 hx (hb hby at_134) (pc' := 135) rfl ?_
                refine o_ladd X90 hx (hb hby at_135) (pc' := 136) rfl ?_
                refine o_lastore X90 hx hZ 5 e90 V90_ (by decide) (by decide) (by exact (by decide : 5 < 7)) (vs' := [.long (own_law_x2 q0 q1 q2 q3), .long ((own_law_x2 q0 q1 q2 q3) + (own_law_x3 q0 q1 q2 q3)), .long ((own_law_x2 q0 q1 q2 q3) + ((2 : Int64) * (own_law_x3 q0 q1 q2 q3))), .long ((own_law_x2 q0 q1 q2 q3) + ((3 : Int64) * (own_law_x3 q0 q1 q2 q3))), .long ((own_law_x2 q0 q1 q2 q3) + ((4 : Int64) * (own_law_x3 q0 q1 q2 q3))), .long ((own_law_x2 q0 q1 q2 q3) + ((5 : Int64) * (own_law_x3 q0 q1 q2 q3))), .long (0 : Int64)]) rfl (hb hby at_136) (pc' := 137) rfl ?_
                intro T92 h92 X92 e92 W92 V92_
                have N92 := Fr.snoc X92 N90 g_b80
                have Z92 : n0 ≤ h92.size := by rw [W92.size]; exact Z90
                refine o_iload X92 hx (hb hby at_137) (pc' := 139) rfl rfl ?_
                refine o_bipush X92 hx (6 : Int32) (hb hby at_139) (pc' := 141) rfl (by decide) ?_
                refine o_cmpN X92 hx (hb hby at_141) (tlt (by decide : (6 : Int32) < (7 : Int32))).2.2.2 (pc' := 144) rfl ?_
                refine o_aload X92 hx (hb hby at_144) (pc' := 146) rfl rfl rfl ?_
                refine o_bipush X92 hx (6 : Int32) (hb hby at_146) (pc' := 148) rfl (by decide) ?_
                refine o_lload X92 hx (hb hby at_148) (pc' := 150) rfl rfl ?_
                refine o_ldcJ X92 hx hZ (6 : Int64) hown (w 17 _ rfl) (hb hby at_150) (pc' := 153) rfl ?_
                refine o_lload X92 hx (hb hby at_153) (pc' := 155) rfl rfl ?_
                refine o_lmul X92 hx (hb hby at_155) (pc' := 156) rfl ?_
                refine o_ladd X92 hx (hb hby at_156) (pc' := 157) rfl ?_
                refine o_lastore X92 hx hZ 6 e92 V92_ (by decide) (by decide) (by exact (by decide : 6 < 7)) (vs' := [.long (own_law_x2 q0 q1 q2 q3), .long ((own_law_x2 q0 q1 q2 q3) + (own_law_x3 q0 q1 q2 q3)), .long ((own_law_x2 q0 q1 q2 q3) + ((2 : Int64) * (own_law_x3 q0 q1 q2 q3))), .long ((own_law_x2 q0 q1 q2 q3) + ((3 : Int64) * (own_law_x3 q0 q1 q2 q3))), .long ((own_law_x2 q0 q1 q2 q3) + ((4 : Int64) * (own_law_x3 q0 q1 q2 q3))), .long ((own_law_x2 q0 q1 q2 q3) + ((5 : Int64) * (own_law_x3 q0 q1 q2 q3))), .long ((own_law_x2 q0 q1 q2 q3) + ((6 : Int64) * (own_law_x3 q0 q1 q2 q3)))]) rfl (hb hby at_157) (pc' := 158) rfl ?_
                intro T94 h94 X94 e94 W94 V94_
                have N94 := Fr.snoc X94 N92 g_b80
                have Z94 : n0 ≤ h94.size := by rw [W94.size]; exact Z92
                refine o_iload X94 hx (hb hby at_158) (pc' := 160) rfl rfl ?_
                refine o_bipush X94 hx (7 : Int32) (hb hby at_160) (pc' := 162) rfl (by decide) ?_
                refine o_cmpY X94 hx (hb hby at_162) (flt (by decide : ¬ ((7 : Int32) < (7 : Int32)))).2.2.2 (by decide) (pc' := 179) (by decide) ?_
                refine o_aload X94 hx (hb hby at_179) (pc' := 181) rfl rfl rfl ?_
                refine o_iload X94 hx (hb hby at_181) (pc' := 183) rfl rfl ?_
                refine o_callS X94 hx hZ 0 (argsL := [.ref b80, .int (own_law_x1 q0 q1 q2 q3)]) (rest := []) hown (w 3 _ rfl) (w 4 _ rfl) (w 5 _ rfl) (w 6 _ rfl) (by decide) (rm1_7 l Z a0 hw [] b80 (own_law_x2 q0 q1 q2 q3) ((own_law_x2 q0 q1 q2 q3) + (own_law_x3 q0 q1 q2 q3)) ((own_law_x2 q0 q1 q2 q3) + ((2 : Int64) * (own_law_x3 q0 q1 q2 q3))) ((own_law_x2 q0 q1 q2 q3) + ((3 : Int64) * (own_law_x3 q0 q1 q2 q3))) ((own_law_x2 q0 q1 q2 q3) + ((4 : Int64) * (own_law_x3 q0 q1 q2 q3))) ((own_law_x2 q0 q1 q2 q3) + ((5 : Int64) * (own_law_x3 q0 q1 q2 q3))) ((own_law_x2 q0 q1 q2 q3) + ((6 : Int64) * (own_law_x3 q0 q1 q2 q3))) (own_law_x1 q0 q1 q2 q3) k80 h94 n0 Z94 V94_ (own_p q0 q1 q2 q3).1 (own_p q0 q1 q2 q3).2) (by decide) (by decide) (cells' := 1) rfl (slots' := 7) rfl (by decide) (by decide) e94 (by rw [hml]; rfl) (lenOf pd_0 rfl) rfl rfl (hb hby at_183) (pc' := 186) rfl ?_
                intro T96 v96 L96 X96 hQ96
                obtain ⟨rfl, Nq96, e96⟩ := hQ96
                have N96 := Fr.app N94 Nq96
                show Go p e below _ (T96.setTop (mkF m 186 _ [.long (own_f1_7_ret (own_law_x2 q0 q1 q2 q3) ((own_law_x2 q0 q1 q2 q3) + (own_law_x3 q0 q1 q2 q3)) ((own_law_x2 q0 q1 q2 q3) + ((2 : Int64) * (own_law_x3 q0 q1 q2 q3))) ((own_law_x2 q0 q1 q2 q3) + ((3 : Int64) * (own_law_x3 q0 q1 q2 q3))) ((own_law_x2 q0 q1 q2 q3) + ((4 : Int64) * (own_law_x3 q0 q1 q2 q3))) ((own_law_x2 q0 q1 q2 q3) + ((5 : Int64) * (own_law_x3 q0 q1 q2 q3))) ((own_law_x2 q0 q1 q2 q3) + ((6 : Int64) * (own_law_x3 q0 q1 q2 q3))) (own_law_x1 q0 q1 q2 q3))]))
                refine o_lstore (x := (own_law_x16 q0 q1 q2 q3)) X96 hx (hb hby at_186) (pc' := 188) rfl (L' := #[.val (.int q0), .val (.int q1), .val (.long q2), .second, .val (.int q3), .val (.int (7 : Int32)), .val (.int (own_law_x1 q0 q1 q2 q3)), .val (.long (own_law_x2 q0 q1 q2 q3)), .second, .val (.long (own_law_x3 q0 q1 q2 q3)), .second, .val (.ref b80), .val (.long (own_law_x16 q0 q1 q2 q3)), .second, .unset]) rfl ?_
                refine o_iload X96 hx (hb hby at_188) (pc' := 190) rfl rfl ?_
                refine o_iload X96 hx (hb hby at_190) (pc' := 192) rfl rfl ?_
                refine o_imul X96 hx (hb hby at_192) (pc' := 193) rfl ?_
                refine o_callS X96 hx hZ 0 (argsL := [.int ((own_law_x1 q0 q1 q2 q3) * (7 : Int32))]) (rest := []) hown (w 9 _ rfl) (w 10 _ rfl) (w 11 _ rfl) (w 12 _ rfl) (by decide) (rm2 l Z a0 hw [] ((own_law_x1 q0 q1 q2 q3) * (7 : Int32)) h94 n0 Z94 ) (by decide) (by decide) (cells' := 1) rfl (slots' := 7) rfl (by decide) (by decide) e96 (by rw [hml]; rfl) (lenOf pd_1 rfl) rfl rfl (hb hby at_193) (pc' := 196) rfl ?_
                intro T97 v97 L97 X97 hQ97
                obtain ⟨rfl, Nq97, e97⟩ := hQ97
                have N97 := Fr.app N96 Nq97
                show Go p e below _ (T97.setTop (mkF m 196 _ [.int (own_f2_ret ((own_law_x1 q0 q1 q2 q3) * (7 : Int32)))]))
                refine o_istore (x := (own_law_x17 q0 q1 q2 q3)) X97 hx (hb hby at_196) (pc' := 198) rfl (L' := #[.val (.int q0), .val (.int q1), .val (.long q2), .second, .val (.int q3), .val (.int (7 : Int32)), .val (.int (own_law_x1 q0 q1 q2 q3)), .val (.long (own_law_x2 q0 q1 q2 q3)), .second, .val (.long (own_law_x3 q0 q1 q2 q3)), .second, .val (.ref b80), .val (.long (own_law_x16 q0 q1 q2 q3)), .second, .val (.int (own_law_x17 q0 q1 q2 q3))]) rfl ?_
                refine o_lload X97 hx (hb hby at_198) (pc' := 200) rfl rfl ?_
                refine o_lload X97 hx (hb hby at_200) (pc' := 202) rfl rfl ?_
                refine o_iload X97 hx (hb hby at_202) (pc' := 204) rfl rfl ?_
                refine o_iconst X97 hx (1 : Int32) (hb hby at_204) (pc' := 205) rfl (by decide) ?_
                refine o_isub X97 hx (hb hby at_205) (pc' := 206) rfl ?_
                refine o_i2l X97 hx (hb hby at_206) (pc' := 207) rfl ?_
                refine o_lload X97 hx (hb hby at_207) (pc' := 209) rfl rfl ?_
                refine o_lmul X97 hx (hb hby at_209) (pc' := 210) rfl ?_
                refine o_ladd X97 hx (hb hby at_210) (pc' := 211) rfl ?_
                refine o_lcmp X97 hx (hb hby at_211) (pc' := 212) rfl ?_
                by_cases hc212_98 : (own_law_x16 q0 q1 q2 q3) = ((own_law_x2 q0 q1 q2 q3) + ((((own_law_x17 q0 q1 q2 q3) - (1 : Int32)).toInt64) * (own_law_x3 q0 q1 q2 q3)))
                · refine o_ifN X97 hx (hb hby at_212) (teqL hc212_98).2 (pc' := 215) rfl ?_
                  refine o_iconst X97 hx (1 : Int32) (hb hby at_215) (pc' := 216) rfl (by decide) ?_
                  refine o_goto X97 hx (hb hby at_216) (by decide) (pc' := 220) (by decide) ?_
                  rw [← hOWE]
                  exact o_retZ X97 hx rfl hlk hrt (hb hby at_220) (by decide) (by decide) (by rw [e97]; exact ⟨(by rw [own_law_ret, if_neg hs1, if_neg hs9, if_neg hs19, if_neg hs31, if_neg hs45, if_neg hs61, if_pos hs79, if_pos hc212_98]), N97⟩)
                · refine o_ifY X97 hx (hb hby at_212) (feqL hc212_98).2 (by decide) (pc' := 219) (by decide) ?_
                  refine o_iconst X97 hx (0 : Int32) (hb hby at_219) (pc' := 220) rfl (by decide) ?_
                  rw [← hOWE]
                  exact o_retZ X97 hx rfl hlk hrt (hb hby at_220) (by decide) (by decide) (by rw [e97]; exact ⟨(by rw [own_law_ret, if_neg hs1, if_neg hs9, if_neg hs19, if_neg hs31, if_neg hs45, if_neg hs61, if_pos hs79, if_neg hc212_98]), N97⟩)
              · have hs99 : (own_law_x0 q0 q1 q2 q3) = (8 : Int32) := ((((((((own_n8 q0 q1 q2 q3)).resolve_left hs1).resolve_left hs9).resolve_left hs19).resolve_left hs31).resolve_left hs45).resolve_left hs61).resolve_left hs79
                rw [hs99]
                refine o_iloadN X0 hx (hb hby at_8) (pc' := 9) rfl rfl ?_
                refine o_ldcI X0 hx hZ (2147483647 : Int32) hown (w 0 _ rfl) (hb hby at_9) (pc' := 11) rfl ?_
                refine o_iand X0 hx (hb hby at_11) (pc' := 12) rfl ?_
                refine o_bipush X0 hx (100 : Int32) (hb hby at_12) (pc' := 14) rfl (by decide) ?_
                refine o_irem X0 hx (hb hby at_14) (pc' := 15) rfl (by decide) ?_
                refine o_iconst X0 hx (1 : Int32) (hb hby at_15) (pc' := 16) rfl (by decide) ?_
                refine o_iadd X0 hx (hb hby at_16) (pc' := 17) rfl ?_
                refine o_istore (x := (own_law_x1 q0 q1 q2 q3)) X0 hx (hb hby at_17) (pc' := 19) rfl (L' := #[.val (.int q0), .val (.int q1), .val (.long q2), .second, .val (.int q3), .val (.int (8 : Int32)), .val (.int (own_law_x1 q0 q1 q2 q3)), .unset, .unset, .unset, .unset, .unset, .unset, .unset, .unset]) rfl ?_
                refine o_lloadN X0 hx (hb hby at_19) (pc' := 20) rfl rfl ?_
                refine o_iconst X0 hx (4 : Int32) (hb hby at_20) (pc' := 21) rfl (by decide) ?_
                refine o_lshr X0 hx (hb hby at_21) (pc' := 22) rfl ?_
                refine o_lstore (x := (own_law_x2 q0 q1 q2 q3)) X0 hx (hb hby at_22) (pc' := 24) rfl (L' := #[.val (.int q0), .val (.int q1), .val (.long q2), .second, .val (.int q3), .val (.int (8 : Int32)), .val (.int (own_law_x1 q0 q1 q2 q3)), .val (.long (own_law_x2 q0 q1 q2 q3)), .second, .unset, .unset, .unset, .unset, .unset, .unset]) rfl ?_
                refine o_iload X0 hx (hb hby at_24) (pc' := 26) rfl rfl ?_
                refine o_ldcI X0 hx hZ (1048575 : Int32) hown (w 1 _ rfl) (hb hby at_26) (pc' := 28) rfl ?_
                refine o_iand X0 hx (hb hby at_28) (pc' := 29) rfl ?_
                refine o_i2l X0 hx (hb hby at_29) (pc' := 30) rfl ?_
                refine o_lconst X0 hx (1 : Int64) (hb hby at_30) (pc' := 31) rfl (by decide) ?_
                refine o_ladd X0 hx (hb hby at_31) (pc' := 32) rfl ?_
                refine o_lstore (x := (own_law_x3 q0 q1 q2 q3)) X0 hx (hb hby at_32) (pc' := 34) rfl (L' := #[.val (.int q0), .val (.int q1), .val (.long q2), .second, .val (.int q3), .val (.int (8 : Int32)), .val (.int (own_law_x1 q0 q1 q2 q3)), .val (.long (own_law_x2 q0 q1 q2 q3)), .second, .val (.long (own_law_x3 q0 q1 q2 q3)), .second, .unset, .unset, .unset, .unset]) rfl ?_
                refine o_iload X0 hx (hb hby at_34) (pc' := 36) rfl rfl ?_
                refine o_newP X0 hx hZ 8 (w 2 _ rfl) e0 (hb hby at_36) (pc' := 38) rfl (by decide) (by decide) (by decide) (cells' := 1) rfl (slots' := 8) rfl (by decide) (by decide) ?_
                intro T100 h100 b100 k100 qa100 X100 e100 Ex100 A100
                have g_b100 : n0 ≤ b100 := by rw [qa100]; exact Z0
                have Z100 : n0 ≤ h100.size := Nat.le_trans Z0 Ex100.1
                have V100_ : Arv Z h100 b100 k100 .long (8 : Int32) [.long (0 : Int64), .long (0 : Int64), .long (0 : Int64), .long (0 : Int64), .long (0 : Int64), .long (0 : Int64), .long (0 : Int64), .long (0 : Int64)] (.long (0 : Int64)) := own_fill 8 A100
                refine o_astore X100 hx (hb hby at_38) (pc' := 40) rfl (L' := #[.val (.int q0), .val (.int q1), .val (.long q2), .second, .val (.int q3), .val (.int (8 : Int32)), .val (.int (own_law_x1 q0 q1 q2 q3)), .val (.long (own_law_x2 q0 q1 q2 q3)), .second, .val (.long (own_law_x3 q0 q1 q2 q3)), .second, .val (.ref b100), .unset, .unset, .unset]) rfl rfl ?_
                refine o_aload X100 hx (hb hby at_40) (pc' := 42) rfl rfl rfl ?_
                refine o_iconst X100 hx (0 : Int32) (hb hby at_42) (pc' := 43) rfl (by decide) ?_
                refine o_lload X100 hx (hb hby at_43) (pc' := 45) rfl rfl ?_
                refine o_lastore X100 hx hZ 0 e100 V100_ (by decide) (by decide) (by exact (by decide : 0 < 8)) (vs' := [.long (own_law_x2 q0 q1 q2 q3), .long (0 : Int64), .long (0 : Int64), .long (0 : Int64), .long (0 : Int64), .long (0 : Int64), .long (0 : Int64), .long (0 : Int64)]) rfl (hb hby at_45) (pc' := 46) rfl ?_
                intro T102 h102 X102 e102 W102 V102_
                have N102 := Fr.snoc X102 N0 g_b100
                have Z102 : n0 ≤ h102.size := by rw [W102.size]; exact Z100
                refine o_iload X102 hx (hb hby at_46) (pc' := 48) rfl rfl ?_
                refine o_iconst X102 hx (1 : Int32) (hb hby at_48) (pc' := 49) rfl (by decide) ?_
                refine o_cmpN X102 hx (hb hby at_49) (tlt (by decide : (1 : Int32) < (8 : Int32))).2.2.2 (pc' := 52) rfl ?_
                refine o_aload X102 hx (hb hby at_52) (pc' := 54) rfl rfl rfl ?_
                refine o_iconst X102 hx (1 : Int32) (hb hby at_54) (pc' := 55) rfl (by decide) ?_
                refine o_lload X102 hx (hb hby at_55) (pc' := 57) rfl rfl ?_
                refine o_lload X102 hx (hb hby at_57) (pc' := 59) rfl rfl ?_
                refine o_ladd X102 hx (hb hby at_59) (pc' := 60) rfl ?_
                refine o_lastore X102 hx hZ 1 e102 V102_ (by decide) (by decide) (by exact (by decide : 1 < 8)) (vs' := [.long (own_law_x2 q0 q1 q2 q3), .long ((own_law_x2 q0 q1 q2 q3) + (own_law_x3 q0 q1 q2 q3)), .long (0 : Int64), .long (0 : Int64), .long (0 : Int64), .long (0 : Int64), .long (0 : Int64), .long (0 : Int64)]) rfl (hb hby at_60) (pc' := 61) rfl ?_
                intro T104 h104 X104 e104 W104 V104_
                have N104 := Fr.snoc X104 N102 g_b100
                have Z104 : n0 ≤ h104.size := by rw [W104.size]; exact Z102
                refine o_iload X104 hx (hb hby at_61) (pc' := 63) rfl rfl ?_
                refine o_iconst X104 hx (2 : Int32) (hb hby at_63) (pc' := 64) rfl (by decide) ?_
                refine o_cmpN X104 hx (hb hby at_64) (tlt (by decide : (2 : Int32) < (8 : Int32))).2.2.2 (pc' := 67) rfl ?_
                refine o_aload X104 hx (hb hby at_67) (pc' := 69) rfl rfl rfl ?_
                refine o_iconst X104 hx (2 : Int32) (hb hby at_69) (pc' := 70) rfl (by decide) ?_
                refine o_lload X104 hx (hb hby at_70) (pc' := 72) rfl rfl ?_
                refine o_ldcJ X104 hx hZ (2 : Int64) hown (w 13 _ rfl) (hb hby at_72) (pc' := 75) rfl ?_
                refine o_lload X104 hx (hb hby at_75) (pc' := 77) rfl rfl ?_
                refine o_lmul X104 hx (hb hby at_77) (pc' := 78) rfl ?_
                refine o_ladd X104 hx (hb hby at_78) (pc' := 79) rfl ?_
                refine o_lastore X104 hx hZ 2 e104 V104_ (by decide) (by decide) (by exact (by decide : 2 < 8)) (vs' := [.long (own_law_x2 q0 q1 q2 q3), .long ((own_law_x2 q0 q1 q2 q3) + (own_law_x3 q0 q1 q2 q3)), .long ((own_law_x2 q0 q1 q2 q3) + ((2 : Int64) * (own_law_x3 q0 q1 q2 q3))), .long (0 : Int64), .long (0 : Int64), .long (0 : Int64), .long (0 : Int64), .long (0 : Int64)]) rfl (hb hby at_79) (pc' := 80) rfl ?_
                intro T106 h106 X106 e106 W106 V106_
                have N106 := Fr.snoc X106 N104 g_b100
                have Z106 : n0 ≤ h106.size := by rw [W106.size]; exact Z104
                refine o_iload X106 hx (hb hby at_80) (pc' := 82) rfl rfl ?_
                refine o_iconst X106 hx (3 : Int32) (hb hby at_82) (pc' := 83) rfl (by decide) ?_
                refine o_cmpN X106 hx (hb hby at_83) (tlt (by decide : (3 : Int32) < (8 : Int32))).2.2.2 (pc' := 86) rfl ?_
                refine o_aload X106 hx (hb hby at_86) (pc' := 88) rfl rfl rfl ?_
                refine o_iconst X106 hx (3 : Int32) (hb hby at_88) (pc' := 89) rfl (by decide) ?_
                refine o_lload X106 hx (hb hby at_89) (pc' := 91) rfl rfl ?_
                refine o_ldcJ X106 hx hZ (3 : Int64) hown (w 14 _ rfl) (hb hby at_91) (pc' := 94) rfl ?_
                refine o_lload X106 hx (hb hby at_94) (pc' := 96) rfl rfl ?_
                refine o_lmul X106 hx (hb hby at_96) (pc' := 97) rfl ?_
                refine o_ladd X106 hx (hb hby at_97) (pc' := 98) rfl ?_
                refine o_lastore X106 hx hZ 3 e106 V106_ (by decide) (by decide) (by exact (by decide : 3 < 8)) (vs' := [.long (own_law_x2 q0 q1 q2 q3), .long ((own_law_x2 q0 q1 q2 q3) + (own_law_x3 q0 q1 q2 q3)), .long ((own_law_x2 q0 q1 q2 q3) + ((2 : Int64) * (own_law_x3 q0 q1 q2 q3))), .long ((own_law_x2 q0 q1 q2 q3) + ((3 : Int64) * (own_law_x3 q0 q1 q2 q3))), .long (0 : Int64), .long (0 : Int64), .long (0 : Int64), .long (0 : Int64)]) rfl (hb hby at_98) (pc' := 99) rfl ?_
                intro T108 h108 X108 e108 W108 V108_
                have N108 := Fr.snoc X108 N106 g_b100
                have Z108 : n0 ≤ h108.size := by rw [W108.size]; exact Z106
                refine o_iload X108 hx (hb hby at_99) (pc' := 101) rfl rfl ?_
                refine o_iconst X108 hx (4 : Int32) (hb hby at_101) (pc' := 102) rfl (by decide) ?_
                refine o_cmpN X108 hx (hb hby at_102) (tlt (by decide : (4 : Int32) < (8 : Int32))).2.2.2 (pc' := 105) rfl ?_
                refine o_aload X108 hx (hb hby at_105) (pc' := 107) rfl rfl rfl ?_
                refine o_iconst X108 hx (4 : Int32) (hb hby at_107) (pc' := 108) rfl (by decide) ?_
                refine o_lload X108 hx (hb hby at_108) (pc' := 110) rfl rfl ?_
                refine o_ldcJ X108 hx hZ (4 : Int64) hown (w 15 _ rfl) (hb hby at_110) (pc' := 113) rfl ?_
                refine o_lload X108 hx (hb hby at_113) (pc' := 115) rfl rfl ?_
                refine o_lmul X108 hx (hb hby at_115) (pc' := 116) rfl ?_
                refine o_ladd X108 hx (hb hby at_116) (pc' := 117) rfl ?_
                refine o_lastore X108 hx hZ 4 e108 V108_ (by decide) (by decide) (by exact (by decide : 4 < 8)) (vs' := [.long (own_law_x2 q0 q1 q2 q3), .long ((own_law_x2 q0 q1 q2 q3) + (own_law_x3 q0 q1 q2 q3)), .long ((own_law_x2 q0 q1 q2 q3) + ((2 : Int64) * (own_law_x3 q0 q1 q2 q3))), .long ((own_law_x2 q0 q1 q2 q3) + ((3 : Int64) * (own_law_x3 q0 q1 q2 q3))), .long ((own_law_x2 q0 q1 q2 q3) + ((4 : Int64) * (own_law_x3 q0 q1 q2 q3))), .long (0 : Int64), .long (0 : Int64), .long (0 : Int64)]) rfl (hb hby at_117) (pc' := 118) rfl ?_
                intro T110 h110 X110 e110 W110 V110_
                have N110 := Fr.snoc X110 N108 g_b100
                have Z110 : n0 ≤ h110.size := by rw [W110.size]; exact Z108
                refine o_iload X110 hx (hb hby at_118) (pc' := 120) rfl rfl ?_
                refine o_iconst X110 hx (5 : Int32) (hb hby at_120) (pc' := 121) rfl (by decide) ?_
                refine o_cmpN X110 hx (hb hby at_121) (tlt (by decide : (5 : Int32) < (8 : Int32))).2.2.2 (pc' := 124) rfl ?_
                refine o_aload X110 hx (hb hby at_124) (pc' := 126) rfl rfl rfl ?_
                refine o_iconst X110 hx (5 : Int32) (hb hby at_126) (pc' := 127) rfl (by decide) ?_
                refine o_lload X110 hx (hb hby at_127) (pc' := 129) rfl rfl ?_
                refine o_ldcJ X110 hx hZ (5 : Int64) hown (w 16 _ rfl) (hb hby at_129) (pc' := 132) rfl ?_
                refine o_lload X110 hx (hb hby at_132) (pc' := 134) rfl rfl ?_
                refine o_lmul X110 hx (hb hby at_134) (pc' := 135) rfl ?_
                refine o_ladd X110 hx (hb hby at_135) (pc' := 136) rfl ?_
                refine o_lastore X110 hx hZ 5 e110 V110_ (by decide) (by decide) (by exact (by decide : 5 < 8)) (vs' := [.long (own_law_x2 q0 q1 q2 q3), .long ((own_law_x2 q0 q1 q2 q3) + (own_law_x3 q0 q1 q2 q3)), .long ((own_law_x2 q0 q1 q2 q3) + ((2 : Int64) * (own_law_x3 q0 q1 q2 q3))), .long ((own_law_x2 q0 q1 q2 q3) + ((3 : Int64) * (own_law_x3 q0 q1 q2 q3))), .long ((own_law_x2 q0 q1 q2 q3) + ((4 : Int64) * (own_law_x3 q0 q1 q2 q3))), .long ((own_law_x2 q0 q1 q2 q3) + ((5 : Int64) * (own_law_x3 q0 q1 q2 q3))), .long (0 : Int64), .long (0 : Int64)]) rfl (hb hby at_136) (pc' := 137) rfl ?_
                intro T112 h112 X112 e112 W112 V112_
                have N112 := Fr.snoc X112 N110 g_b100
                have Z112 : n0 ≤ h112.size := by rw [W112.size]; exact Z110
                refine o_iload X112 hx (hb hby at_137) (pc' := 139) rfl rfl ?_
                refine o_bipush X112 hx (6 : Int32) (hb hby at_139) (pc' := 141) rfl (by decide) ?_
                refine o_cmpN X112 hx (hb hby at_141) (tlt (by decide : (6 : Int32) < (8 : Int32))).2.2.2 (pc' := 144) rfl ?_
                refine o_aload X112 hx (hb hby at_144) (pc' := 146) rfl rfl rfl ?_
                refine o_bipush X112 hx (6 : Int32) (hb hby at_146) (pc' := 148) rfl (by decide) ?_
                refine o_lload X112 hx (hb hby at_148) (pc' := 150) rfl rfl ?_
                refine o_ldcJ X112 hx hZ (6 : Int64) hown (w 17 _ rfl) (hb hby at_150) (pc' := 153) rfl ?_
                refine o_lload X112 hx (hb hby at_153) (pc' := 155) rfl rfl ?_
                refine o_lmul X112 hx (hb hby at_155) (pc' := 156) rfl ?_
                refine o_ladd X112 hx (hb hby at_156) (pc' := 157) rfl ?_
                refine o_lastore X112 hx hZ 6 e112 V112_ (by decide) (by decide) (by exact (by decide : 6 < 8)) (vs' := [.long (own_law_x2 q0 q1 q2 q3), .long ((own_law_x2 q0 q1 q2 q3) + (own_law_x3 q0 q1 q2 q3)), .long ((own_law_x2 q0 q1 q2 q3) + ((2 : Int64) * (own_law_x3 q0 q1 q2 q3))), .long ((own_law_x2 q0 q1 q2 q3) + ((3 : Int64) * (own_law_x3 q0 q1 q2 q3))), .long ((own_law_x2 q0 q1 q2 q3) + ((4 : Int64) * (own_law_x3 q0 q1 q2 q3))), .long ((own_law_x2 q0 q1 q2 q3) + ((5 : Int64) * (own_law_x3 q0 q1 q2 q3))), .long ((own_law_x2 q0 q1 q2 q3) + ((6 : Int64) * (own_law_x3 q0 q1 q2 q3))), .long (0 : Int64)]) rfl (hb hby at_157) (pc' := 158) rfl ?_
                intro T114 h114 X114 e114 W114 V114_
                have N114 := Fr.snoc X114 N112 g_b100
                have Z114 : n0 ≤ h114.size := by rw [W114.size]; exact Z112
                refine o_iload X114 hx (hb hby at_158) (pc' := 160) rfl rfl ?_
                refine o_bipush X114 hx (7 : Int32) (hb hby at_160) (pc' := 162) rfl (by decide) ?_
                refine o_cmpN X114 hx (hb hby at_162) (tlt (by decide : (7 : Int32) < (8 : Int32))).2.2.2 (pc' := 165) rfl ?_
                refine o_aload X114 hx (hb hby at_165) (pc' := 167) rfl rfl rfl ?_
                refine o_bipush X114 hx (7 : Int32) (hb hby at_167) (pc' := 169) rfl (by decide) ?_
                refine o_lload X114 hx (hb hby at_169) (pc' := 171) rfl rfl ?_
                refine o_ldcJ X114 hx hZ (7 : Int64) hown (w 18 _ rfl) (hb hby at_171) (pc' := 174) rfl ?_
                refine o_lload X114 hx (hb hby at_174) (pc' := 176) rfl rfl ?_
                refine o_lmul X114 hx (hb hby at_176) (pc' := 177) rfl ?_
                refine o_ladd X114 hx (hb hby at_177) (pc' := 178) rfl ?_
                refine o_lastore X114 hx hZ 7 e114 V114_ (by decide) (by decide) (by exact (by decide : 7 < 8)) (vs' := [.long (own_law_x2 q0 q1 q2 q3), .long ((own_law_x2 q0 q1 q2 q3) + (own_law_x3 q0 q1 q2 q3)), .long ((own_law_x2 q0 q1 q2 q3) + ((2 : Int64) * (own_law_x3 q0 q1 q2 q3))), .long ((own_law_x2 q0 q1 q2 q3) + ((3 : Int64) * (own_law_x3 q0 q1 q2 q3))), .long ((own_law_x2 q0 q1 q2 q3) + ((4 : Int64) * (own_law_x3 q0 q1 q2 q3))), .long ((own_law_x2 q0 q1 q2 q3) + ((5 : Int64) * (own_law_x3 q0 q1 q2 q3))), .long ((own_law_x2 q0 q1 q2 q3) + ((6 : Int64) * (own_law_x3 q0 q1 q2 q3))), .long ((own_law_x2 q0 q1 q2 q3) + ((7 : Int64) * (own_law_x3 q0 q1 q2 q3)))]) rfl (hb hby at_178) (pc' := 179) rfl ?_
                intro T116 h116 X116 e116 W116 V116_
                have N116 := Fr.snoc X116 N114 g_b100
                have Z116 : n0 ≤ h116.size := by rw [W116.size]; exact Z114
                refine o_aload X116 hx (hb hby at_179) (pc' := 181) rfl rfl rfl ?_
                refine o_iload X116 hx (hb hby at_181) (pc' := 183) rfl rfl ?_
                refine o_callS X116 hx hZ 0 (argsL := [.ref b100, .int (own_law_x1 q0 q1 q2 q3)]) (rest := []) hown (w 3 _ rfl) (w 4 _ rfl) (w 5 _ rfl) (w 6 _ rfl) (by decide) (rm1_8 l Z a0 hw [] b100 (own_law_x2 q0 q1 q2 q3) ((own_law_x2 q0 q1 q2 q3) + (own_law_x3 q0 q1 q2 q3)) ((own_law_x2 q0 q1 q2 q3) + ((2 : Int64) * (own_law_x3 q0 q1 q2 q3))) ((own_law_x2 q0 q1 q2 q3) + ((3 : Int64) * (own_law_x3 q0 q1 q2 q3))) ((own_law_x2 q0 q1 q2 q3) + ((4 : Int64) * (own_law_x3 q0 q1 q2 q3))) ((own_law_x2 q0 q1 q2 q3) + ((5 : Int64) * (own_law_x3 q0 q1 q2 q3))) ((own_law_x2 q0 q1 q2 q3) + ((6 : Int64) * (own_law_x3 q0 q1 q2 q3))) ((own_law_x2 q0 q1 q2 q3) + ((7 : Int64) * (own_law_x3 q0 q1 q2 q3))) (own_law_x1 q0 q1 q2 q3) k100 h116 n0 Z116 V116_ (own_p q0 q1 q2 q3).1 (own_p q0 q1 q2 q3).2) (by decide) (by decide) (cells' := 1) rfl (slots' := 8) rfl (by decide) (by decide) e116 (by rw [hml]; rfl) (lenOf pd_0 rfl) rfl rfl (hb hby at_183) (pc' := 186) rfl ?_
                intro T118 v118 L118 X118 hQ118
                obtain ⟨rfl, Nq118, e118⟩ := hQ118
                have N118 := Fr.app N116 Nq118
                show Go p e below _ (T118.setTop (mkF m 186 _ [.long (own_f1_8_ret (own_law_x2 q0 q1 q2 q3) ((own_law_x2 q0 q1 q2 q3) + (own_law_x3 q0 q1 q2 q3)) ((own_law_x2 q0 q1 q2 q3) + ((2 : Int64) * (own_law_x3 q0 q1 q2 q3))) ((own_law_x2 q0 q1 q2 q3) + ((3 : Int64) * (own_law_x3 q0 q1 q2 q3))) ((own_law_x2 q0 q1 q2 q3) + ((4 : Int64) * (own_law_x3 q0 q1 q2 q3))) ((own_law_x2 q0 q1 q2 q3) + ((5 : Int64) * (own_law_x3 q0 q1 q2 q3))) ((own_law_x2 q0 q1 q2 q3) + ((6 : Int64) * (own_law_x3 q0 q1 q2 q3))) ((own_law_x2 q0 q1 q2 q3) + ((7 : Int64) * (own_law_x3 q0 q1 q2 q3))) (own_law_x1 q0 q1 q2 q3))]))
                refine o_lstore (x := (own_law_x18 q0 q1 q2 q3)) X118 hx (hb hby at_186) (pc' := 188) rfl (L' := #[.val (.int q0), .val (.int q1), .val (.long q2), .second, .val (.int q3), .val (.int (8 : Int32)), .val (.int (own_law_x1 q0 q1 q2 q3)), .val (.long (own_law_x2 q0 q1 q2 q3)), .second, .val (.long (own_law_x3 q0 q1 q2 q3)), .second, .val (.ref b100), .val (.long (own_law_x18 q0 q1 q2 q3)), .second, .unset]) rfl ?_
                refine o_iload X118 hx (hb hby at_188) (pc' := 190) rfl rfl ?_
                refine o_iload X118 hx (hb hby at_190) (pc' := 192) rfl rfl ?_
                refine o_imul X118 hx (hb hby at_192) (pc' := 193) rfl ?_
                refine o_callS X118 hx hZ 0 (argsL := [.int ((own_law_x1 q0 q1 q2 q3) * (8 : Int32))]) (rest := []) hown (w 9 _ rfl) (w 10 _ rfl) (w 11 _ rfl) (w 12 _ rfl) (by decide) (rm2 l Z a0 hw [] ((own_law_x1 q0 q1 q2 q3) * (8 : Int32)) h116 n0 Z116 ) (by decide) (by decide) (cells' := 1) rfl (slots' := 8) rfl (by decide) (by decide) e118 (by rw [hml]; rfl) (lenOf pd_1 rfl) rfl rfl (hb hby at_193) (pc' := 196) rfl ?_
                intro T119 v119 L119 X119 hQ119
                obtain ⟨rfl, Nq119, e119⟩ := hQ119
                have N119 := Fr.app N118 Nq119
                show Go p e below _ (T119.setTop (mkF m 196 _ [.int (own_f2_ret ((own_law_x1 q0 q1 q2 q3) * (8 : Int32)))]))
                refine o_istore (x := (own_law_x19 q0 q1 q2 q3)) X119 hx (hb hby at_196) (pc' := 198) rfl (L' := #[.val (.int q0), .val (.int q1), .val (.long q2), .second, .val (.int q3), .val (.int (8 : Int32)), .val (.int (own_law_x1 q0 q1 q2 q3)), .val (.long (own_law_x2 q0 q1 q2 q3)), .second, .val (.long (own_law_x3 q0 q1 q2 q3)), .second, .val (.ref b100), .val (.long (own_law_x18 q0 q1 q2 q3)), .second, .val (.int (own_law_x19 q0 q1 q2 q3))]) rfl ?_
                refine o_lload X119 hx (hb hby at_198) (pc' := 200) rfl rfl ?_
                refine o_lload X119 hx (hb hby at_200) (pc' := 202) rfl rfl ?_
                refine o_iload X119 hx (hb hby at_202) (pc' := 204) rfl rfl ?_
                refine o_iconst X119 hx (1 : Int32) (hb hby at_204) (pc' := 205) rfl (by decide) ?_
                refine o_isub X119 hx (hb hby at_205) (pc' := 206) rfl ?_
                refine o_i2l X119 hx (hb hby at_206) (pc' := 207) rfl ?_
                refine o_lload X119 hx (hb hby at_207) (pc' := 209) rfl rfl ?_
                refine o_lmul X119 hx (hb hby at_209) (pc' := 210) rfl ?_
                refine o_ladd X119 hx (hb hby at_210) (pc' := 211) rfl ?_
                refine o_lcmp X119 hx (hb hby at_211) (pc' := 212) rfl ?_
                by_cases hc212_120 : (own_law_x18 q0 q1 q2 q3) = ((own_law_x2 q0 q1 q2 q3) + ((((own_law_x19 q0 q1 q2 q3) - (1 : Int32)).toInt64) * (own_law_x3 q0 q1 q2 q3)))
                · refine o_ifN X119 hx (hb hby at_212) (teqL hc212_120).2 (pc' := 215) rfl ?_
                  refine o_iconst X119 hx (1 : Int32) (hb hby at_215) (pc' := 216) rfl (by decide) ?_
                  refine o_goto X119 hx (hb hby at_216) (by decide) (pc' := 220) (by decide) ?_
                  rw [← hOWE]
                  exact o_retZ X119 hx rfl hlk hrt (hb hby at_220) (by decide) (by decide) (by rw [e119]; exact ⟨(by rw [own_law_ret, if_neg hs1, if_neg hs9, if_neg hs19, if_neg hs31, if_neg hs45, if_neg hs61, if_neg hs79, if_pos hc212_120]), N119⟩)
                · refine o_ifY X119 hx (hb hby at_212) (feqL hc212_120).2 (by decide) (pc' := 219) (by decide) ?_
                  refine o_iconst X119 hx (0 : Int32) (hb hby at_219) (pc' := 220) rfl (by decide) ?_
                  rw [← hOWE]
                  exact o_retZ X119 hx rfl hlk hrt (hb hby at_220) (by decide) (by decide) (by rw [e119]; exact ⟨(by rw [own_law_ret, if_neg hs1, if_neg hs9, if_neg hs19, if_neg hs31, if_neg hs45, if_neg hs61, if_neg hs79, if_neg hc212_120]), N119⟩)
theorem own_rank (p k : Int32) (N : Int) (hk : k.toInt = N) (h1 : ¬ p < (1 : Int32)) (h2 : ¬ (100 : Int32) < p) (h3 : 1 ≤ N) (h4 : N ≤ 8) : (own_f2_ret (p * k)).toInt = (p.toInt * N + 99) / 100 := by
  rw [Int32.lt_iff_toInt_lt, show (1 : Int32).toInt = 1 from rfl] at h1
  rw [Int32.lt_iff_toInt_lt, show (100 : Int32).toInt = 100 from by decide] at h2
  have m1 : 1 * N ≤ p.toInt * N := Int.mul_le_mul_of_nonneg_right (by omega) (by omega)
  have m2 : p.toInt * N ≤ 100 * N := Int.mul_le_mul_of_nonneg_right (by omega) (by omega)
  have a1 := c_imul p k
  rw [hk] at a1
  have r1 := rng32 (p * k)
  generalize p.toInt * N = z at *
  unfold own_f2_ret
  simp only [Int32.lt_iff_toInt_lt, show (100 : Int32).toInt = 100 from by decide, show (200 : Int32).toInt = 200 from by decide, show (300 : Int32).toInt = 300 from by decide, show (400 : Int32).toInt = 400 from by decide, show (500 : Int32).toInt = 500 from by decide, show (600 : Int32).toInt = 600 from by decide, show (700 : Int32).toInt = 700 from by decide]
  repeat' split
  all_goals simp only [show (1 : Int32).toInt = 1 from by decide, show (2 : Int32).toInt = 2 from by decide, show (3 : Int32).toInt = 3 from by decide, show (4 : Int32).toInt = 4 from by decide, show (5 : Int32).toInt = 5 from by decide, show (6 : Int32).toInt = 6 from by decide, show (7 : Int32).toInt = 7 from by decide, show (8 : Int32).toInt = 8 from by decide]
  all_goals omega
theorem own_at (b s : Int64) (j : Int32) (J : Nat) (hj : j.toInt = J) : j.toNatClampNeg = J := by rw [Int32.toNatClampNeg, hj]; rfl
theorem own_s1 (b s : Int64) (p : Int32) (h1 : ¬ p < (1 : Int32)) (h2 : ¬ (100 : Int32) < p) : own_f1_1_ret b p = b + ((own_f2_ret (p * (1 : Int32)) - (1 : Int32)).toInt64 * s) := by
  obtain ⟨e, m1, m2⟩ := own_ixv (1 : Int64) 1 p (by decide) h1 h2 (by decide) (by decide)
  have f := own_rank p (1 : Int32) 1 (by decide) h1 h2 (by decide) (by decide)
  have g := c_isub (own_f2_ret (p * (1 : Int32))) 1
  have g' := rng32 (own_f2_ret (p * (1 : Int32)) - 1)
  rw [show (1 : Int32).toInt = 1 from rfl] at g
  have same : own_f2_ret (p * (1 : Int32)) - 1 = own_ix (1 : Int64) p := by
    apply Int32.toInt_inj.mp
    generalize p.toInt * 1 = z at *
    omega
  rw [same]
  unfold own_f1_1_ret
  generalize own_ix (1 : Int64) p = j at *
  have hj : j = (0 : Int32) := by
    simp only [← Int32.toInt_inj, show (0 : Int32).toInt = 0 from rfl]
    generalize p.toInt * 1 = z at *
    omega
  rcases hj with rfl
  · show b = b + ((0 : Int64) * s)
    rw [Int64.zero_mul, Int64.add_zero]
theorem own_s2 (b s : Int64) (p : Int32) (h1 : ¬ p < (1 : Int32)) (h2 : ¬ (100 : Int32) < p) : own_f1_2_ret b (b + s) p = b + ((own_f2_ret (p * (2 : Int32)) - (1 : Int32)).toInt64 * s) := by
  obtain ⟨e, m1, m2⟩ := own_ixv (2 : Int64) 2 p (by decide) h1 h2 (by decide) (by decide)
  have f := own_rank p (2 : Int32) 2 (by decide) h1 h2 (by decide) (by decide)
  have g := c_isub (own_f2_ret (p * (2 : Int32))) 1
  have g' := rng32 (own_f2_ret (p * (2 : Int32)) - 1)
  rw [show (1 : Int32).toInt = 1 from rfl] at g
  have same : own_f2_ret (p * (2 : Int32)) - 1 = own_ix (2 : Int64) p := by
    apply Int32.toInt_inj.mp
    generalize p.toInt * 2 = z at *
    omega
  rw [same]
  unfold own_f1_2_ret
  generalize own_ix (2 : Int64) p = j at *
  have hj : j = (0 : Int32) ∨ j = (1 : Int32) := by
    simp only [← Int32.toInt_inj, show (0 : Int32).toInt = 0 from rfl, show (1 : Int32).toInt = 1 from rfl]
    generalize p.toInt * 2 = z at *
    omega
  rcases hj with rfl | rfl
  · show b = b + ((0 : Int64) * s)
    rw [Int64.zero_mul, Int64.add_zero]
  · show (b + s) = b + ((1 : Int64) * s)
    rw [Int64.one_mul]
theorem own_s3 (b s : Int64) (p : Int32) (h1 : ¬ p < (1 : Int32)) (h2 : ¬ (100 : Int32) < p) : own_f1_3_ret b (b + s) (b + ((2 : Int64) * s)) p = b + ((own_f2_ret (p * (3 : Int32)) - (1 : Int32)).toInt64 * s) := by
  obtain ⟨e, m1, m2⟩ := own_ixv (3 : Int64) 3 p (by decide) h1 h2 (by decide) (by decide)
  have f := own_rank p (3 : Int32) 3 (by decide) h1 h2 (by decide) (by decide)
  have g := c_isub (own_f2_ret (p * (3 : Int32))) 1
  have g' := rng32 (own_f2_ret (p * (3 : Int32)) - 1)
  rw [show (1 : Int32).toInt = 1 from rfl] at g
  have same : own_f2_ret (p * (3 : Int32)) - 1 = own_ix (3 : Int64) p := by
    apply Int32.toInt_inj.mp
    generalize p.toInt * 3 = z at *
    omega
  rw [same]
  unfold own_f1_3_ret
  generalize own_ix (3 : Int64) p = j at *
  have hj : j = (0 : Int32) ∨ j = (1 : Int32) ∨ j = (2 : Int32) := by
    simp only [← Int32.toInt_inj, show (0 : Int32).toInt = 0 from rfl, show (1 : Int32).toInt = 1 from rfl, show (2 : Int32).toInt = 2 from rfl]
    generalize p.toInt * 3 = z at *
    omega
  rcases hj with rfl | rfl | rfl
  · show b = b + ((0 : Int64) * s)
    rw [Int64.zero_mul, Int64.add_zero]
  · show (b + s) = b + ((1 : Int64) * s)
    rw [Int64.one_mul]
  · show (b + ((2 : Int64) * s)) = b + ((2 : Int64) * s)
    rfl
theorem own_s4 (b s : Int64) (p : Int32) (h1 : ¬ p < (1 : Int32)) (h2 : ¬ (100 : Int32) < p) : own_f1_4_ret b (b + s) (b + ((2 : Int64) * s)) (b + ((3 : Int64) * s)) p = b + ((own_f2_ret (p * (4 : Int32)) - (1 : Int32)).toInt64 * s) := by
  obtain ⟨e, m1, m2⟩ := own_ixv (4 : Int64) 4 p (by decide) h1 h2 (by decide) (by decide)
  have f := own_rank p (4 : Int32) 4 (by decide) h1 h2 (by decide) (by decide)
  have g := c_isub (own_f2_ret (p * (4 : Int32))) 1
  have g' := rng32 (own_f2_ret (p * (4 : Int32)) - 1)
  rw [show (1 : Int32).toInt = 1 from rfl] at g
  have same : own_f2_ret (p * (4 : Int32)) - 1 = own_ix (4 : Int64) p := by
    apply Int32.toInt_inj.mp
    generalize p.toInt * 4 = z at *
    omega
  rw [same]
  unfold own_f1_4_ret
  generalize own_ix (4 : Int64) p = j at *
  have hj : j = (0 : Int32) ∨ j = (1 : Int32) ∨ j = (2 : Int32) ∨ j = (3 : Int32) := by
    simp only [← Int32.toInt_inj, show (0 : Int32).toInt = 0 from rfl, show (1 : Int32).toInt = 1 from rfl, show (2 : Int32).toInt = 2 from rfl, show (3 : Int32).toInt = 3 from rfl]
    generalize p.toInt * 4 = z at *
    omega
  rcases hj with rfl | rfl | rfl | rfl
  · show b = b + ((0 : Int64) * s)
    rw [Int64.zero_mul, Int64.add_zero]
  · show (b + s) = b + ((1 : Int64) * s)
    rw [Int64.one_mul]
  · show (b + ((2 : Int64) * s)) = b + ((2 : Int64) * s)
    rfl
  · show (b + ((3 : Int64) * s)) = b + ((3 : Int64) * s)
    rfl
theorem own_s5 (b s : Int64) (p : Int32) (h1 : ¬ p < (1 : Int32)) (h2 : ¬ (100 : Int32) < p) : own_f1_5_ret b (b + s) (b + ((2 : Int64) * s)) (b + ((3 : Int64) * s)) (b + ((4 : Int64) * s)) p = b + ((own_f2_ret (p * (5 : Int32)) - (1 : Int32)).toInt64 * s) := by
  obtain ⟨e, m1, m2⟩ := own_ixv (5 : Int64) 5 p (by decide) h1 h2 (by decide) (by decide)
  have f := own_rank p (5 : Int32) 5 (by decide) h1 h2 (by decide) (by decide)
  have g := c_isub (own_f2_ret (p * (5 : Int32))) 1
  have g' := rng32 (own_f2_ret (p * (5 : Int32)) - 1)
  rw [show (1 : Int32).toInt = 1 from rfl] at g
  have same : own_f2_ret (p * (5 : Int32)) - 1 = own_ix (5 : Int64) p := by
    apply Int32.toInt_inj.mp
    generalize p.toInt * 5 = z at *
    omega
  rw [same]
  unfold own_f1_5_ret
  generalize own_ix (5 : Int64) p = j at *
  have hj : j = (0 : Int32) ∨ j = (1 : Int32) ∨ j = (2 : Int32) ∨ j = (3 : Int32) ∨ j = (4 : Int32) := by
    simp only [← Int32.toInt_inj, show (0 : Int32).toInt = 0 from rfl, show (1 : Int32).toInt = 1 from rfl, show (2 : Int32).toInt = 2 from rfl, show (3 : Int32).toInt = 3 from rfl, show (4 : Int32).toInt = 4 from rfl]
    generalize p.toInt * 5 = z at *
    omega
  rcases hj with rfl | rfl | rfl | rfl | rfl
  · show b = b + ((0 : Int64) * s)
    rw [Int64.zero_mul, Int64.add_zero]
  · show (b + s) = b + ((1 : Int64) * s)
    rw [Int64.one_mul]
  · show (b + ((2 : Int64) * s)) = b + ((2 : Int64) * s)
    rfl
  · show (b + ((3 : Int64) * s)) = b + ((3 : Int64) * s)
    rfl
  · show (b + ((4 : Int64) * s)) = b + ((4 : Int64) * s)
    rfl
theorem own_s6 (b s : Int64) (p : Int32) (h1 : ¬ p < (1 : Int32)) (h2 : ¬ (100 : Int32) < p) : own_f1_6_ret b (b + s) (b + ((2 : Int64) * s)) (b + ((3 : Int64) * s)) (b + ((4 : Int64) * s)) (b + ((5 : Int64) * s)) p = b + ((own_f2_ret (p * (6 : Int32)) - (1 : Int32)).toInt64 * s) := by
  obtain ⟨e, m1, m2⟩ := own_ixv (6 : Int64) 6 p (by decide) h1 h2 (by decide) (by decide)
  have f := own_rank p (6 : Int32) 6 (by decide) h1 h2 (by decide) (by decide)
  have g := c_isub (own_f2_ret (p * (6 : Int32))) 1
  have g' := rng32 (own_f2_ret (p * (6 : Int32)) - 1)
  rw [show (1 : Int32).toInt = 1 from rfl] at g
  have same : own_f2_ret (p * (6 : Int32)) - 1 = own_ix (6 : Int64) p := by
    apply Int32.toInt_inj.mp
    generalize p.toInt * 6 = z at *
    omega
  rw [same]
  unfold own_f1_6_ret
  generalize own_ix (6 : Int64) p = j at *
  have hj : j = (0 : Int32) ∨ j = (1 : Int32) ∨ j = (2 : Int32) ∨ j = (3 : Int32) ∨ j = (4 : Int32) ∨ j = (5 : Int32) := by
    simp only [← Int32.toInt_inj, show (0 : Int32).toInt = 0 from rfl, show (1 : Int32).toInt = 1 from rfl, show (2 : Int32).toInt = 2 from rfl, show (3 : Int32).toInt = 3 from rfl, show (4 : Int32).toInt = 4 from rfl, show (5 : Int32).toInt = 5 from rfl]
    generalize p.toInt * 6 = z at *
    omega
  rcases hj with rfl | rfl | rfl | rfl | rfl | rfl
  · show b = b + ((0 : Int64) * s)
    rw [Int64.zero_mul, Int64.add_zero]
  · show (b + s) = b + ((1 : Int64) * s)
    rw [Int64.one_mul]
  · show (b + ((2 : Int64) * s)) = b + ((2 : Int64) * s)
    rfl
  · show (b + ((3 : Int64) * s)) = b + ((3 : Int64) * s)
    rfl
  · show (b + ((4 : Int64) * s)) = b + ((4 : Int64) * s)
    rfl
  · show (b + ((5 : Int64) * s)) = b + ((5 : Int64) * s)
    rfl
theorem own_s7 (b s : Int64) (p : Int32) (h1 : ¬ p < (1 : Int32)) (h2 : ¬ (100 : Int32) < p) : own_f1_7_ret b (b + s) (b + ((2 : Int64) * s)) (b + ((3 : Int64) * s)) (b + ((4 : Int64) * s)) (b + ((5 : Int64) * s)) (b + ((6 : Int64) * s)) p = b + ((own_f2_ret (p * (7 : Int32)) - (1 : Int32)).toInt64 * s) := by
  obtain ⟨e, m1, m2⟩ := own_ixv (7 : Int64) 7 p (by decide) h1 h2 (by decide) (by decide)
  have f := own_rank p (7 : Int32) 7 (by decide) h1 h2 (by decide) (by decide)
  have g := c_isub (own_f2_ret (p * (7 : Int32))) 1
  have g' := rng32 (own_f2_ret (p * (7 : Int32)) - 1)
  rw [show (1 : Int32).toInt = 1 from rfl] at g
  have same : own_f2_ret (p * (7 : Int32)) - 1 = own_ix (7 : Int64) p := by
    apply Int32.toInt_inj.mp
    generalize p.toInt * 7 = z at *
    omega
  rw [same]
  unfold own_f1_7_ret
  generalize own_ix (7 : Int64) p = j at *
  have hj : j = (0 : Int32) ∨ j = (1 : Int32) ∨ j = (2 : Int32) ∨ j = (3 : Int32) ∨ j = (4 : Int32) ∨ j = (5 : Int32) ∨ j = (6 : Int32) := by
    simp only [← Int32.toInt_inj, show (0 : Int32).toInt = 0 from rfl, show (1 : Int32).toInt = 1 from rfl, show (2 : Int32).toInt = 2 from rfl, show (3 : Int32).toInt = 3 from rfl, show (4 : Int32).toInt = 4 from rfl, show (5 : Int32).toInt = 5 from rfl, show (6 : Int32).toInt = 6 from rfl]
    generalize p.toInt * 7 = z at *
    omega
  rcases hj with rfl | rfl | rfl | rfl | rfl | rfl | rfl
  · show b = b + ((0 : Int64) * s)
    rw [Int64.zero_mul, Int64.add_zero]
  · show (b + s) = b + ((1 : Int64) * s)
    rw [Int64.one_mul]
  · show (b + ((2 : Int64) * s)) = b + ((2 : Int64) * s)
    rfl
  · show (b + ((3 : Int64) * s)) = b + ((3 : Int64) * s)
    rfl
  · show (b + ((4 : Int64) * s)) = b + ((4 : Int64) * s)
    rfl
  · show (b + ((5 : Int64) * s)) = b + ((5 : Int64) * s)
    rfl
  · show (b + ((6 : Int64) * s)) = b + ((6 : Int64) * s)
    rfl
theorem own_s8 (b s : Int64) (p : Int32) (h1 : ¬ p < (1 : Int32)) (h2 : ¬ (100 : Int32) < p) : own_f1_8_ret b (b + s) (b + ((2 : Int64) * s)) (b + ((3 : Int64) * s)) (b + ((4 : Int64) * s)) (b + ((5 : Int64) * s)) (b + ((6 : Int64) * s)) (b + ((7 : Int64) * s)) p = b + ((own_f2_ret (p * (8 : Int32)) - (1 : Int32)).toInt64 * s) := by
  obtain ⟨e, m1, m2⟩ := own_ixv (8 : Int64) 8 p (by decide) h1 h2 (by decide) (by decide)
  have f := own_rank p (8 : Int32) 8 (by decide) h1 h2 (by decide) (by decide)
  have g := c_isub (own_f2_ret (p * (8 : Int32))) 1
  have g' := rng32 (own_f2_ret (p * (8 : Int32)) - 1)
  rw [show (1 : Int32).toInt = 1 from rfl] at g
  have same : own_f2_ret (p * (8 : Int32)) - 1 = own_ix (8 : Int64) p := by
    apply Int32.toInt_inj.mp
    generalize p.toInt * 8 = z at *
    omega
  rw [same]
  unfold own_f1_8_ret
  generalize own_ix (8 : Int64) p = j at *
  have hj : j = (0 : Int32) ∨ j = (1 : Int32) ∨ j = (2 : Int32) ∨ j = (3 : Int32) ∨ j = (4 : Int32) ∨ j = (5 : Int32) ∨ j = (6 : Int32) ∨ j = (7 : Int32) := by
    simp only [← Int32.toInt_inj, show (0 : Int32).toInt = 0 from rfl, show (1 : Int32).toInt = 1 from rfl, show (2 : Int32).toInt = 2 from rfl, show (3 : Int32).toInt = 3 from rfl, show (4 : Int32).toInt = 4 from rfl, show (5 : Int32).toInt = 5 from rfl, show (6 : Int32).toInt = 6 from rfl, show (7 : Int32).toInt = 7 from rfl]
    generalize p.toInt * 8 = z at *
    omega
  rcases hj with rfl | rfl | rfl | rfl | rfl | rfl | rfl | rfl
  · show b = b + ((0 : Int64) * s)
    rw [Int64.zero_mul, Int64.add_zero]
  · show (b + s) = b + ((1 : Int64) * s)
    rw [Int64.one_mul]
  · show (b + ((2 : Int64) * s)) = b + ((2 : Int64) * s)
    rfl
  · show (b + ((3 : Int64) * s)) = b + ((3 : Int64) * s)
    rfl
  · show (b + ((4 : Int64) * s)) = b + ((4 : Int64) * s)
    rfl
  · show (b + ((5 : Int64) * s)) = b + ((5 : Int64) * s)
    rfl
  · show (b + ((6 : Int64) * s)) = b + ((6 : Int64) * s)
    rfl
  · show (b + ((7 : Int64) * s)) = b + ((7 : Int64) * s)
    rfl
theorem own_main (q0 q1 : Int32) (q2 : Int64) (q3 : Int32) : own_law_ret q0 q1 q2 q3 = 1 := by
  have hp := own_p q0 q1 q2 q3
  unfold own_law_ret own_law_x4 own_law_x5 own_law_x6 own_law_x7 own_law_x8 own_law_x9 own_law_x10 own_law_x11 own_law_x12 own_law_x13 own_law_x14 own_law_x15 own_law_x16 own_law_x17 own_law_x18 own_law_x19
  rw [own_s1 _ (own_law_x3 q0 q1 q2 q3) _ hp.1 hp.2, own_s2 _ (own_law_x3 q0 q1 q2 q3) _ hp.1 hp.2, own_s3 _ (own_law_x3 q0 q1 q2 q3) _ hp.1 hp.2, own_s4 _ (own_law_x3 q0 q1 q2 q3) _ hp.1 hp.2, own_s5 _ (own_law_x3 q0 q1 q2 q3) _ hp.1 hp.2, own_s6 _ (own_law_x3 q0 q1 q2 q3) _ hp.1 hp.2, own_s7 _ (own_law_x3 q0 q1 q2 q3) _ hp.1 hp.2, own_s8 _ (own_law_x3 q0 q1 q2 q3) _ hp.1 hp.2]
  simp only [if_true, ite_self]
set_option maxRecDepth 65536 in
set_option maxHeartbeats 40000000 in
theorem comes_1 {Post : Tables → Env → Array Value → State → Outcome → State → Prop} (hpost : ∀ tb e args s v u, (limb_1_1.after args s (.returned v) u = true ∧ limb_1_2.after args s (.returned v) u = true ∧ True) → FrameEnd s (.returned v) u (Jvm.fieldLocs frame_1_writes args s ++ Jvm.arrayLocs frame_1_arrays args s ++ Jvm.staticLocs frame_1_statics s) 16 128 → Post tb e args s (.returned v) u) :
    ArmFor flags0 classFile x code maxLocals ret World_1 tables_1 room_1 Calls_1 rest_1 Pre_1 Post := by
  intro l hfl _ _ p e ha hc hk s m args below hf hA hF happ hP
  obtain ⟨hcalls, hrest, hpre⟩ := hP
  obtain ⟨-, -, -, hnamed, -, -, -, hat⟩ := (Spec.applies_iff hf).mp happ
  obtain ⟨hg, hn⟩ := and_e (Cond.before_iff.mp (show (Jvm.Cond.and given_1 narrow_1).before args s = true from hpre))
  obtain ⟨hcnt, r0⟩ := and_e hg
  obtain ⟨a0, r1⟩ := and_e r0
  obtain ⟨a1, r2⟩ := and_e r1
  obtain ⟨a2, r3⟩ := and_e r2
  obtain ⟨w0, w1, w2, w3, rfl⟩ : ∃ w0 w1 w2 w3 : Value, args = #[w0, w1, w2, w3] := by
    have hs : args.size = 4 := by simpa [Cond.value, given_1] using hcnt
    obtain ⟨L⟩ := args
    match L, hs with
    | [w0, w1, w2, w3], _ => exact ⟨w0, w1, w2, w3, rfl⟩
  have hw := fun d (hd : d ∈ tables_1) => atoms_spec (ws := Jvm.Cond.code x code maxLocals ret :: tables_1) hat d (List.mem_cons_of_mem _ hd)
  obtain ⟨q0, y0⟩ := is_v a0
  obtain rfl : w0 = (.int q0) := Option.some.inj y0
  obtain ⟨q1, y1⟩ := is_v a1
  obtain rfl : w1 = (.int q1) := Option.some.inj y1
  obtain ⟨q2, y2⟩ := isL_v a2
  obtain rfl : w2 = (.long q2) := Option.some.inj y2
  obtain ⟨q3, y3⟩ := is_v r3
  obtain rfl : w3 = (.int q3) := Option.some.inj y3
  obtain ⟨n, o, h1, h2, h3, _, L, rfl, ⟨rfl, N⟩, hq⟩ := rm0 l s _ hw tables_1 q0 q1 q2 q3 s.heap s.heap.size (Nat.le_refl _) p e ha hc hk s m _ below hf ((Spec.applies_iff_loose hf).mp happ).1 ⟨rfl, State.Warmed39.refl s, rfl⟩ trivial
  refine ⟨n, _, h1, h2, h3, hpost _ _ _ _ _ _ ⟨Cond.after_iff.mpr rfl, Cond.after_iff.mpr (eq_i res_at (Term.int_eval (1)) (congrArg Value.int (own_main q0 q1 q2 q3))), trivial⟩ ⟨hq.1, hq.2.1, (hq.2.2.sift fun y hy => Or.inr (N y hy)).mono (by decide) (by decide)⟩⟩
theorem main_1_1 : Claimed_1_1 := comes_1 fun _ _ _ _ _ _ h hF => ⟨h.1, hF⟩
theorem main_1_2 : Claimed_1_2 := comes_1 fun _ _ _ _ _ _ h hF => ⟨h.2.1, hF⟩
end Jvm.Pilot.@@N@@
namespace Jvm.Pilot.@@N@@
open Jvm Jvm.ClassFile Sem Op Lib Jvm.Free Jvm.Stand Jvm.Pilot.@@N@@.Jvm.D
/-! MADE BY PROGRAM (witnessworld.py) out of the Statement's table words and the real class files: 11 classes; the members and pool entries that the words name. The judged class is class 1, her method 1. -/
namespace start1
open Jvm.ClassFile
def u (s : String) : CpInfo := .utf8 (stringToUtf16 s)
/-- a pool by its gaps: so many unusable entries, then the entry; so many at the end -/
def gap : Nat → List CpInfo → List CpInfo
  | 0, r => r
  | n + 1, r => .unusable :: gap n r
def poolList (es : List (Nat × CpInfo)) (last : Nat) : List CpInfo := es.foldr (fun e r => gap e.1 (e.2 :: r)) (gap last [])
def pool (es : List (Nat × CpInfo)) (last : Nat) : Array CpInfo := ⟨poolList es last⟩
def fileOf (pool : Array CpInfo) (this : Nat) (attrs : Array Attribute := #[]) (ms : Array MethodInfo := #[]) (fl : Nat := 33) (sup : Nat := 0) (ifs : Array Nat := #[]) (fds : Array FieldInfo := #[]) : ClassFile where
  minorVersion := 0
  majorVersion := 65
  constantPool := pool
  accessFlags := fl
  thisClass := this
  superClass := sup
  interfaces := ifs
  fields := fds
  methods := ms
  attributes := attrs
def plain (name : String) (sup : Option ClassId) : Class where
  name := name
  kind := .ordinary
  loader := none
  accessFlags := 33
  super := sup
  interfaces := #[]
  cf := none
  fields := #[]
  methods := #[]
  instanceTypes := #[]
  staticTypes := #[]
  resolved := #[]
  callSites := []
  init := .initialized
  statics := none
  mirror := none

def pool0 : Array CpInfo := pool [(5, u "<init>"), (0, u "()V"), (1, .class_ 10), (1, u "java/lang/Object")] 113

def k0m0 : Method := { name := "<init>", desc := "()V", sig := { parameters := [], returnType := none }, accessFlags := 1, code := none }
/-- java/lang/Object -/
def k0 : Class := { plain "java/lang/Object" none with
  accessFlags := 33
  interfaces := #[]
  cf := some (fileOf pool0 8 #[] #[{ accessFlags := 1, nameIndex := 5, descriptorIndex := 6, attributes := #[] }] 33 0 #[] #[])
  fields := #[]
  methods := #[k0m0]
  instanceTypes := #[]
  staticTypes := #[]
  resolved := Array.replicate 124 none
  statics := none }

def pool1 : Array CpInfo := pool [(2, .class_ 4), (1, u "java/lang/Object"), (0, u "<init>"), (0, u "()V"), (0, .integer 2147483647), (0, .integer 1048575), (0, .long 2), (1, .long 3), (1, .long 4), (1, .long 5), (1, .long 6), (1, .long 7), (1, .methodref 22 23), (0, .class_ 24), (0, .nameAndType 25 26), (0, u "com/example/seshat/seshat/util/Percentiles"), (0, u "nearestRank"), (0, u "([JI)J"), (0, .methodref 28 29), (0, .class_ 30), (0, .nameAndType 31 32), (0, u "com/example/seshat/seshat/util/PercentilesNearestRankPinLaw"), (0, u "expectedRank"), (0, u "(I)I"), (2, u "law"), (0, u "(IIJI)Z")] 5

def k1m0 : Method := { name := "<init>", desc := "()V", sig := { parameters := [], returnType := none }, accessFlags := 2, code := none }
def k1c1 : Code := { maxStack := 8, maxLocals := 15, code := code, exceptionTable := #[], attributes := #[] }
def k1m1 : Method := { name := "law", desc := "(IIJI)Z", sig := { parameters := [.int, .int, .long, .int], returnType := some .boolean }, accessFlags := 9, code := some k1c1 }
def k1c2 : Code := { maxStack := 2, maxLocals := 1, code := method_3_code, exceptionTable := #[], attributes := #[] }
def k1m2 : Method := { name := "expectedRank", desc := "(I)I", sig := { parameters := [.int], returnType := some .int }, accessFlags := 10, code := some k1c2 }
/-- com/example/seshat/seshat/util/PercentilesNearestRankPinLaw -/
def k1 : Class := { plain "com/example/seshat/seshat/util/PercentilesNearestRankPinLaw" (some 0) with
  accessFlags := 49
  interfaces := #[]
  cf := some (fileOf pool1 28 #[] #[{ accessFlags := 2, nameIndex := 5, descriptorIndex := 6, attributes := #[] }, { accessFlags := 9, nameIndex := 35, descriptorIndex := 36, attributes := #[] }, { accessFlags := 10, nameIndex := 31, descriptorIndex := 32, attributes := #[] }] 49 2 #[] #[])
  fields := #[]
  methods := #[k1m0, k1m1, k1m2]
  instanceTypes := #[]
  staticTypes := #[]
  resolved := Array.replicate 42 none
  statics := none }

def pool2 : Array CpInfo := pool [(2, .class_ 4), (1, u "java/lang/Object"), (0, u "<init>"), (0, u "()V"), (11, .long 99), (1, .long 100), (1, .class_ 23), (0, u "com/example/seshat/seshat/util/Percentiles"), (2, u "nearestRank"), (0, u "([JI)J")] 18

def k2m0 : Method := { name := "<init>", desc := "()V", sig := { parameters := [], returnType := none }, accessFlags := 2, code := none }
def k2c1 : Code := { maxStack := 4, maxLocals := 4, code := prog_38_method_2_code, exceptionTable := #[], attributes := #[] }
def k2m1 : Method := { name := "nearestRank", desc := "([JI)J", sig := { parameters := [(.array .long), .int], returnType := some .long }, accessFlags := 9, code := some k2c1 }
/-- com/example/seshat/seshat/util/Percentiles -/
def k2 : Class := { plain "com/example/seshat/seshat/util/Percentiles" (some 0) with
  accessFlags := 33
  interfaces := #[]
  cf := some (fileOf pool2 22 #[] #[{ accessFlags := 2, nameIndex := 5, descriptorIndex := 6, attributes := #[] }, { accessFlags := 9, nameIndex := 26, descriptorIndex := 27, attributes := #[] }] 33 2 #[] #[])
  fields := #[]
  methods := #[k2m0, k2m1]
  instanceTypes := #[]
  staticTypes := #[]
  resolved := Array.replicate 46 none
  statics := none }

def pool3 : Array CpInfo := pool [(1, u "java/lang/Cloneable"), (0, .class_ 1), (0, u "java/lang/Object"), (0, .class_ 3)] 3

/-- java/lang/Cloneable -/
def k3 : Class := { plain "java/lang/Cloneable" (some 0) with
  accessFlags := 1537
  interfaces := #[]
  cf := some (fileOf pool3 2 #[] #[] 1537 4 #[] #[])
  fields := #[]
  methods := #[]
  instanceTypes := #[]
  staticTypes := #[]
  resolved := Array.replicate 8 none
  statics := none }

def pool4 : Array CpInfo := pool [(1, u "java/io/Serializable"), (0, .class_ 1), (0, u "java/lang/Object"), (0, .class_ 3)] 3

/-- java/io/Serializable -/
def k4 : Class := { plain "java/io/Serializable" (some 0) with
  accessFlags := 1537
  interfaces := #[]
  cf := some (fileOf pool4 2 #[] #[] 1537 4 #[] #[])
  fields := #[]
  methods := #[]
  instanceTypes := #[]
  staticTypes := #[]
  resolved := Array.replicate 8 none
  statics := none }

/-- the primitive byte -/
def k5 : Class := { plain "byte" none with kind := .primitive 'B', accessFlags := 0x411 }
/-- [B -/
def k6 : Class := { plain "[B" (some 0) with kind := .array 5 .byte, interfaces := #[3, 4], accessFlags := 1041 }

/-- the primitive int -/
def k7 : Class := { plain "int" none with kind := .primitive 'I', accessFlags := 0x411 }
/-- [I -/
def k8 : Class := { plain "[I" (some 0) with kind := .array 7 .int, interfaces := #[3, 4], accessFlags := 1041 }

/-- the primitive long -/
def k9 : Class := { plain "long" none with kind := .primitive 'J', accessFlags := 0x411 }
/-- [J -/
def k10 : Class := { plain "[J" (some 0) with kind := .array 9 .long, interfaces := #[3, 4], accessFlags := 1041 }

def heap : Heap := #[]
def classes : Array Class := #[k0, k1, k2, k3, k4, k5, k6, k7, k8, k9, k10]
def interned : List (Array UInt16 × Addr) := []
def slotsUsed : Nat := 0
def theMethod : MethodId := ⟨1, 1⟩
def args0 : Array Value := #[.int 5, .int 7, .long 5, .int 7]
def aboutOver (below : List Frame) : State where
  vm := { classes := classes, interned := interned.toArray }
  heap := heap
  slotsUsed := slotsUsed
  threads := #[{ frames := .invoking theMethod args0 :: below }]
def below0 : List Frame := [.native { method := ⟨0, 0⟩, args := #[] }]
def about1 : State := aboutOver below0
def p0 : Program := .bare "" "" ""
def e0 : Env := launch0.env 0 0 0
theorem w_frames : about1.frames = Frame.invoking theMethod args0 :: below0 := rfl
set_option maxRecDepth 65536 in
theorem w_args : argsFit about1.vm theMethod args0 = true := by decide +kernel
set_option maxRecDepth 65536 in
theorem w_heap : heapFits about1 = true := by decide +kernel
set_option maxRecDepth 65536 in
theorem w_runnable : about1.curStatus? = some .runnable := by decide +kernel
set_option maxRecDepth 65536 in
theorem w_alone : about1.alone = true := by decide +kernel
set_option maxRecDepth 65536 in
theorem w_named : about1.methodNamed? x = some theMethod := by decide +kernel
set_option maxRecDepth 65536 in
theorem w_hears : about1.hears theMethod below0 = true := by decide +kernel
set_option maxRecDepth 65536 in
theorem w_ripe : about1.ripe theMethod args0 below0 = true := by decide +kernel
theorem w_running : about1.status = .running := rfl
set_option maxRecDepth 65536 in
theorem w_room : about1.hasRoom e0.platform room_1 = true :=
  launch0.hasRoom_least _ room_1 (by decide +kernel) (by decide +kernel) (by decide +kernel) (by decide +kernel) (by decide +kernel) (by decide +kernel)
theorem allAtoms_all (ts : List Jvm.Cond) (a : Array Jvm.Value) (st : Jvm.State) : (allAtoms ts).before a st = ts.all (fun c => c.before a st) := by
  induction ts with
  | nil => rfl
  | cons c t ih =>
    show (Jvm.Cond.and c (allAtoms t)).before a st = _
    rw [Jvm.Cond.before_and, ih, List.all_cons]
def words1 : List Jvm.Cond := Jvm.Cond.code x code maxLocals ret :: tables_1
/-- a 'code' word, met by the world's own term for the bytes: nothing is compared byte by byte -/
theorem code_word {y : MethodName} {bytes : ByteArray} {mx : Nat} {rt : Option FieldType} {a : Array Value} {s : State} {m : MethodId} {meth : Method} {c : Code} (h1 : s.methodNamed? y = some m) (h2 : s.vm.method? m = some meth) (h3 : meth.code = some c) (h4 : c.code = bytes)
    (h5 : (c.maxLocals == mx && c.exceptionTable.isEmpty && decide (c.maxStack ≤ mostOperands) && decide (meth.sig.returnType = rt) && !meth.locks && decide (parseMethodDescriptor y.desc = some meth.sig)) = true) : (Jvm.Cond.code y bytes mx rt).before a s = true := by
  simp only [Bool.and_eq_true, beq_iff_eq, Bool.not_eq_true', decide_eq_true_eq] at h5
  obtain ⟨⟨⟨⟨⟨g1, g2⟩, g3⟩, g4⟩, g5⟩, g6⟩ := h5
  simp [Cond.before, Cond.holds, Cond.value, h1, h2, h3, h4, g1, g2, g3, g4, g5, g6]
def isCode : Jvm.Cond → Bool
  | .code _ _ _ _ => true
  | _ => false
theorem all_split {L : List Jvm.Cond} {P : Jvm.Cond → Bool} (h1 : L.all (fun c => isCode c || P c) = true) (h2 : ∀ c ∈ L.filter isCode, P c = true) : L.all P = true := by
  refine List.all_eq_true.mpr fun c hc => ?_
  have h := List.all_eq_true.mp h1 c hc
  rcases Bool.eq_false_or_eq_true (isCode c) with hi | hi
  · exact h2 c (List.mem_filter.mpr ⟨hc, hi⟩)
  · simpa [hi] using h
set_option maxRecDepth 65536 in
theorem w_c0 : (Jvm.Cond.code x code maxLocals ret).before args0 about1 = true := code_word (m := ⟨1, 1⟩) (meth := k1m1) (c := k1c1) (by decide +kernel) rfl rfl rfl (by decide +kernel)
set_option maxRecDepth 65536 in
theorem w_c1 : (Jvm.Cond.code ({ cls := "com/example/seshat/seshat/util/Percentiles", name := "nearestRank", desc := "([JI)J" } : Jvm.MethodName) prog_38_method_2_code (4 : Nat) (Option.some Jvm.ClassFile.FieldType.long)).before args0 about1 = true := code_word (m := ⟨2, 1⟩) (meth := k2m1) (c := k2c1) (by decide +kernel) rfl rfl rfl (by decide +kernel)
set_option maxRecDepth 65536 in
theorem w_c2 : (Jvm.Cond.code ({ cls := "com/example/seshat/seshat/util/PercentilesNearestRankPinLaw", name := "expectedRank", desc := "(I)I" } : Jvm.MethodName) method_3_code (1 : Nat) (Option.some Jvm.ClassFile.FieldType.int)).before args0 about1 = true := code_word (m := ⟨1, 2⟩) (meth := k1m2) (c := k1c2) (by decide +kernel) rfl rfl rfl (by decide +kernel)
def codes1 : List Jvm.Cond := [Jvm.Cond.code x code maxLocals ret, Jvm.Cond.code ({ cls := "com/example/seshat/seshat/util/Percentiles", name := "nearestRank", desc := "([JI)J" } : Jvm.MethodName) prog_38_method_2_code (4 : Nat) (Option.some Jvm.ClassFile.FieldType.long), Jvm.Cond.code ({ cls := "com/example/seshat/seshat/util/PercentilesNearestRankPinLaw", name := "expectedRank", desc := "(I)I" } : Jvm.MethodName) method_3_code (1 : Nat) (Option.some Jvm.ClassFile.FieldType.int)]
set_option maxRecDepth 65536 in
theorem codes_eq : words1.filter isCode = codes1 := rfl
theorem w_codes : ∀ c ∈ words1.filter isCode, c.before args0 about1 = true := by
  rw [codes_eq]
  intro c hc
  simp only [codes1, List.mem_cons, List.not_mem_nil, or_false] at hc
  rcases hc with rfl | rfl | rfl
  · exact w_c0
  · exact w_c1
  · exact w_c2
set_option maxRecDepth 65536 in
theorem w_t1 : words1.all (fun c => isCode c || c.before args0 about1) = true := by decide +kernel
theorem w_tables : (allAtoms (Jvm.Cond.code x code maxLocals ret :: tables_1)).before args0 about1 = true := by
  rw [allAtoms_all]
  show words1.all (fun c => c.before args0 about1) = true
  refine all_split ?_ w_codes
  rw [w_t1]
set_option maxRecDepth 65536 in
theorem w_case : (Jvm.Cond.and given_1 narrow_1).before args0 about1 = true := by decide +kernel
theorem w_applies : (headSpec (Jvm.Cond.code x code maxLocals ret :: tables_1) room_1).applies x e0.platform about1 = true :=
  (Spec.applies_iff w_frames).mpr ⟨w_running, w_runnable, w_alone, w_named, w_hears, w_ripe, w_room, w_tables⟩
theorem atStart : AtStart classFile x code maxLocals ret World_1 tables_1 room_1 Calls_1 rest_1 Pre_1 launch0 p0 e0 about1 theMethod args0 below0 :=
  ⟨lists_1, trivial, launch0.admits_env _ _ _, launch0.least_env, fairChoices_fair.cas, fairChoices_fair.clock, w_frames, w_args, w_heap, w_applies, trivial, trivial, w_case⟩
end start1
theorem witness_1 : WitnessClaimed_1 := ⟨start1.p0, start1.e0, start1.about1, start1.theMethod, start1.args0, start1.below0, start1.atStart⟩
end Jvm.Pilot.@@N@@
