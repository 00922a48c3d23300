import JvmDerived
import JvmDerived.Pilot.@@N@@Statement
import JvmDerived.Pilot.@@N@@Code
set_option linter.unusedVariables false
set_option linter.unusedSimpArgs false
namespace Jvm.Pilot.@@N@@
open Jvm Jvm.ClassFile Sem Op Lib Jvm.Free Jvm.Stand Jvm.LawKit Jvm.RoadKit Bundle Jvm.Pilot.@@N@@.Jvm.D
/-- the body's goal from a state on -/
def Go (p : Program) (e : Env) (below : List Frame) (P : Outcome → State → Prop) (U : State) : Prop :=
  ∃ s₂ o, Steps p.tables e below U s₂ ∧ s₂.status = .running ∧ Ended s₂ below o ∧ P o s₂
/-- the unsigned shifts, the remainders -/
def uI (x y : Int32) : Int32 := (x.toUInt32 >>> (y &&& 31).toUInt32).toInt32
def uL (x : Int64) (y : Int32) : Int64 := (x.toUInt64 >>> (y &&& 0x3f).toInt64.toUInt64).toInt64
def sL (x : Int64) (y : Int32) : Int64 := x >>> (y &&& 0x3f).toInt64
def lL (x : Int64) (y : Int32) : Int64 := x <<< (y &&& 0x3f).toInt64
theorem own_narZ {z : Int32} (h : z = 0 ∨ z = 1) : narrow .boolean (.int z) = .int z := by rcases h with rfl | rfl <;> rfl
section Own
variable {p : Program} {l : Launch} {e : Env} {R : Room} {s : State} {m : MethodId} {args : Array Value} {below : List Frame} {meth : Method} {c : Code} {T : State} {locs : List Loc} {cells slots : Nat} {P : Outcome → State → Prop} {pc pc' : Nat} {L L' : Array Slot} {S : List Value} {Z : State} {a0 : Array Value} {h : Heap}
theorem Go.via {U U' : State} (q : ∀ t, Steps p.tables e below U' t → Steps p.tables e below U t) (k : Go p e below P U') : Go p e below P U := by
  obtain ⟨s₂, o, h1, h2⟩ := k
  exact ⟨s₂, o, q _ h1, h2⟩
theorem Go.tr {U U' : State} (q : Steps p.tables e below U U') (k : Go p e below P U') : Go p e below P U := k.via fun _ h => q.trans h
theorem o_iload (X : Stand p l e R s m args below meth c T locs cells slots) (hx : p.tables.exec = Jvm.exec) {k : Nat} {v : Int32} (hd : decode c.code pc = .ok (.iload k, 2)) (hp : pc + 2 = pc') (hl : L[k]? = some (.val (.int v))) (K : Go p e below P (T.setTop (mkF m pc' L (.int v :: S)))) : Go p e below P (T.setTop (mkF m pc L (S))) := by
  subst hp; exact K.via fun t k => XS.iload X.here hx rfl hd hl k
theorem o_iloadN (X : Stand p l e R s m args below meth c T locs cells slots) (hx : p.tables.exec = Jvm.exec) {k : Fin 4} {v : Int32} (hd : decode c.code pc = .ok (.iload_n k, 1)) (hp : pc + 1 = pc') (hl : L[k.val]? = some (.val (.int v))) (K : Go p e below P (T.setTop (mkF m pc' L (.int v :: S)))) : Go p e below P (T.setTop (mkF m pc L (S))) := by
  subst hp; exact K.via fun t k => XS.iloadN X.here hx rfl hd hl k
theorem o_lload (X : Stand p l e R s m args below meth c T locs cells slots) (hx : p.tables.exec = Jvm.exec) {k : Nat} {v : Int64} (hd : decode c.code pc = .ok (.lload k, 2)) (hp : pc + 2 = pc') (hl : L[k]? = some (.val (.long v))) (K : Go p e below P (T.setTop (mkF m pc' L (.long v :: S)))) : Go p e below P (T.setTop (mkF m pc L (S))) := by
  subst hp; exact K.via fun t k => XS.lload X.here hx rfl hd hl k
theorem o_lloadN (X : Stand p l e R s m args below meth c T locs cells slots) (hx : p.tables.exec = Jvm.exec) {k : Fin 4} {v : Int64} (hd : decode c.code pc = .ok (.lload_n k, 1)) (hp : pc + 1 = pc') (hl : L[k.val]? = some (.val (.long v))) (K : Go p e below P (T.setTop (mkF m pc' L (.long v :: S)))) : Go p e below P (T.setTop (mkF m pc L (S))) := by
  subst hp; exact K.via fun t k => XS.lloadN X.here hx rfl hd hl k
theorem o_aload (X : Stand p l e R s m args below meth c T locs cells slots) (hx : p.tables.exec = Jvm.exec) {k : Nat} {v : Value} (hd : decode c.code pc = .ok (.aload k, 2)) (hp : pc + 2 = pc') (hl : L[k]? = some (.val v)) (hv : v.isRef = true) (K : Go p e below P (T.setTop (mkF m pc' L (v :: S)))) : Go p e below P (T.setTop (mkF m pc L (S))) := by
  subst hp; exact K.via fun t k => XS.aload X.here hx rfl hd hl hv k
theorem o_aloadN (X : Stand p l e R s m args below meth c T locs cells slots) (hx : p.tables.exec = Jvm.exec) {k : Fin 4} {v : Value} (hd : decode c.code pc = .ok (.aload_n k, 1)) (hp : pc + 1 = pc') (hl : L[k.val]? = some (.val v)) (hv : v.isRef = true) (K : Go p e below P (T.setTop (mkF m pc' L (v :: S)))) : Go p e below P (T.setTop (mkF m pc L (S))) := by
  subst hp; exact K.via fun t k => XS.aloadN X.here hx rfl hd hl hv k
theorem o_istore (X : Stand p l e R s m args below meth c T locs cells slots) (hx : p.tables.exec = Jvm.exec) {k : Nat} {x : Int32} (hd : decode c.code pc = .ok (.istore k, 2)) (hp : pc + 2 = pc') (hl : storeLocals L k (.int x) = some L') (K : Go p e below P (T.setTop (mkF m pc' L' (S)))) : Go p e below P (T.setTop (mkF m pc L (.int x :: S))) := by
  subst hp; exact K.via fun t k => XS.istore X.here hx rfl hd rfl hl k
theorem o_lstore (X : Stand p l e R s m args below meth c T locs cells slots) (hx : p.tables.exec = Jvm.exec) {k : Nat} {x : Int64} (hd : decode c.code pc = .ok (.lstore k, 2)) (hp : pc + 2 = pc') (hl : storeLocals L k (.long x) = some L') (K : Go p e below P (T.setTop (mkF m pc' L' (S)))) : Go p e below P (T.setTop (mkF m pc L (.long x :: S))) := by
  subst hp; exact K.via fun t k => XS.lstore X.here hx rfl hd rfl hl k
theorem o_lstoreN (X : Stand p l e R s m args below meth c T locs cells slots) (hx : p.tables.exec = Jvm.exec) {k : Fin 4} {x : Int64} (hd : decode c.code pc = .ok (.lstore_n k, 1)) (hp : pc + 1 = pc') (hl : storeLocals L k.val (.long x) = some L') (K : Go p e below P (T.setTop (mkF m pc' L' (S)))) : Go p e below P (T.setTop (mkF m pc L (.long x :: S))) := by
  subst hp; exact K.via fun t k => XS.lstoreN X.here hx rfl hd rfl hl k
theorem o_astore (X : Stand p l e R s m args below meth c T locs cells slots) (hx : p.tables.exec = Jvm.exec) {k : Nat} {x : Value} (hd : decode c.code pc = .ok (.astore k, 2)) (hp : pc + 2 = pc') (hv : x.isRef = true) (hl : storeLocals L k x = some L') (K : Go p e below P (T.setTop (mkF m pc' L' (S)))) : Go p e below P (T.setTop (mkF m pc L (x :: S))) := by
  subst hp; exact K.via fun t k => XS.astore X.here hx rfl hd rfl hv hl k
theorem o_iconst (X : Stand p l e R s m args below meth c T locs cells slots) (hx : p.tables.exec = Jvm.exec) {i : Int} (v : Int32) (hd : decode c.code pc = .ok (.iconst i, 1)) (hp : pc + 1 = pc') (hv : Int32.ofInt i = v) (K : Go p e below P (T.setTop (mkF m pc' L (.int v :: S)))) : Go p e below P (T.setTop (mkF m pc L (S))) := by
  subst hp; exact K.via fun t k => XS.iconst X.here hx rfl hd (hv ▸ k)
theorem o_bipush (X : Stand p l e R s m args below meth c T locs cells slots) (hx : p.tables.exec = Jvm.exec) {i : Int} (v : Int32) (hd : decode c.code pc = .ok (.bipush i, 2)) (hp : pc + 2 = pc') (hv : (Int8.ofInt i).toInt32 = v) (K : Go p e below P (T.setTop (mkF m pc' L (.int v :: S)))) : Go p e below P (T.setTop (mkF m pc L (S))) := by
  subst hp; exact K.via fun t k => XS.bipush X.here hx rfl hd (hv ▸ k)
theorem o_lconst (X : Stand p l e R s m args below meth c T locs cells slots) (hx : p.tables.exec = Jvm.exec) {i : Fin 2} (v : Int64) (hd : decode c.code pc = .ok (.lconst i, 1)) (hp : pc + 1 = pc') (hv : Int64.ofNat i = v) (K : Go p e below P (T.setTop (mkF m pc' L (.long v :: S)))) : Go p e below P (T.setTop (mkF m pc L (S))) := by
  subst hp; exact K.via fun t k => XS.lconst X.here hx rfl hd (hv ▸ k)
theorem o_isub (X : Stand p l e R s m args below meth c T locs cells slots) (hx : p.tables.exec = Jvm.exec) {x y : Int32} (hd : decode c.code pc = .ok (.isub, 1)) (hp : pc + 1 = pc')  (K : Go p e below P (T.setTop (mkF m pc' L (.int (x - y) :: S)))) : Go p e below P (T.setTop (mkF m pc L (.int y :: .int x :: S))) := by
  subst hp; exact K.via fun t k => XS.isub X.here hx rfl hd rfl k
theorem o_iand (X : Stand p l e R s m args below meth c T locs cells slots) (hx : p.tables.exec = Jvm.exec) {x y : Int32} (hd : decode c.code pc = .ok (.iand, 1)) (hp : pc + 1 = pc')  (K : Go p e below P (T.setTop (mkF m pc' L (.int (x &&& y) :: S)))) : Go p e below P (T.setTop (mkF m pc L (.int y :: .int x :: S))) := by
  subst hp; exact K.via fun t k => XS.iand X.here hx rfl hd rfl k
theorem o_lsub (X : Stand p l e R s m args below meth c T locs cells slots) (hx : p.tables.exec = Jvm.exec) {x y : Int64} (hd : decode c.code pc = .ok (.lsub, 1)) (hp : pc + 1 = pc')  (K : Go p e below P (T.setTop (mkF m pc' L (.long (x - y) :: S)))) : Go p e below P (T.setTop (mkF m pc L (.long y :: .long x :: S))) := by
  subst hp; exact K.via fun t k => XS.lsub X.here hx rfl hd rfl k
theorem o_land (X : Stand p l e R s m args below meth c T locs cells slots) (hx : p.tables.exec = Jvm.exec) {x y : Int64} (hd : decode c.code pc = .ok (.land, 1)) (hp : pc + 1 = pc')  (K : Go p e below P (T.setTop (mkF m pc' L (.long (x &&& y) :: S)))) : Go p e below P (T.setTop (mkF m pc L (.long y :: .long x :: S))) := by
  subst hp; exact K.via fun t k => XS.land X.here hx rfl hd rfl k
theorem o_lxor (X : Stand p l e R s m args below meth c T locs cells slots) (hx : p.tables.exec = Jvm.exec) {x y : Int64} (hd : decode c.code pc = .ok (.lxor, 1)) (hp : pc + 1 = pc')  (K : Go p e below P (T.setTop (mkF m pc' L (.long (x ^^^ y) :: S)))) : Go p e below P (T.setTop (mkF m pc L (.long y :: .long x :: S))) := by
  subst hp; exact K.via fun t k => XS.lxor X.here hx rfl hd rfl k
theorem o_lushr (X : Stand p l e R s m args below meth c T locs cells slots) (hx : p.tables.exec = Jvm.exec) {x : Int64} {y : Int32} (hd : decode c.code pc = .ok (.lushr, 1)) (hp : pc + 1 = pc')  (K : Go p e below P (T.setTop (mkF m pc' L (.long (uL x y) :: S)))) : Go p e below P (T.setTop (mkF m pc L (.int y :: .long x :: S))) := by
  subst hp; exact K.via fun t k => XS.lushr X.here hx rfl hd rfl k
theorem o_irem (X : Stand p l e R s m args below meth c T locs cells slots) (hx : p.tables.exec = Jvm.exec) {x y : Int32} (hd : decode c.code pc = .ok (.irem, 1)) (hp : pc + 1 = pc') (hy : y ≠ 0) (K : Go p e below P (T.setTop (mkF m pc' L (.int (x % y) :: S)))) : Go p e below P (T.setTop (mkF m pc L (.int y :: .int x :: S))) := by
  subst hp; exact K.via fun t k => Jvm.RoadKit.iremM (g := mkF m pc L (.int y :: .int x :: S)) X hx rfl hd rfl hy k
theorem o_i2l (X : Stand p l e R s m args below meth c T locs cells slots) (hx : p.tables.exec = Jvm.exec) {x : Int32} (hd : decode c.code pc = .ok (.i2l, 1)) (hp : pc + 1 = pc')  (K : Go p e below P (T.setTop (mkF m pc' L (.long x.toInt64 :: S)))) : Go p e below P (T.setTop (mkF m pc L (.int x :: S))) := by
  subst hp; exact K.via fun t k => XS.i2l X.here hx rfl hd rfl k
theorem o_l2i (X : Stand p l e R s m args below meth c T locs cells slots) (hx : p.tables.exec = Jvm.exec) {x : Int64} (hd : decode c.code pc = .ok (.l2i, 1)) (hp : pc + 1 = pc')  (K : Go p e below P (T.setTop (mkF m pc' L (.int x.toInt32 :: S)))) : Go p e below P (T.setTop (mkF m pc L (.long x :: S))) := by
  subst hp; exact K.via fun t k => XS.l2i X.here hx rfl hd rfl k
theorem o_dup (X : Stand p l e R s m args below meth c T locs cells slots) (hx : p.tables.exec = Jvm.exec) {x : Value} (hd : decode c.code pc = .ok (.dup, 1)) (hp : pc + 1 = pc') (hc : x.category = 1) (K : Go p e below P (T.setTop (mkF m pc' L (x :: x :: S)))) : Go p e below P (T.setTop (mkF m pc L (x :: S))) := by
  subst hp; exact K.via fun t k => XS.dup X.here hx rfl hd rfl hc k
theorem o_iinc (X : Stand p l e R s m args below meth c T locs cells slots) (hx : p.tables.exec = Jvm.exec) {k : Nat} {i : Int} {v v' : Int32} (hd : decode c.code pc = .ok (.iinc k i, 3)) (hp : pc + 3 = pc') (hl : L[k]? = some (.val (.int v))) (hv : v + Int32.ofInt i = v') (hs : storeLocals L k (.int v') = some L') (K : Go p e below P (T.setTop (mkF m pc' L' S))) : Go p e below P (T.setTop (mkF m pc L S)) := by
  subst hp hv; exact K.via fun t k => XS.iinc X.here hx rfl hd hl hs k
theorem o_goto (X : Stand p l e R s m args below meth c T locs cells slots) (hx : p.tables.exec = Jvm.exec) {o : Int} (hd : decode c.code pc = .ok (.goto o, 3)) (ho : 0 ≤ (pc : Int) + o) (hp : ((pc : Int) + o).toNat = pc') (K : Go p e below P (T.setTop (mkF m pc' L S))) : Go p e below P (T.setTop (mkF m pc L S)) :=
  K.via fun t k => XS.goto X.here hx rfl rfl hd ho hp k
theorem o_ifY (X : Stand p l e R s m args below meth c T locs cells slots) (hx : p.tables.exec = Jvm.exec) {cd : ClassFile.Cond} {x : Int32} {o : Int} (hd : decode c.code pc = .ok (.ifCond cd o, 3)) (hc : if_icmp.holds cd x 0 = true) (ho : 0 ≤ (pc : Int) + o) (hp : ((pc : Int) + o).toNat = pc') (K : Go p e below P (T.setTop (mkF m pc' L S))) : Go p e below P (T.setTop (mkF m pc L (.int x :: S))) :=
  K.via fun t k => XS.ifYes X.here hx rfl rfl hd rfl ((if0 _ _).trans hc) ho hp k
theorem o_ifN (X : Stand p l e R s m args below meth c T locs cells slots) (hx : p.tables.exec = Jvm.exec) {cd : ClassFile.Cond} {x : Int32} {o : Int} (hd : decode c.code pc = .ok (.ifCond cd o, 3)) (hc : if_icmp.holds cd x 0 = false) (hp : pc + 3 = pc') (K : Go p e below P (T.setTop (mkF m pc' L S))) : Go p e below P (T.setTop (mkF m pc L (.int x :: S))) := by
  subst hp; exact K.via fun t k => XS.ifNo X.here hx rfl hd rfl ((if0 _ _).trans hc) k
theorem o_cmpY (X : Stand p l e R s m args below meth c T locs cells slots) (hx : p.tables.exec = Jvm.exec) {cd : ClassFile.Cond} {x y : Int32} {o : Int} (hd : decode c.code pc = .ok (.if_icmp cd o, 3)) (hc : if_icmp.holds cd x y = true) (ho : 0 ≤ (pc : Int) + o) (hp : ((pc : Int) + o).toNat = pc') (K : Go p e below P (T.setTop (mkF m pc' L S))) : Go p e below P (T.setTop (mkF m pc L (.int y :: .int x :: S))) :=
  K.via fun t k => XS.icmpYes X.here hx rfl rfl hd rfl hc ho hp k
theorem o_cmpN (X : Stand p l e R s m args below meth c T locs cells slots) (hx : p.tables.exec = Jvm.exec) {cd : ClassFile.Cond} {x y : Int32} {o : Int} (hd : decode c.code pc = .ok (.if_icmp cd o, 3)) (hc : if_icmp.holds cd x y = false) (hp : pc + 3 = pc') (K : Go p e below P (T.setTop (mkF m pc' L S))) : Go p e below P (T.setTop (mkF m pc L (.int y :: .int x :: S))) := by
  subst hp; exact K.via fun t k => XS.icmpNo X.here hx rfl hd rfl hc k
theorem o_lcmp (X : Stand p l e R s m args below meth c T locs cells slots) (hx : p.tables.exec = Jvm.exec) {x y : Int64} (hd : decode c.code pc = .ok (.lcmp, 1)) (hp : pc + 1 = pc') (K : Go p e below P (T.setTop (mkF m pc' L (.int (lcmpW x y) :: S)))) : Go p e below P (T.setTop (mkF m pc L (.long y :: .long x :: S))) := by
  subst hp; exact K.via fun t k => XS.lcmp X.here hx rfl hd rfl k
theorem tltL {x y : Int64} (q : x < y) : if_icmp.holds .lt (lcmpW x y) 0 = true ∧ if_icmp.holds .ge (lcmpW x y) 0 = false ∧ if_icmp.holds .gt (lcmpW y x) 0 = true ∧ if_icmp.holds .le (lcmpW y x) 0 = false :=
  ⟨(tlt ((lw_lt x y).mpr q)).1, (tlt ((lw_lt x y).mpr q)).2.1, (tlt ((lw_gt y x).mpr q)).2.2.1, (tlt ((lw_gt y x).mpr q)).2.2.2⟩
theorem fltL {x y : Int64} (q : ¬ x < y) : if_icmp.holds .lt (lcmpW x y) 0 = false ∧ if_icmp.holds .ge (lcmpW x y) 0 = true ∧ if_icmp.holds .gt (lcmpW y x) 0 = false ∧ if_icmp.holds .le (lcmpW y x) 0 = true :=
  ⟨(flt (mt (lw_lt x y).mp q)).1, (flt (mt (lw_lt x y).mp q)).2.1, (flt (mt (lw_gt y x).mp q)).2.2.1, (flt (mt (lw_gt y x).mp q)).2.2.2⟩
theorem teqL {x y : Int64} (q : x = y) : if_icmp.holds .eq (lcmpW x y) 0 = true ∧ if_icmp.holds .ne (lcmpW x y) 0 = false := teq ((lw_eq x y).mpr q)
theorem feqL {x y : Int64} (q : ¬ x = y) : if_icmp.holds .eq (lcmpW x y) 0 = false ∧ if_icmp.holds .ne (lcmpW x y) 0 = true := feq (mt (lw_eq x y).mp q)
theorem o_ldcI (X : Stand p l e R s m args below meth c T locs cells slots) (hx : p.tables.exec = Jvm.exec) (hZ : Z.Warmed39 s.vm) {own : String} {index : Nat} (v : Int32) (hown : s.vm.findClass own = some m.cls) (w : (Cond.constant own index v).before a0 Z = true) (hd : decode c.code pc = .ok (.ldc index, 2)) (hp : pc + 2 = pc') (K : Go p e below P (T.setTop (mkF m pc' L (.int v :: S)))) : Go p e below P (T.setTop (mkF m pc L S)) := by
  subst hp; exact K.via (X.ldcInt hx hown (mvT hZ w) (g := mkF m pc L S) rfl hd)
theorem o_ldcJ (X : Stand p l e R s m args below meth c T locs cells slots) (hx : p.tables.exec = Jvm.exec) (hZ : Z.Warmed39 s.vm) {own : String} {index : Nat} (v : Int64) (hown : s.vm.findClass own = some m.cls) (w : (Cond.constantLong own index v).before a0 Z = true) (hd : decode c.code pc = .ok (.ldc2_w index, 3)) (hp : pc + 3 = pc') (K : Go p e below P (T.setTop (mkF m pc' L (.long v :: S)))) : Go p e below P (T.setTop (mkF m pc L S)) := by
  subst hp; exact K.via (X.ldc2Long hx hown (mvT hZ w) (g := mkF m pc L S) rfl hd)
/-- what a body's end owes -/
abbrev Owe (s : State) (Q : Option Value → Heap → List Loc → Prop) (C D : Nat) : Outcome → State → Prop := fun o U' => ∃ v L, o = .returned v ∧ Q v U'.heap L ∧ FrameEnd s o U' L C D
/-- a body's contract -/
abbrev Con (l : Launch) (y : MethodName) (bytes : ByteArray) (ml : Nat) (ret : Option FieldType) (ws : List Jvm.Cond) (rm : Room) (as' : Array Value) (Z : State) (h0 : Heap) (Q : Option Value → Heap → List Loc → Prop) (C D : Nat) : Prop :=
  MetFree l y (head1 (Jvm.Cond.code y bytes ml ret :: ws) rm) (fun b U => b = as' ∧ Z.Warmed39 U.vm ∧ U.heap = h0) (fun _ _ _ _ _ => True) (fun _ U o U' => ∃ v L, o = .returned v ∧ Q v U'.heap L ∧ FrameEnd U o U' L C D)
theorem own_body {y : MethodName} {bytes : ByteArray} {ml : Nat} {ret : Option FieldType} {ws : List Jvm.Cond} {rm : Room} {as' : Array Value} {h0 : Heap} {Q : Option Value → Heap → List Loc → Prop} {C D : Nat} (hpl : plainFor y = true)
    (K : ∀ (p : Program) (e : Env) (s : State) (m : MethodId) (below : List Frame) (meth : Method) (c : Code) (s₁ : State), p.tables.exec = Jvm.exec → c.code = bytes → meth.locks = false → c.maxLocals = ml → s.vm.findClass y.cls = some m.cls → meth.name = y.name → meth.sig.returnType = ret → Z.Warmed39 s.vm →
      Stand p l e rm s m as' below meth c s₁ [] 0 0 → s₁.heap = h0 → Go p e below (Owe s Q C D) (s₁.setTop (entryFrame m as' ml))) : Con l y bytes ml ret ws rm as' Z h0 Q C D := by
  refine MetFree.of_bodySF hpl hisR ?_
  intro p e s m args below meth c s₁ Bd hml0 hP hK
  obtain ⟨rfl, hZ, hh⟩ := hP
  exact K p e s m below meth c s₁ Bd.exec Bd.bytes (BodyLoose.notSynchronized Bd) hml0 (findClass_of_methodNamed Bd.named) (name_of_methodNamed Bd.named Bd.method).1 Bd.returns hZ (Stand.of_body Bd) (by rw [← hh, Bd.state]; rfl)
theorem o_ret (X : Stand p l e R s m args below meth c T locs cells slots) (hx : p.tables.exec = Jvm.exec) {Q : Option Value → Heap → List Loc → Prop} {C D : Nat} {w : Value} {t : FieldType} {i : Instr} (hlocks : meth.locks = false) (hret : meth.sig.returnType = some t) (hn : narrow t w = w)
    (hi : (i = .ireturn ∧ (t = .int ∨ t = .boolean ∨ t = .byte ∨ t = .char ∨ t = .short) ∧ ∃ z, w = .int z) ∨ (i = .lreturn ∧ t = .long ∧ ∃ z, w = .long z) ∨ (i = .dreturn ∧ t = .double ∧ ∃ z, w = .double z) ∨ (i = .freturn ∧ t = .float ∧ ∃ z, w = .float z) ∨ (i = .areturn ∧ t.isReference = true ∧ w.isRef = true))
    (hd : decode c.code pc = .ok (i, 1)) (hc : cells ≤ C) (hs : slots ≤ D) (hq : Q (some w) T.heap locs) : Go p e below (Owe s Q C D) (T.setTop (mkF m pc L (w :: S))) := by
  obtain ⟨fs, hr, hrun, hended, hW, hsame⟩ := X.leave (v := some w) (fun h => by rw [hret] at h; cases h) hlocks
  exact ⟨_, _, retOut X hx hret hn hi hd hr, hrun, hended, _, _, rfl, hq, ⟨_, rfl⟩, hW, hsame.mono hc hs⟩
theorem o_retZ (X : Stand p l e R s m args below meth c T locs cells slots) (hx : p.tables.exec = Jvm.exec) {Q : Option Value → Heap → List Loc → Prop} {C D : Nat} {z : Int32} (hz : narrow .boolean (.int z) = .int z) (hlocks : meth.locks = false) (hret : meth.sig.returnType = some .boolean) (hd : decode c.code pc = .ok (.ireturn, 1)) (hc : cells ≤ C) (hs : slots ≤ D) (hq : Q (some (.int z)) T.heap locs) : Go p e below (Owe s Q C D) (T.setTop (mkF m pc L (.int z :: S))) :=
  o_ret X hx hlocks hret hz (Or.inl ⟨rfl, Or.inr (Or.inl rfl), z, rfl⟩) hd hc hs hq
theorem o_retV (X : Stand p l e R s m args below meth c T locs cells slots) (hx : p.tables.exec = Jvm.exec) {Q : Option Value → Heap → List Loc → Prop} {C D : Nat} (hlocks : meth.locks = false) (hret : meth.sig.returnType = none) (hd : decode c.code pc = .ok (.return_, 1)) (hc : cells ≤ C) (hs : slots ≤ D) (hq : Q none T.heap locs) : Go p e below (Owe s Q C D) (T.setTop (mkF m pc L [])) := by
  obtain ⟨fs, hr, hrun, hended, hW, hsame⟩ := X.leave (v := none) (fun _ => rfl) hlocks
  exact ⟨_, _, X.returnOut hx hret hd hr, hrun, hended, _, _, rfl, hq, ⟨_, rfl⟩, hW, hsame.mono hc hs⟩
theorem o_callS (X : Stand p l e R s m args below meth c T locs cells slots) (hx : p.tables.exec = Jvm.exec) (hZ : Z.Warmed39 s.vm) {own : String} {index : Nat} {y : MethodName} {bytes : ByteArray} {maxL : Nat} {ret : Option FieldType} {rm : Room} (W : Nat) {argsL rest : List Value} {Q : Option Value → Heap → List Loc → Prop} {cells' slots' : Nat}
    (hown : s.vm.findClass own = some m.cls) (w1 : (Cond.methodLink own index y).before a0 Z = true) (w2 : (Cond.static y).before a0 Z = true) (w3 : (Cond.initialized y.cls).before a0 Z = true) (w4 : (Cond.code y bytes maxL ret).before a0 Z = true) (hy : y.cls ≠ "java/lang/invoke/MethodHandle" ∧ y.cls ≠ "java/lang/invoke/VarHandle")
    (hM : MetFree l y (head1 [Cond.code y bytes maxL ret] rm) (fun a U => a = argsL.toArray ∧ Z.Warmed39 U.vm ∧ U.heap = h) (fun _ _ _ _ _ => True) (fun _ U o U' => ∃ v L, o = .returned v ∧ Q v U'.heap L ∧ FrameEnd U o U' L rm.cells rm.slots))
    (hf : rm.frames + 1 ≤ R.frames) (hl : W + (maxL + 11) + rm.locals ≤ R.locals) (hcc : cells + rm.cells = cells') (hss : slots + rm.slots = slots') (hc : cells' ≤ R.cells) (hs : slots' ≤ R.slots) (eT : T.heap = h) (hsize : L.size = c.maxLocals) (hlen : ∀ sig, parseMethodDescriptor y.desc = some sig → argsL.length = sig.parameters.length) (hstk : S = argsL.reverse ++ rest)
    (hW : (rest.map fun v => v.category).sum = W) (hd : decode c.code pc = .ok (.invokestatic index, 3)) (hp : pc + 3 = pc') (K : ∀ T' v Lc, Stand p l e R s m args below meth c T' (locs ++ Lc) cells' slots' → Q v T'.heap Lc → Go p e below P (T'.setTop (mkF m pc' L (v.toList ++ rest)))) : Go p e below P (T.setTop (mkF m pc L S)) := by
  subst hp hcc hss
  obtain ⟨v, _, ⟨T', L', k', n'⟩, -, X', ⟨Lc, hQ, l', y', z'⟩, st⟩ := Jvm.LawKit.callS X hx hown (mvT hZ w1) (mvT hZ w2) (mvT hZ w3) (mvT hZ w4) hy (backOf (W := W) hM hZ w4 w3 hf hl) (g := mkF m pc L S) rfl hsize (argsL := argsL) (rest := rest) hlen hstk (by show 2 * 0 + _ ≤ _; rw [hW]; exact Nat.le_of_eq (by simp)) hd (fun _ _ => ⟨rfl, eT, hc, hs⟩)
  dsimp only [Pt.U, Pt.locs, Pt.cells, Pt.slots] at X' l' y' z' st hQ
  subst l' y' z'
  exact (K T' v Lc X' hQ).via st
theorem o_newP (X : Stand p l e R s m args below meth c T locs cells slots) (hx : p.tables.exec = Jvm.exec) (hZ : Z.Warmed39 s.vm) {aty : ArrayType} {n : Int32} {cells' slots' : Nat} (cap : Nat) (w : (Cond.arrayClass (newarray.typeOf aty)).before a0 Z = true) (eT : T.heap = h) (hd : decode c.code pc = .ok (.newarray aty, 2)) (hp : pc + 2 = pc') (hn : ¬ n < 0) (hcap : n.toNatClampNeg ≤ cap) (hb : cap * 8 ≤ 536870912) (hcc : cells + 1 = cells') (hss : slots + cap = slots') (hc : cells' ≤ R.cells) (hs : slots' ≤ R.slots)
    (K : ∀ T' h' a k, a = h.size → Stand p l e R s m args below meth c T' locs cells' slots' → T'.heap = h' → Ext h h' → Arv Z h' a k (newarray.typeOf aty) n [] (defaultValue (newarray.typeOf aty)) → Go p e below P (T'.setTop (mkF m pc' L (.ref a :: S)))) : Go p e below P (T.setTop (mkF m pc L (.int n :: S))) := by
  subst hp hcc hss
  obtain ⟨T', h', cA, X', e', E', A', st⟩ := newP X hx hZ w eT (g := mkF m pc L (.int n :: S)) rfl hd rfl hn hcap hb hc hs
  exact (K T' h' h.size cA rfl X' e' E' (Arv.new A' hn)).via st
theorem own_inb {Zx : State} {hh : Heap} {a : Addr} {k : ClassId} {ty : FieldType} {n j : Int32} {vs : List Value} {d : Value} (hj : ¬ j < 0 ∧ j < n) (V : Arv Zx hh a k ty n vs d) : ∃ cl : Cell, Arr Zx hh a cl ty ∧ cl.cls = k ∧ cl.slots.size = n.toNatClampNeg ∧ ¬ n < 0 ∧ Has cl vs d ∧ (∀ i, i < cl.slots.size → fits ty (vs.getD i d) = true) ∧ ¬ (j < 0 ∨ cl.slots.size ≤ j.toNatClampNeg) ∧ cl.slots[j.toNatClampNeg]? = some (vs.getD j.toNatClampNeg d) := by
  obtain ⟨cl, h1, h2, h3, h4, h5, h6⟩ := V
  have hin := inb_of h3 hj
  exact ⟨cl, h1, h2, h3, h4, h5, h6, hin, h5.at hin rfl⟩
theorem o_iaload (X : Stand p l e R s m args below meth c T locs cells slots) (hx : p.tables.exec = Jvm.exec) (hZ : Z.Warmed39 s.vm) {a : Addr} {k : ClassId} {n j : Int32} {vs : List Value} {d : Value} (v : Value) (eT : T.heap = h) (V : Arv Z h a k .int n vs d) (hj : ¬ j < 0 ∧ j < n) (hv : vs.getD j.toNatClampNeg d = v) (hd : decode c.code pc = .ok (.iaload, 1)) (hp : pc + 1 = pc') (K : Go p e below P (T.setTop (mkF m pc' L (v :: S)))) : Go p e below P (T.setTop (mkF m pc L (.int j :: .ref a :: S))) := by
  subst hp hv
  obtain ⟨cl, A, -, -, -, -, -, hin, hat⟩ := own_inb hj V
  exact K.via fun t k => X.iaload hx (j := j) (by rw [eT]; exact A.1) (State.isArrayOf_alike hZ.alike A.2.1) A.2.2 hin hat (g := mkF m pc L (.int j :: .ref a :: S)) rfl rfl hd t k
theorem o_iastore (X : Stand p l e R s m args below meth c T locs cells slots) (hx : p.tables.exec = Jvm.exec) (hZ : Z.Warmed39 s.vm) {a : Addr} {k : ClassId} {n j : Int32} {x : Int32} {vs vs' : List Value} {d : Value} (i : Nat) (eT : T.heap = h) (V : Arv Z h a k .int n vs d) (hj : ¬ j < 0 ∧ j < n) (hji : j.toNatClampNeg = i) (hi : i < vs.length) (hvs : vs.set i (.int x) = vs') (hd : decode c.code pc = .ok (.iastore, 1)) (hp : pc + 1 = pc')
    (K : ∀ T' h', Stand p l e R s m args below meth c T' (locs ++ [⟨a, i⟩]) cells slots → T'.heap = h' → Wr h h' a i (.int x) → Arv Z h' a k .int n vs' d → Go p e below P (T'.setTop (mkF m pc' L S))) : Go p e below P (T.setTop (mkF m pc L (.int x :: .int j :: .ref a :: S))) := by
  subst hp hvs hji
  obtain ⟨cl, A, q1, q2, q3, q4, q5, hin, hat⟩ := own_inb hj V
  obtain ⟨T', h', X', e', W', st⟩ := stI X hx hZ eT A hin (g := mkF m pc L (.int x :: .int j :: .ref a :: S)) rfl rfl hd
  exact (K T' h' X' e' W' (Arv.set A q1 q2 q3 q4 q5 rfl W' _ rfl hi)).via st
theorem o_arraylength (X : Stand p l e R s m args below meth c T locs cells slots) (hx : p.tables.exec = Jvm.exec) (hZ : Z.Warmed39 s.vm) {a : Addr} {k : ClassId} {n : Int32} {ty : FieldType} {vs : List Value} {d : Value} (eT : T.heap = h) (V : Arv Z h a k ty n vs d) (hd : decode c.code pc = .ok (.arraylength, 1)) (hp : pc + 1 = pc') (K : Go p e below P (T.setTop (mkF m pc' L (.int n :: S)))) : Go p e below P (T.setTop (mkF m pc L (.ref a :: S))) := by
  subst hp
  obtain ⟨cl, A, q1, q2, q3, q4, q5⟩ := V
  rw [← len_of q2 q3] at K
  exact K.via fun t k => X.arraylength hx (by rw [eT]; exact A.1) (State.isArrayOf_alike hZ.alike A.2.1) (g := mkF m pc L (.ref a :: S)) rfl rfl hd t k
/-- a longer list said of an array: the rest holds its first value -/
theorem own_fill {Zx : State} {hh : Heap} {a : Addr} {k : ClassId} {ty : FieldType} {n : Int32} {d : Value} (i : Nat) (V : Arv Zx hh a k ty n [] d) : Arv Zx hh a k ty n (List.replicate i d) d := V.pad (pad_rep [] d i)
end Own
theorem pd_0 : parseMethodDescriptor "(JJ)Z" = some ⟨[.long, .long], some .boolean⟩ := by decide +kernel
theorem pd_1 : parseMethodDescriptor "([I[I[I)V" = some ⟨[(.array .int), (.array .int), (.array .int)], none⟩ := by decide +kernel
theorem d1_0 : decode prog_43_method_5_code 0 = .ok (.lconst 0, 1) := by decide +kernel
theorem d1_1 : decode prog_43_method_5_code 1 = .ok (.lstore_n 3, 1) := by decide +kernel
theorem d1_2 : decode prog_43_method_5_code 2 = .ok (.iconst 0, 1) := by decide +kernel
theorem d1_3 : decode prog_43_method_5_code 3 = .ok (.istore 5, 2) := by decide +kernel
theorem d1_5 : decode prog_43_method_5_code 5 = .ok (.iload 5, 2) := by decide +kernel
theorem d1_7 : decode prog_43_method_5_code 7 = .ok (.aload_n 2, 1) := by decide +kernel
theorem d1_8 : decode prog_43_method_5_code 8 = .ok (.arraylength, 1) := by decide +kernel
theorem d1_9 : decode prog_43_method_5_code 9 = .ok (.if_icmp .ge 52, 3) := by decide +kernel
theorem d1_12 : decode prog_43_method_5_code 12 = .ok (.aload_n 0, 1) := by decide +kernel
theorem d1_13 : decode prog_43_method_5_code 13 = .ok (.iload 5, 2) := by decide +kernel
theorem d1_15 : decode prog_43_method_5_code 15 = .ok (.iaload, 1) := by decide +kernel
theorem d1_16 : decode prog_43_method_5_code 16 = .ok (.i2l, 1) := by decide +kernel
theorem d1_17 : decode prog_43_method_5_code 17 = .ok (.ldc2_w 45, 3) := by decide +kernel
theorem d1_20 : decode prog_43_method_5_code 20 = .ok (.land, 1) := by decide +kernel
theorem d1_21 : decode prog_43_method_5_code 21 = .ok (.aload_n 1, 1) := by decide +kernel
theorem d1_22 : decode prog_43_method_5_code 22 = .ok (.iload 5, 2) := by decide +kernel
theorem d1_24 : decode prog_43_method_5_code 24 = .ok (.iaload, 1) := by decide +kernel
theorem d1_25 : decode prog_43_method_5_code 25 = .ok (.i2l, 1) := by decide +kernel
theorem d1_26 : decode prog_43_method_5_code 26 = .ok (.ldc2_w 45, 3) := by decide +kernel
theorem d1_29 : decode prog_43_method_5_code 29 = .ok (.land, 1) := by decide +kernel
theorem d1_30 : decode prog_43_method_5_code 30 = .ok (.lsub, 1) := by decide +kernel
theorem d1_31 : decode prog_43_method_5_code 31 = .ok (.lload_n 3, 1) := by decide +kernel
theorem d1_32 : decode prog_43_method_5_code 32 = .ok (.lsub, 1) := by decide +kernel
theorem d1_33 : decode prog_43_method_5_code 33 = .ok (.lstore 6, 2) := by decide +kernel
theorem d1_35 : decode prog_43_method_5_code 35 = .ok (.aload_n 2, 1) := by decide +kernel
theorem d1_36 : decode prog_43_method_5_code 36 = .ok (.iload 5, 2) := by decide +kernel
theorem d1_38 : decode prog_43_method_5_code 38 = .ok (.lload 6, 2) := by decide +kernel
theorem d1_40 : decode prog_43_method_5_code 40 = .ok (.l2i, 1) := by decide +kernel
theorem d1_41 : decode prog_43_method_5_code 41 = .ok (.iastore, 1) := by decide +kernel
theorem d1_42 : decode prog_43_method_5_code 42 = .ok (.lload 6, 2) := by decide +kernel
theorem d1_44 : decode prog_43_method_5_code 44 = .ok (.lconst 0, 1) := by decide +kernel
theorem d1_45 : decode prog_43_method_5_code 45 = .ok (.lcmp, 1) := by decide +kernel
theorem d1_46 : decode prog_43_method_5_code 46 = .ok (.ifCond .ge 7, 3) := by decide +kernel
theorem d1_49 : decode prog_43_method_5_code 49 = .ok (.lconst 1, 1) := by decide +kernel
theorem d1_50 : decode prog_43_method_5_code 50 = .ok (.goto 4, 3) := by decide +kernel
theorem d1_53 : decode prog_43_method_5_code 53 = .ok (.lconst 0, 1) := by decide +kernel
theorem d1_54 : decode prog_43_method_5_code 54 = .ok (.lstore_n 3, 1) := by decide +kernel
theorem d1_55 : decode prog_43_method_5_code 55 = .ok (.iinc 5 1, 3) := by decide +kernel
theorem d1_58 : decode prog_43_method_5_code 58 = .ok (.goto (-53), 3) := by decide +kernel
theorem d1_61 : decode prog_43_method_5_code 61 = .ok (.return_, 1) := by decide +kernel
theorem pn_1 : plainName "com/example/tideway/tideway/engine/Limbs" = true := by first | (simp [plainName, overriddenIn]; done) | decide +kernel
theorem ef_1a (m : MethodId) (x0 : Addr) (x1 : Addr) (x2 : Addr) : entryFrame m #[(.ref x0), (.ref x1), (.ref x2)] 8 = mkF m 0 #[.val (.ref x0), .val (.ref x1), .val (.ref x2), .unset, .unset, .unset, .unset, .unset] [] := by first | (simp [entryFrame, mkF, argsToLocals, Value.category]; done) | rfl
def own_f1a_x0 (i0 : Int32) (i1 : Int32) (i2 : Int32) (j0 : Int32) (j1 : Int32) (j2 : Int32) : Int64 := ((((i0.toInt64) &&& (4294967295 : Int64)) - ((j0.toInt64) &&& (4294967295 : Int64))) - (0 : Int64))
def own_f1a_v54_1_S0 (i0 : Int32) (i1 : Int32) (i2 : Int32) (j0 : Int32) (j1 : Int32) (j2 : Int32) : Int64 := (if (own_f1a_x0 i0 i1 i2 j0 j1 j2) < (0 : Int64) then (1 : Int64) else (0 : Int64))
def own_f1a_x1 (i0 : Int32) (i1 : Int32) (i2 : Int32) (j0 : Int32) (j1 : Int32) (j2 : Int32) : Int64 := ((((i1.toInt64) &&& (4294967295 : Int64)) - ((j1.toInt64) &&& (4294967295 : Int64))) - (own_f1a_v54_1_S0 i0 i1 i2 j0 j1 j2))
def own_f1a_v54_2_S0 (i0 : Int32) (i1 : Int32) (i2 : Int32) (j0 : Int32) (j1 : Int32) (j2 : Int32) : Int64 := (if (own_f1a_x1 i0 i1 i2 j0 j1 j2) < (0 : Int64) then (1 : Int64) else (0 : Int64))
def own_f1a_x2 (i0 : Int32) (i1 : Int32) (i2 : Int32) (j0 : Int32) (j1 : Int32) (j2 : Int32) : Int64 := ((((i2.toInt64) &&& (4294967295 : Int64)) - ((j2.toInt64) &&& (4294967295 : Int64))) - (own_f1a_v54_2_S0 i0 i1 i2 j0 j1 j2))
def own_f1a_v54_3_S0 (i0 : Int32) (i1 : Int32) (i2 : Int32) (j0 : Int32) (j1 : Int32) (j2 : Int32) : Int64 := (if (own_f1a_x2 i0 i1 i2 j0 j1 j2) < (0 : Int64) then (1 : Int64) else (0 : Int64))
def own_f1a_A_cc_0_j54_3 (i0 : Int32) (i1 : Int32) (i2 : Int32) (j0 : Int32) (j1 : Int32) (j2 : Int32) : Int32 := ((own_f1a_x0 i0 i1 i2 j0 j1 j2).toInt32)
def own_f1a_A_cc_0_j54_2 (i0 : Int32) (i1 : Int32) (i2 : Int32) (j0 : Int32) (j1 : Int32) (j2 : Int32) : Int32 := (own_f1a_A_cc_0_j54_3 i0 i1 i2 j0 j1 j2)
def own_f1a_A_cc_0_j54_1 (i0 : Int32) (i1 : Int32) (i2 : Int32) (j0 : Int32) (j1 : Int32) (j2 : Int32) : Int32 := (own_f1a_A_cc_0_j54_2 i0 i1 i2 j0 j1 j2)
def own_f1a_A_cc_0 (i0 : Int32) (i1 : Int32) (i2 : Int32) (j0 : Int32) (j1 : Int32) (j2 : Int32) : Int32 := (own_f1a_A_cc_0_j54_1 i0 i1 i2 j0 j1 j2)
def own_f1a_A_cc_1_j54_3 (i0 : Int32) (i1 : Int32) (i2 : Int32) (j0 : Int32) (j1 : Int32) (j2 : Int32) : Int32 := ((own_f1a_x1 i0 i1 i2 j0 j1 j2).toInt32)
def own_f1a_A_cc_1_j54_2 (i0 : Int32) (i1 : Int32) (i2 : Int32) (j0 : Int32) (j1 : Int32) (j2 : Int32) : Int32 := (own_f1a_A_cc_1_j54_3 i0 i1 i2 j0 j1 j2)
def own_f1a_A_cc_1_j54_1 (i0 : Int32) (i1 : Int32) (i2 : Int32) (j0 : Int32) (j1 : Int32) (j2 : Int32) : Int32 := (own_f1a_A_cc_1_j54_2 i0 i1 i2 j0 j1 j2)
def own_f1a_A_cc_1 (i0 : Int32) (i1 : Int32) (i2 : Int32) (j0 : Int32) (j1 : Int32) (j2 : Int32) : Int32 := (own_f1a_A_cc_1_j54_1 i0 i1 i2 j0 j1 j2)
def own_f1a_A_cc_2_j54_3 (i0 : Int32) (i1 : Int32) (i2 : Int32) (j0 : Int32) (j1 : Int32) (j2 : Int32) : Int32 := ((own_f1a_x2 i0 i1 i2 j0 j1 j2).toInt32)
def own_f1a_A_cc_2_j54_2 (i0 : Int32) (i1 : Int32) (i2 : Int32) (j0 : Int32) (j1 : Int32) (j2 : Int32) : Int32 := (own_f1a_A_cc_2_j54_3 i0 i1 i2 j0 j1 j2)
def own_f1a_A_cc_2_j54_1 (i0 : Int32) (i1 : Int32) (i2 : Int32) (j0 : Int32) (j1 : Int32) (j2 : Int32) : Int32 := (own_f1a_A_cc_2_j54_2 i0 i1 i2 j0 j1 j2)
def own_f1a_A_cc_2 (i0 : Int32) (i1 : Int32) (i2 : Int32) (j0 : Int32) (j1 : Int32) (j2 : Int32) : Int32 := (own_f1a_A_cc_2_j54_1 i0 i1 i2 j0 j1 j2)
def Q1a (Z : State) (aa : Addr) (bb : Addr) (cc : Addr) (i0 : Int32) (i1 : Int32) (i2 : Int32) (j0 : Int32) (j1 : Int32) (j2 : Int32) (r0 : Int32) (r1 : Int32) (r2 : Int32) (k_aa : ClassId) (k_bb : ClassId) (k_cc : ClassId) (h0 : Heap) (n0 : Nat) (v : Option Value) (h : Heap) (L : List Loc) : Prop := v = none ∧ Fr n0 L ∧ Keep h0 h [cc] ∧ Arv Z h cc k_cc .int (3 : Int32) [.int (own_f1a_A_cc_0 i0 i1 i2 j0 j1 j2), .int (own_f1a_A_cc_1 i0 i1 i2 j0 j1 j2), .int (own_f1a_A_cc_2 i0 i1 i2 j0 j1 j2)] (.int (0 : Int32))
set_option maxRecDepth 65536 in
set_option maxHeartbeats 40000000 in
theorem rm1a (l : Launch) (Z : State) (a0 : Array Value) (hw : ∀ d ∈ tables_1, d.before a0 Z = true) (ws : List Jvm.Cond) (aa : Addr) (bb : Addr) (cc : Addr) (i0 : Int32) (i1 : Int32) (i2 : Int32) (j0 : Int32) (j1 : Int32) (j2 : Int32) (r0 : Int32) (r1 : Int32) (r2 : Int32) (k_aa : ClassId) (k_bb : ClassId) (k_cc : ClassId) (h0 : Heap) (n0 : Nat) (Z0 : n0 ≤ h0.size) (V_aa : Arv Z h0 aa k_aa .int (3 : Int32) [.int i0, .int i1, .int i2] (.int (0 : Int32))) (V_bb : Arv Z h0 bb k_bb .int (3 : Int32) [.int j0, .int j1, .int j2] (.int (0 : Int32))) (V_cc : Arv Z h0 cc k_cc .int (3 : Int32) [.int r0, .int r1, .int r2] (.int (0 : Int32))) (g_cc : n0 ≤ cc) (ne_aa_cc : aa ≠ cc) (ne_bb_cc : bb ≠ cc) :
    Con l (⟨"com/example/tideway/tideway/engine/Limbs", "subtract", "([I[I[I)V"⟩ : MethodName) prog_43_method_5_code 8 none ws ({ frames := 0, cells := 0, slots := 0, locals := 0 } : Room) #[(.ref aa), (.ref bb), (.ref cc)] Z h0 (Q1a Z aa bb cc i0 i1 i2 j0 j1 j2 r0 r1 r2 k_aa k_bb k_cc h0 n0) ({ frames := 0, cells := 0, slots := 0, locals := 0 } : Room).cells ({ frames := 0, cells := 0, slots := 0, locals := 0 } : Room).slots := by
  refine own_body (plainFor_of_name pn_1) ?_
  intro p e s m below meth c s₁ hx hby hlk hml hown hnm hrt hZ X0 e0
  have w : ∀ (k : Nat) (d : Jvm.Cond), tables_1[k]? = some d → d.before a0 Z = true := fun k d h => hw d (List.mem_of_getElem? h)
  have N0 := Fr.nil n0
  have K0 := Keep.refl h0 [cc]
  rw [ef_1a]
  generalize hOWE : Owe s _ _ _ = OWE
  refine o_lconst X0 hx (0 : Int64) (hb hby d1_0) (pc' := 1) rfl (by decide) ?_
  refine o_lstoreN X0 hx (hb hby d1_1) (pc' := 2) rfl (L' := #[.val (.ref aa), .val (.ref bb), .val (.ref cc), .val (.long (0 : Int64)), .second, .unset, .unset, .unset]) rfl ?_
  refine o_iconst X0 hx (0 : Int32) (hb hby d1_2) (pc' := 3) rfl (by decide) ?_
  refine o_istore X0 hx (hb hby d1_3) (pc' := 5) rfl (L' := #[.val (.ref aa), .val (.ref bb), .val (.ref cc), .val (.long (0 : Int64)), .second, .val (.int (0 : Int32)), .unset, .unset]) rfl ?_
  refine o_iload X0 hx (hb hby d1_5) (pc' := 7) rfl rfl ?_
  refine o_aloadN X0 hx (hb hby d1_7) (pc' := 8) rfl rfl rfl ?_
  refine o_arraylength X0 hx hZ e0 V_cc (hb hby d1_8) (pc' := 9) rfl ?_
  refine o_cmpN X0 hx (hb hby d1_9) (tlt (by decide : (0 : Int32) < (3 : Int32))).2.1 (pc' := 12) rfl ?_
  refine o_aloadN X0 hx (hb hby d1_12) (pc' := 13) rfl rfl rfl ?_
  refine o_iload X0 hx (hb hby d1_13) (pc' := 15) rfl rfl ?_
  refine o_iaload X0 hx hZ (.int i0) e0 V_aa (by decide) (by rfl) (hb hby d1_15) (pc' := 16) rfl ?_
  refine o_i2l X0 hx (hb hby d1_16) (pc' := 17) rfl ?_
  refine o_ldcJ X0 hx hZ (4294967295 : Int64) hown (w 7 _ rfl) (hb hby d1_17) (pc' := 20) rfl ?_
  refine o_land X0 hx (hb hby d1_20) (pc' := 21) rfl ?_
  refine o_aloadN X0 hx (hb hby d1_21) (pc' := 22) rfl rfl rfl ?_
  refine o_iload X0 hx (hb hby d1_22) (pc' := 24) rfl rfl ?_
  refine o_iaload X0 hx hZ (.int j0) e0 V_bb (by decide) (by rfl) (hb hby d1_24) (pc' := 25) rfl ?_
  refine o_i2l X0 hx (hb hby d1_25) (pc' := 26) rfl ?_
  refine o_ldcJ X0 hx hZ (4294967295 : Int64) hown (w 7 _ rfl) (hb hby d1_26) (pc' := 29) rfl ?_
  refine o_land X0 hx (hb hby d1_29) (pc' := 30) rfl ?_
  refine o_lsub X0 hx (hb hby d1_30) (pc' := 31) rfl ?_
  refine o_lloadN X0 hx (hb hby d1_31) (pc' := 32) rfl rfl ?_
  refine o_lsub X0 hx (hb hby d1_32) (pc' := 33) rfl ?_
  refine o_lstore (x := (own_f1a_x0 i0 i1 i2 j0 j1 j2)) X0 hx (hb hby d1_33) (pc' := 35) rfl (L' := #[.val (.ref aa), .val (.ref bb), .val (.ref cc), .val (.long (0 : Int64)), .second, .val (.int (0 : Int32)), .val (.long (own_f1a_x0 i0 i1 i2 j0 j1 j2)), .second]) rfl ?_
  refine o_aloadN X0 hx (hb hby d1_35) (pc' := 36) rfl rfl rfl ?_
  refine o_iload X0 hx (hb hby d1_36) (pc' := 38) rfl rfl ?_
  refine o_lload X0 hx (hb hby d1_38) (pc' := 40) rfl rfl ?_
  refine o_l2i X0 hx (hb hby d1_40) (pc' := 41) rfl ?_
  refine o_iastore X0 hx hZ 0 e0 V_cc (by decide) (by decide) (by exact (by decide : 0 < 3)) (vs' := [.int ((own_f1a_x0 i0 i1 i2 j0 j1 j2).toInt32), .int r1, .int r2]) rfl (hb hby d1_41) (pc' := 42) rfl ?_
  intro T1 h1 X1 e1 W1 V1_
  have V2_aa := Arv.other V_aa W1 ne_aa_cc
  have V2_bb := Arv.other V_bb W1 ne_bb_cc
  have N1 := Fr.snoc X1 N0 g_cc
  have Z1 : n0 ≤ h1.size := by rw [W1.size]; exact Z0
  have K1 := Keep.wr K0 W1 (Or.inl (List.mem_of_getElem? (i := 0) rfl))
  refine o_lload X1 hx (hb hby d1_42) (pc' := 44) rfl rfl ?_
  refine o_lconst X1 hx (0 : Int64) (hb hby d1_44) (pc' := 45) rfl (by decide) ?_
  refine o_lcmp X1 hx (hb hby d1_45) (pc' := 46) rfl ?_
  have J54_1 : ∀ (z0 : Int64), z0 = (own_f1a_v54_1_S0 i0 i1 i2 j0 j1 j2) → Go p e below OWE (T1.setTop (mkF m 54 #[.val (.ref aa), .val (.ref bb), .val (.ref cc), .val (.long (0 : Int64)), .second, .val (.int (0 : Int32)), .val (.long (own_f1a_x0 i0 i1 i2 j0 j1 j2)), .second] [.long z0])) := by
    intro z0 yy0
    subst yy0
    refine o_lstoreN X1 hx (hb hby d1_54) (pc' := 55) rfl (L' := #[.val (.ref aa), .val (.ref bb), .val (.ref cc), .val (.long (own_f1a_v54_1_S0 i0 i1 i2 j0 j1 j2)), .second, .val (.int (0 : Int32)), .val (.long (own_f1a_x0 i0 i1 i2 j0 j1 j2)), .second]) rfl ?_
    refine o_iinc X1 hx (hb hby d1_55) (pc' := 58) rfl rfl (v' := (1 : Int32)) (by first | rfl | decide) (L' := #[.val (.ref aa), .val (.ref bb), .val (.ref cc), .val (.long (own_f1a_v54_1_S0 i0 i1 i2 j0 j1 j2)), .second, .val (.int (1 : Int32)), .val (.long (own_f1a_x0 i0 i1 i2 j0 j1 j2)), .second]) rfl ?_
    refine o_goto X1 hx (hb hby d1_58) (by decide) (pc' := 5) (by decide) ?_
    refine o_iload X1 hx (hb hby d1_5) (pc' := 7) rfl rfl ?_
    refine o_aloadN X1 hx (hb hby d1_7) (pc' := 8) rfl rfl rfl ?_
    refine o_arraylength X1 hx hZ e1 V1_ (hb hby d1_8) (pc' := 9) rfl ?_
    refine o_cmpN X1 hx (hb hby d1_9) (tlt (by decide : (1 : Int32) < (3 : Int32))).2.1 (pc' := 12) rfl ?_
    refine o_aloadN X1 hx (hb hby d1_12) (pc' := 13) rfl rfl rfl ?_
    refine o_iload X1 hx (hb hby d1_13) (pc' := 15) rfl rfl ?_
    refine o_iaload X1 hx hZ (.int i1) e1 V2_aa (by decide) (by rfl) (hb hby d1_15) (pc' := 16) rfl ?_
    refine o_i2l X1 hx (hb hby d1_16) (pc' := 17) rfl ?_
    refine o_ldcJ X1 hx hZ (4294967295 : Int64) hown (w 7 _ rfl) (hb hby d1_17) (pc' := 20) rfl ?_
    refine o_land X1 hx (hb hby d1_20) (pc' := 21) rfl ?_
    refine o_aloadN X1 hx (hb hby d1_21) (pc' := 22) rfl rfl rfl ?_
    refine o_iload X1 hx (hb hby d1_22) (pc' := 24) rfl rfl ?_
    refine o_iaload X1 hx hZ (.int j1) e1 V2_bb (by decide) (by rfl) (hb hby d1_24) (pc' := 25) rfl ?_
    refine o_i2l X1 hx (hb hby d1_25) (pc' := 26) rfl ?_
    refine o_ldcJ X1 hx hZ (4294967295 : Int64) hown (w 7 _ rfl) (hb hby d1_26) (pc' := 29) rfl ?_
    refine o_land X1 hx (hb hby d1_29) (pc' := 30) rfl ?_
    refine o_lsub X1 hx (hb hby d1_30) (pc' := 31) rfl ?_
    refine o_lloadN X1 hx (hb hby d1_31) (pc' := 32) rfl rfl ?_
    refine o_lsub X1 hx (hb hby d1_32) (pc' := 33) rfl ?_
    refine o_lstore (x := (own_f1a_x1 i0 i1 i2 j0 j1 j2)) X1 hx (hb hby d1_33) (pc' := 35) rfl (L' := #[.val (.ref aa), .val (.ref bb), .val (.ref cc), .val (.long (own_f1a_v54_1_S0 i0 i1 i2 j0 j1 j2)), .second, .val (.int (1 : Int32)), .val (.long (own_f1a_x1 i0 i1 i2 j0 j1 j2)), .second]) rfl ?_
    refine o_aloadN X1 hx (hb hby d1_35) (pc' := 36) rfl rfl rfl ?_
    refine o_iload X1 hx (hb hby d1_36) (pc' := 38) rfl rfl ?_
    refine o_lload X1 hx (hb hby d1_38) (pc' := 40) rfl rfl ?_
    refine o_l2i X1 hx (hb hby d1_40) (pc' := 41) rfl ?_
    refine o_iastore X1 hx hZ 1 e1 V1_ (by decide) (by decide) (by exact (by decide : 1 < 3)) (vs' := [.int ((own_f1a_x0 i0 i1 i2 j0 j1 j2).toInt32), .int ((own_f1a_x1 i0 i1 i2 j0 j1 j2).toInt32), .int r2]) rfl (hb hby d1_41) (pc' := 42) rfl ?_
    intro T4 h4 X4 e4 W4 V4_
    have V5_aa := Arv.other V2_aa W4 ne_aa_cc
    have V5_bb := Arv.other V2_bb W4 ne_bb_cc
    have N4 := Fr.snoc X4 N1 g_cc
    have Z4 : n0 ≤ h4.size := by rw [W4.size]; exact Z1
    have K4 := Keep.wr K1 W4 (Or.inl (List.mem_of_getElem? (i := 0) rfl))
    refine o_lload X4 hx (hb hby d1_42) (pc' := 44) rfl rfl ?_
    refine o_lconst X4 hx (0 : Int64) (hb hby d1_44) (pc' := 45) rfl (by decide) ?_
    refine o_lcmp X4 hx (hb hby d1_45) (pc' := 46) rfl ?_
    have J54_2 : ∀ (z0 : Int64), z0 = (own_f1a_v54_2_S0 i0 i1 i2 j0 j1 j2) → Go p e below OWE (T4.setTop (mkF m 54 #[.val (.ref aa), .val (.ref bb), .val (.ref cc), .val (.long (own_f1a_v54_1_S0 i0 i1 i2 j0 j1 j2)), .second, .val (.int (1 : Int32)), .val (.long (own_f1a_x1 i0 i1 i2 j0 j1 j2)), .second] [.long z0])) := by
      intro z0 yy0
      subst yy0
      refine o_lstoreN X4 hx (hb hby d1_54) (pc' := 55) rfl (L' := #[.val (.ref aa), .val (.ref bb), .val (.ref cc), .val (.long (own_f1a_v54_2_S0 i0 i1 i2 j0 j1 j2)), .second, .val (.int (1 : Int32)), .val (.long (own_f1a_x1 i0 i1 i2 j0 j1 j2)), .second]) rfl ?_
      refine o_iinc X4 hx (hb hby d1_55) (pc' := 58) rfl rfl (v' := (2 : Int32)) (by first | rfl | decide) (L' := #[.val (.ref aa), .val (.ref bb), .val (.ref cc), .val (.long (own_f1a_v54_2_S0 i0 i1 i2 j0 j1 j2)), .second, .val (.int (2 : Int32)), .val (.long (own_f1a_x1 i0 i1 i2 j0 j1 j2)), .second]) rfl ?_
      refine o_goto X4 hx (hb hby d1_58) (by decide) (pc' := 5) (by decide) ?_
      refine o_iload X4 hx (hb hby d1_5) (pc' := 7) rfl rfl ?_
      refine o_aloadN X4 hx (hb hby d1_7) (pc' := 8) rfl rfl rfl ?_
      refine o_arraylength X4 hx hZ e4 V4_ (hb hby d1_8) (pc' := 9) rfl ?_
      refine o_cmpN X4 hx (hb hby d1_9) (tlt (by decide : (2 : Int32) < (3 : Int32))).2.1 (pc' := 12) rfl ?_
      refine o_aloadN X4 hx (hb hby d1_12) (pc' := 13) rfl rfl rfl ?_
      refine o_iload X4 hx (hb hby d1_13) (pc' := 15) rfl rfl ?_
      refine o_iaload X4 hx hZ (.int i2) e4 V5_aa (by decide) (by rfl) (hb hby d1_15) (pc' := 16) rfl ?_
      refine o_i2l X4 hx (hb hby d1_16) (pc' := 17) rfl ?_
      refine o_ldcJ X4 hx hZ (4294967295 : Int64) hown (w 7 _ rfl) (hb hby d1_17) (pc' := 20) rfl ?_
      refine o_land X4 hx (hb hby d1_20) (pc' := 21) rfl ?_
      refine o_aloadN X4 hx (hb hby d1_21) (pc' := 22) rfl rfl rfl ?_
      refine o_iload X4 hx (hb hby d1_22) (pc' := 24) rfl rfl ?_
      refine o_iaload X4 hx hZ (.int j2) e4 V5_bb (by decide) (by rfl) (hb hby d1_24) (pc' := 25) rfl ?_
      refine o_i2l X4 hx (hb hby d1_25) (pc' := 26) rfl ?_
      refine o_ldcJ X4 hx hZ (4294967295 : Int64) hown (w 7 _ rfl) (hb hby d1_26) (pc' := 29) rfl ?_
      refine o_land X4 hx (hb hby d1_29) (pc' := 30) rfl ?_
      refine o_lsub X4 hx (hb hby d1_30) (pc' := 31) rfl ?_
      refine o_lloadN X4 hx (hb hby d1_31) (pc' := 32) rfl rfl ?_
      refine o_lsub X4 hx (hb hby d1_32) (pc' := 33) rfl ?_
      refine o_lstore (x := (own_f1a_x2 i0 i1 i2 j0 j1 j2)) X4 hx (hb hby d1_33) (pc' := 35) rfl (L' := #[.val (.ref aa), .val (.ref bb), .val (.ref cc), .val (.long (own_f1a_v54_2_S0 i0 i1 i2 j0 j1 j2)), .second, .val (.int (2 : Int32)), .val (.long (own_f1a_x2 i0 i1 i2 j0 j1 j2)), .second]) rfl ?_
      refine o_aloadN X4 hx (hb hby d1_35) (pc' := 36) rfl rfl rfl ?_
      refine o_iload X4 hx (hb hby d1_36) (pc' := 38) rfl rfl ?_
      refine o_lload X4 hx (hb hby d1_38) (pc' := 40) rfl rfl ?_
      refine o_l2i X4 hx (hb hby d1_40) (pc' := 41) rfl ?_
      refine o_iastore X4 hx hZ 2 e4 V4_ (by decide) (by decide) (by exact (by decide : 2 < 3)) (vs' := [.int ((own_f1a_x0 i0 i1 i2 j0 j1 j2).toInt32), .int ((own_f1a_x1 i0 i1 i2 j0 j1 j2).toInt32), .int ((own_f1a_x2 i0 i1 i2 j0 j1 j2).toInt32)]) rfl (hb hby d1_41) (pc' := 42) rfl ?_
      intro T7 h7 X7 e7 W7 V7_
      have V8_aa := Arv.other V5_aa W7 ne_aa_cc
      have V8_bb := Arv.other V5_bb W7 ne_bb_cc
      have N7 := Fr.snoc X7 N4 g_cc
      have Z7 : n0 ≤ h7.size := by rw [W7.size]; exact Z4
      have K7 := Keep.wr K4 W7 (Or.inl (List.mem_of_getElem? (i := 0) rfl))
      refine o_lload X7 hx (hb hby d1_42) (pc' := 44) rfl rfl ?_
      refine o_lconst X7 hx (0 : Int64) (hb hby d1_44) (pc' := 45) rfl (by decide) ?_
      refine o_lcmp X7 hx (hb hby d1_45) (pc' := 46) rfl ?_
      have J54_3 : ∀ (z0 : Int64), z0 = (own_f1a_v54_3_S0 i0 i1 i2 j0 j1 j2) → Go p e below OWE (T7.setTop (mkF m 54 #[.val (.ref aa), .val (.ref bb), .val (.ref cc), .val (.long (own_f1a_v54_2_S0 i0 i1 i2 j0 j1 j2)), .second, .val (.int (2 : Int32)), .val (.long (own_f1a_x2 i0 i1 i2 j0 j1 j2)), .second] [.long z0])) := by
        intro z0 yy0
        subst yy0
        refine o_lstoreN X7 hx (hb hby d1_54) (pc' := 55) rfl (L' := #[.val (.ref aa), .val (.ref bb), .val (.ref cc), .val (.long (own_f1a_v54_3_S0 i0 i1 i2 j0 j1 j2)), .second, .val (.int (2 : Int32)), .val (.long (own_f1a_x2 i0 i1 i2 j0 j1 j2)), .second]) rfl ?_
        refine o_iinc X7 hx (hb hby d1_55) (pc' := 58) rfl rfl (v' := (3 : Int32)) (by first | rfl | decide) (L' := #[.val (.ref aa), .val (.ref bb), .val (.ref cc), .val (.long (own_f1a_v54_3_S0 i0 i1 i2 j0 j1 j2)), .second, .val (.int (3 : Int32)), .val (.long (own_f1a_x2 i0 i1 i2 j0 j1 j2)), .second]) rfl ?_
        refine o_goto X7 hx (hb hby d1_58) (by decide) (pc' := 5) (by decide) ?_
        refine o_iload X7 hx (hb hby d1_5) (pc' := 7) rfl rfl ?_
        refine o_aloadN X7 hx (hb hby d1_7) (pc' := 8) rfl rfl rfl ?_
        refine o_arraylength X7 hx hZ e7 V7_ (hb hby d1_8) (pc' := 9) rfl ?_
        refine o_cmpY X7 hx (hb hby d1_9) (flt (by decide : ¬ ((3 : Int32) < (3 : Int32)))).2.1 (by decide) (pc' := 61) (by decide) ?_
        rw [← hOWE]
        exact o_retV X7 hx hlk hrt (hb hby d1_61) (by decide) (by decide) (by rw [e7]; exact ⟨rfl, N7, K7, (by rw [own_f1a_A_cc_0, own_f1a_A_cc_0_j54_1, own_f1a_A_cc_0_j54_2, own_f1a_A_cc_0_j54_3, own_f1a_A_cc_1, own_f1a_A_cc_1_j54_1, own_f1a_A_cc_1_j54_2, own_f1a_A_cc_1_j54_3, own_f1a_A_cc_2, own_f1a_A_cc_2_j54_1, own_f1a_A_cc_2_j54_2, own_f1a_A_cc_2_j54_3]; exact V7_)⟩)
      by_cases hc46_9 : (own_f1a_x2 i0 i1 i2 j0 j1 j2) < (0 : Int64)
      · refine o_ifN X7 hx (hb hby d1_46) (tltL hc46_9).2.1 (pc' := 49) rfl ?_
        refine o_lconst X7 hx (1 : Int64) (hb hby d1_49) (pc' := 50) rfl (by decide) ?_
        refine o_goto X7 hx (hb hby d1_50) (by decide) (pc' := 54) (by decide) ?_
        exact J54_3 ((1 : Int64)) (by rw [own_f1a_v54_3_S0, if_pos hc46_9])
      · refine o_ifY X7 hx (hb hby d1_46) (fltL hc46_9).2.1 (by decide) (pc' := 53) (by decide) ?_
        refine o_lconst X7 hx (0 : Int64) (hb hby d1_53) (pc' := 54) rfl (by decide) ?_
        exact J54_3 ((0 : Int64)) (by rw [own_f1a_v54_3_S0, if_neg hc46_9])
    by_cases hc46_6 : (own_f1a_x1 i0 i1 i2 j0 j1 j2) < (0 : Int64)
    · refine o_ifN X4 hx (hb hby d1_46) (tltL hc46_6).2.1 (pc' := 49) rfl ?_
      refine o_lconst X4 hx (1 : Int64) (hb hby d1_49) (pc' := 50) rfl (by decide) ?_
      refine o_goto X4 hx (hb hby d1_50) (by decide) (pc' := 54) (by decide) ?_
      exact J54_2 ((1 : Int64)) (by rw [own_f1a_v54_2_S0, if_pos hc46_6])
    · refine o_ifY X4 hx (hb hby d1_46) (fltL hc46_6).2.1 (by decide) (pc' := 53) (by decide) ?_
      refine o_lconst X4 hx (0 : Int64) (hb hby d1_53) (pc' := 54) rfl (by decide) ?_
      exact J54_2 ((0 : Int64)) (by rw [own_f1a_v54_2_S0, if_neg hc46_6])
  by_cases hc46_3 : (own_f1a_x0 i0 i1 i2 j0 j1 j2) < (0 : Int64)
  · refine o_ifN X1 hx (hb hby d1_46) (tltL hc46_3).2.1 (pc' := 49) rfl ?_
    refine o_lconst X1 hx (1 : Int64) (hb hby d1_49) (pc' := 50) rfl (by decide) ?_
    refine o_goto X1 hx (hb hby d1_50) (by decide) (pc' := 54) (by decide) ?_
    exact J54_1 ((1 : Int64)) (by rw [own_f1a_v54_1_S0, if_pos hc46_3])
  · refine o_ifY X1 hx (hb hby d1_46) (fltL hc46_3).2.1 (by decide) (pc' := 53) (by decide) ?_
    refine o_lconst X1 hx (0 : Int64) (hb hby d1_53) (pc' := 54) rfl (by decide) ?_
    exact J54_1 ((0 : Int64)) (by rw [own_f1a_v54_1_S0, if_neg hc46_3])
theorem ef_1b (m : MethodId) (x0 : Addr) (x1 : Addr) (x2 : Addr) : entryFrame m #[(.ref x0), (.ref x1), (.ref x2)] 8 = mkF m 0 #[.val (.ref x0), .val (.ref x1), .val (.ref x2), .unset, .unset, .unset, .unset, .unset] [] := by first | (simp [entryFrame, mkF, argsToLocals, Value.category]; done) | rfl
def own_f1b_x0 (i0 : Int32) (i1 : Int32) (i2 : Int32) (j0 : Int32) (j1 : Int32) (j2 : Int32) : Int64 := ((((i0.toInt64) &&& (4294967295 : Int64)) - ((j0.toInt64) &&& (4294967295 : Int64))) - (0 : Int64))
def own_f1b_v54_1_S0 (i0 : Int32) (i1 : Int32) (i2 : Int32) (j0 : Int32) (j1 : Int32) (j2 : Int32) : Int64 := (if (own_f1b_x0 i0 i1 i2 j0 j1 j2) < (0 : Int64) then (1 : Int64) else (0 : Int64))
def own_f1b_x1 (i0 : Int32) (i1 : Int32) (i2 : Int32) (j0 : Int32) (j1 : Int32) (j2 : Int32) : Int64 := ((((i1.toInt64) &&& (4294967295 : Int64)) - ((j1.toInt64) &&& (4294967295 : Int64))) - (own_f1b_v54_1_S0 i0 i1 i2 j0 j1 j2))
def own_f1b_v54_2_S0 (i0 : Int32) (i1 : Int32) (i2 : Int32) (j0 : Int32) (j1 : Int32) (j2 : Int32) : Int64 := (if (own_f1b_x1 i0 i1 i2 j0 j1 j2) < (0 : Int64) then (1 : Int64) else (0 : Int64))
def own_f1b_x2 (i0 : Int32) (i1 : Int32) (i2 : Int32) (j0 : Int32) (j1 : Int32) (j2 : Int32) : Int64 := ((((i2.toInt64) &&& (4294967295 : Int64)) - ((j2.toInt64) &&& (4294967295 : Int64))) - (own_f1b_v54_2_S0 i0 i1 i2 j0 j1 j2))
def own_f1b_v54_3_S0 (i0 : Int32) (i1 : Int32) (i2 : Int32) (j0 : Int32) (j1 : Int32) (j2 : Int32) : Int64 := (if (own_f1b_x2 i0 i1 i2 j0 j1 j2) < (0 : Int64) then (1 : Int64) else (0 : Int64))
def own_f1b_A_aa_0_j54_3 (i0 : Int32) (i1 : Int32) (i2 : Int32) (j0 : Int32) (j1 : Int32) (j2 : Int32) : Int32 := ((own_f1b_x0 i0 i1 i2 j0 j1 j2).toInt32)
def own_f1b_A_aa_0_j54_2 (i0 : Int32) (i1 : Int32) (i2 : Int32) (j0 : Int32) (j1 : Int32) (j2 : Int32) : Int32 := (own_f1b_A_aa_0_j54_3 i0 i1 i2 j0 j1 j2)
def own_f1b_A_aa_0_j54_1 (i0 : Int32) (i1 : Int32) (i2 : Int32) (j0 : Int32) (j1 : Int32) (j2 : Int32) : Int32 := (own_f1b_A_aa_0_j54_2 i0 i1 i2 j0 j1 j2)
def own_f1b_A_aa_0 (i0 : Int32) (i1 : Int32) (i2 : Int32) (j0 : Int32) (j1 : Int32) (j2 : Int32) : Int32 := (own_f1b_A_aa_0_j54_1 i0 i1 i2 j0 j1 j2)
def own_f1b_A_aa_1_j54_3 (i0 : Int32) (i1 : Int32) (i2 : Int32) (j0 : Int32) (j1 : Int32) (j2 : Int32) : Int32 := ((own_f1b_x1 i0 i1 i2 j0 j1 j2).toInt32)
def own_f1b_A_aa_1_j54_2 (i0 : Int32) (i1 : Int32) (i2 : Int32) (j0 : Int32) (j1 : Int32) (j2 : Int32) : Int32 := (own_f1b_A_aa_1_j54_3 i0 i1 i2 j0 j1 j2)
def own_f1b_A_aa_1_j54_1 (i0 : Int32) (i1 : Int32) (i2 : Int32) (j0 : Int32) (j1 : Int32) (j2 : Int32) : Int32 := (own_f1b_A_aa_1_j54_2 i0 i1 i2 j0 j1 j2)
def own_f1b_A_aa_1 (i0 : Int32) (i1 : Int32) (i2 : Int32) (j0 : Int32) (j1 : Int32) (j2 : Int32) : Int32 := (own_f1b_A_aa_1_j54_1 i0 i1 i2 j0 j1 j2)
def own_f1b_A_aa_2_j54_3 (i0 : Int32) (i1 : Int32) (i2 : Int32) (j0 : Int32) (j1 : Int32) (j2 : Int32) : Int32 := ((own_f1b_x2 i0 i1 i2 j0 j1 j2).toInt32)
def own_f1b_A_aa_2_j54_2 (i0 : Int32) (i1 : Int32) (i2 : Int32) (j0 : Int32) (j1 : Int32) (j2 : Int32) : Int32 := (own_f1b_A_aa_2_j54_3 i0 i1 i2 j0 j1 j2)
def own_f1b_A_aa_2_j54_1 (i0 : Int32) (i1 : Int32) (i2 : Int32) (j0 : Int32) (j1 : Int32) (j2 : Int32) : Int32 := (own_f1b_A_aa_2_j54_2 i0 i1 i2 j0 j1 j2)
def own_f1b_A_aa_2 (i0 : Int32) (i1 : Int32) (i2 : Int32) (j0 : Int32) (j1 : Int32) (j2 : Int32) : Int32 := (own_f1b_A_aa_2_j54_1 i0 i1 i2 j0 j1 j2)
def Q1b (Z : State) (aa : Addr) (bb : Addr) (i0 : Int32) (i1 : Int32) (i2 : Int32) (j0 : Int32) (j1 : Int32) (j2 : Int32) (k_aa : ClassId) (k_bb : ClassId) (h0 : Heap) (n0 : Nat) (v : Option Value) (h : Heap) (L : List Loc) : Prop := v = none ∧ Fr n0 L ∧ Keep h0 h [aa] ∧ Arv Z h aa k_aa .int (3 : Int32) [.int (own_f1b_A_aa_0 i0 i1 i2 j0 j1 j2), .int (own_f1b_A_aa_1 i0 i1 i2 j0 j1 j2), .int (own_f1b_A_aa_2 i0 i1 i2 j0 j1 j2)] (.int (0 : Int32))
set_option maxRecDepth 65536 in
set_option maxHeartbeats 40000000 in
theorem rm1b (l : Launch) (Z : State) (a0 : Array Value) (hw : ∀ d ∈ tables_1, d.before a0 Z = true) (ws : List Jvm.Cond) (aa : Addr) (bb : Addr) (i0 : Int32) (i1 : Int32) (i2 : Int32) (j0 : Int32) (j1 : Int32) (j2 : Int32) (k_aa : ClassId) (k_bb : ClassId) (h0 : Heap) (n0 : Nat) (Z0 : n0 ≤ h0.size) (V_aa : Arv Z h0 aa k_aa .int (3 : Int32) [.int i0, .int i1, .int i2] (.int (0 : Int32))) (g_aa : n0 ≤ aa) (V_bb : Arv Z h0 bb k_bb .int (3 : Int32) [.int j0, .int j1, .int j2] (.int (0 : Int32))) (ne_bb_aa : bb ≠ aa) :
    Con l (⟨"com/example/tideway/tideway/engine/Limbs", "subtract", "([I[I[I)V"⟩ : MethodName) prog_43_method_5_code 8 none ws ({ frames := 0, cells := 0, slots := 0, locals := 0 } : Room) #[(.ref aa), (.ref bb), (.ref aa)] Z h0 (Q1b Z aa bb i0 i1 i2 j0 j1 j2 k_aa k_bb h0 n0) ({ frames := 0, cells := 0, slots := 0, locals := 0 } : Room).cells ({ frames := 0, cells := 0, slots := 0, locals := 0 } : Room).slots := by
  refine own_body (plainFor_of_name pn_1) ?_
  intro p e s m below meth c s₁ hx hby hlk hml hown hnm hrt hZ X0 e0
  have w : ∀ (k : Nat) (d : Jvm.Cond), tables_1[k]? = some d → d.before a0 Z = true := fun k d h => hw d (List.mem_of_getElem? h)
  have N0 := Fr.nil n0
  have K0 := Keep.refl h0 [aa]
  rw [ef_1b]
  generalize hOWE : Owe s _ _ _ = OWE
  refine o_lconst X0 hx (0 : Int64) (hb hby d1_0) (pc' := 1) rfl (by decide) ?_
  refine o_lstoreN X0 hx (hb hby d1_1) (pc' := 2) rfl (L' := #[.val (.ref aa), .val (.ref bb), .val (.ref aa), .val (.long (0 : Int64)), .second, .unset, .unset, .unset]) rfl ?_
  refine o_iconst X0 hx (0 : Int32) (hb hby d1_2) (pc' := 3) rfl (by decide) ?_
  refine o_istore X0 hx (hb hby d1_3) (pc' := 5) rfl (L' := #[.val (.ref aa), .val (.ref bb), .val (.ref aa), .val (.long (0 : Int64)), .second, .val (.int (0 : Int32)), .unset, .unset]) rfl ?_
  refine o_iload X0 hx (hb hby d1_5) (pc' := 7) rfl rfl ?_
  refine o_aloadN X0 hx (hb hby d1_7) (pc' := 8) rfl rfl rfl ?_
  refine o_arraylength X0 hx hZ e0 V_aa (hb hby d1_8) (pc' := 9) rfl ?_
  refine o_cmpN X0 hx (hb hby d1_9) (tlt (by decide : (0 : Int32) < (3 : Int32))).2.1 (pc' := 12) rfl ?_
  refine o_aloadN X0 hx (hb hby d1_12) (pc' := 13) rfl rfl rfl ?_
  refine o_iload X0 hx (hb hby d1_13) (pc' := 15) rfl rfl ?_
  refine o_iaload X0 hx hZ (.int i0) e0 V_aa (by decide) (by rfl) (hb hby d1_15) (pc' := 16) rfl ?_
  refine o_i2l X0 hx (hb hby d1_16) (pc' := 17) rfl ?_
  refine o_ldcJ X0 hx hZ (4294967295 : Int64) hown (w 7 _ rfl) (hb hby d1_17) (pc' := 20) rfl ?_
  refine o_land X0 hx (hb hby d1_20) (pc' := 21) rfl ?_
  refine o_aloadN X0 hx (hb hby d1_21) (pc' := 22) rfl rfl rfl ?_
  refine o_iload X0 hx (hb hby d1_22) (pc' := 24) rfl rfl ?_
  refine o_iaload X0 hx hZ (.int j0) e0 V_bb (by decide) (by rfl) (hb hby d1_24) (pc' := 25) rfl ?_
  refine o_i2l X0 hx (hb hby d1_25) (pc' := 26) rfl ?_
  refine o_ldcJ X0 hx hZ (4294967295 : Int64) hown (w 7 _ rfl) (hb hby d1_26) (pc' := 29) rfl ?_
  refine o_land X0 hx (hb hby d1_29) (pc' := 30) rfl ?_
  refine o_lsub X0 hx (hb hby d1_30) (pc' := 31) rfl ?_
  refine o_lloadN X0 hx (hb hby d1_31) (pc' := 32) rfl rfl ?_
  refine o_lsub X0 hx (hb hby d1_32) (pc' := 33) rfl ?_
  refine o_lstore (x := (own_f1b_x0 i0 i1 i2 j0 j1 j2)) X0 hx (hb hby d1_33) (pc' := 35) rfl (L' := #[.val (.ref aa), .val (.ref bb), .val (.ref aa), .val (.long (0 : Int64)), .second, .val (.int (0 : Int32)), .val (.long (own_f1b_x0 i0 i1 i2 j0 j1 j2)), .second]) rfl ?_
  refine o_aloadN X0 hx (hb hby d1_35) (pc' := 36) rfl rfl rfl ?_
  refine o_iload X0 hx (hb hby d1_36) (pc' := 38) rfl rfl ?_
  refine o_lload X0 hx (hb hby d1_38) (pc' := 40) rfl rfl ?_
  refine o_l2i X0 hx (hb hby d1_40) (pc' := 41) rfl ?_
  refine o_iastore X0 hx hZ 0 e0 V_aa (by decide) (by decide) (by exact (by decide : 0 < 3)) (vs' := [.int ((own_f1b_x0 i0 i1 i2 j0 j1 j2).toInt32), .int i1, .int i2]) rfl (hb hby d1_41) (pc' := 42) rfl ?_
  intro T1 h1 X1 e1 W1 V1_
  have V2_bb := Arv.other V_bb W1 ne_bb_aa
  have N1 := Fr.snoc X1 N0 g_aa
  have Z1 : n0 ≤ h1.size := by rw [W1.size]; exact Z0
  have K1 := Keep.wr K0 W1 (Or.inl (List.mem_of_getElem? (i := 0) rfl))
  refine o_lload X1 hx (hb hby d1_42) (pc' := 44) rfl rfl ?_
  refine o_lconst X1 hx (0 : Int64) (hb hby d1_44) (pc' := 45) rfl (by decide) ?_
  refine o_lcmp X1 hx (hb hby d1_45) (pc' := 46) rfl ?_
  have J54_1 : ∀ (z0 : Int64), z0 = (own_f1b_v54_1_S0 i0 i1 i2 j0 j1 j2) → Go p e below OWE (T1.setTop (mkF m 54 #[.val (.ref aa), .val (.ref bb), .val (.ref aa), .val (.long (0 : Int64)), .second, .val (.int (0 : Int32)), .val (.long (own_f1b_x0 i0 i1 i2 j0 j1 j2)), .second] [.long z0])) := by
    intro z0 yy0
    subst yy0
    refine o_lstoreN X1 hx (hb hby d1_54) (pc' := 55) rfl (L' := #[.val (.ref aa), .val (.ref bb), .val (.ref aa), .val (.long (own_f1b_v54_1_S0 i0 i1 i2 j0 j1 j2)), .second, .val (.int (0 : Int32)), .val (.long (own_f1b_x0 i0 i1 i2 j0 j1 j2)), .second]) rfl ?_
    refine o_iinc X1 hx (hb hby d1_55) (pc' := 58) rfl rfl (v' := (1 : Int32)) (by first | rfl | decide) (L' := #[.val (.ref aa), .val (.ref bb), .val (.ref aa), .val (.long (own_f1b_v54_1_S0 i0 i1 i2 j0 j1 j2)), .second, .val (.int (1 : Int32)), .val (.long (own_f1b_x0 i0 i1 i2 j0 j1 j2)), .second]) rfl ?_
    refine o_goto X1 hx (hb hby d1_58) (by decide) (pc' := 5) (by decide) ?_
    refine o_iload X1 hx (hb hby d1_5) (pc' := 7) rfl rfl ?_
    refine o_aloadN X1 hx (hb hby d1_7) (pc' := 8) rfl rfl rfl ?_
    refine o_arraylength X1 hx hZ e1 V1_ (hb hby d1_8) (pc' := 9) rfl ?_
    refine o_cmpN X1 hx (hb hby d1_9) (tlt (by decide : (1 : Int32) < (3 : Int32))).2.1 (pc' := 12) rfl ?_
    refine o_aloadN X1 hx (hb hby d1_12) (pc' := 13) rfl rfl rfl ?_
    refine o_iload X1 hx (hb hby d1_13) (pc' := 15) rfl rfl ?_
    refine o_iaload X1 hx hZ (.int i1) e1 V1_ (by decide) (by rfl) (hb hby d1_15) (pc' := 16) rfl ?_
    refine o_i2l X1 hx (hb hby d1_16) (pc' := 17) rfl ?_
    refine o_ldcJ X1 hx hZ (4294967295 : Int64) hown (w 7 _ rfl) (hb hby d1_17) (pc' := 20) rfl ?_
    refine o_land X1 hx (hb hby d1_20) (pc' := 21) rfl ?_
    refine o_aloadN X1 hx (hb hby d1_21) (pc' := 22) rfl rfl rfl ?_
    refine o_iload X1 hx (hb hby d1_22) (pc' := 24) rfl rfl ?_
    refine o_iaload X1 hx hZ (.int j1) e1 V2_bb (by decide) (by rfl) (hb hby d1_24) (pc' := 25) rfl ?_
    refine o_i2l X1 hx (hb hby d1_25) (pc' := 26) rfl ?_
    refine o_ldcJ X1 hx hZ (4294967295 : Int64) hown (w 7 _ rfl) (hb hby d1_26) (pc' := 29) rfl ?_
    refine o_land X1 hx (hb hby d1_29) (pc' := 30) rfl ?_
    refine o_lsub X1 hx (hb hby d1_30) (pc' := 31) rfl ?_
    refine o_lloadN X1 hx (hb hby d1_31) (pc' := 32) rfl rfl ?_
    refine o_lsub X1 hx (hb hby d1_32) (pc' := 33) rfl ?_
    refine o_lstore (x := (own_f1b_x1 i0 i1 i2 j0 j1 j2)) X1 hx (hb hby d1_33) (pc' := 35) rfl (L' := #[.val (.ref aa), .val (.ref bb), .val (.ref aa), .val (.long (own_f1b_v54_1_S0 i0 i1 i2 j0 j1 j2)), .second, .val (.int (1 : Int32)), .val (.long (own_f1b_x1 i0 i1 i2 j0 j1 j2)), .second]) rfl ?_
    refine o_aloadN X1 hx (hb hby d1_35) (pc' := 36) rfl rfl rfl ?_
    refine o_iload X1 hx (hb hby d1_36) (pc' := 38) rfl rfl ?_
    refine o_lload X1 hx (hb hby d1_38) (pc' := 40) rfl rfl ?_
    refine o_l2i X1 hx (hb hby d1_40) (pc' := 41) rfl ?_
    refine o_iastore X1 hx hZ 1 e1 V1_ (by decide) (by decide) (by exact (by decide : 1 < 3)) (vs' := [.int ((own_f1b_x0 i0 i1 i2 j0 j1 j2).toInt32), .int ((own_f1b_x1 i0 i1 i2 j0 j1 j2).toInt32), .int i2]) rfl (hb hby d1_41) (pc' := 42) rfl ?_
    intro T4 h4 X4 e4 W4 V4_
    have V5_bb := Arv.other V2_bb W4 ne_bb_aa
    have N4 := Fr.snoc X4 N1 g_aa
    have Z4 : n0 ≤ h4.size := by rw [W4.size]; exact Z1
    have K4 := Keep.wr K1 W4 (Or.inl (List.mem_of_getElem? (i := 0) rfl))
    refine o_lload X4 hx (hb hby d1_42) (pc' := 44) rfl rfl ?_
    refine o_lconst X4 hx (0 : Int64) (hb hby d1_44) (pc' := 45) rfl (by decide) ?_
    refine o_lcmp X4 hx (hb hby d1_45) (pc' := 46) rfl ?_
    have J54_2 : ∀ (z0 : Int64), z0 = (own_f1b_v54_2_S0 i0 i1 i2 j0 j1 j2) → Go p e below OWE (T4.setTop (mkF m 54 #[.val (.ref aa), .val (.ref bb), .val (.ref aa), .val (.long (own_f1b_v54_1_S0 i0 i1 i2 j0 j1 j2)), .second, .val (.int (1 : Int32)), .val (.long (own_f1b_x1 i0 i1 i2 j0 j1 j2)), .second] [.long z0])) := by
      intro z0 yy0
      subst yy0
      refine o_lstoreN X4 hx (hb hby d1_54) (pc' := 55) rfl (L' := #[.val (.ref aa), .val (.ref bb), .val (.ref aa), .val (.long (own_f1b_v54_2_S0 i0 i1 i2 j0 j1 j2)), .second, .val (.int (1 : Int32)), .val (.long (own_f1b_x1 i0 i1 i2 j0 j1 j2)), .second]) rfl ?_
      refine o_iinc X4 hx (hb hby d1_55) (pc' := 58) rfl rfl (v' := (2 : Int32)) (by first | rfl | decide) (L' := #[.val (.ref aa), .val (.ref bb), .val (.ref aa), .val (.long (own_f1b_v54_2_S0 i0 i1 i2 j0 j1 j2)), .second, .val (.int (2 : Int32)), .val (.long (own_f1b_x1 i0 i1 i2 j0 j1 j2)), .second]) rfl ?_
      refine o_goto X4 hx (hb hby d1_58) (by decide) (pc' := 5) (by decide) ?_
      refine o_iload X4 hx (hb hby d1_5) (pc' := 7) rfl rfl ?_
      refine o_aloadN X4 hx (hb hby d1_7) (pc' := 8) rfl rfl rfl ?_
      refine o_arraylength X4 hx hZ e4 V4_ (hb hby d1_8) (pc' := 9) rfl ?_
      refine o_cmpN X4 hx (hb hby d1_9) (tlt (by decide : (2 : Int32) < (3 : Int32))).2.1 (pc' := 12) rfl ?_
      refine o_aloadN X4 hx (hb hby d1_12) (pc' := 13) rfl rfl rfl ?_
      refine o_iload X4 hx (hb hby d1_13) (pc' := 15) rfl rfl ?_
      refine o_iaload X4 hx hZ (.int i2) e4 V4_ (by decide) (by rfl) (hb hby d1_15) (pc' := 16) rfl ?_
      refine o_i2l X4 hx (hb hby d1_16) (pc' := 17) rfl ?_
      refine o_ldcJ X4 hx hZ (4294967295 : Int64) hown (w 7 _ rfl) (hb hby d1_17) (pc' := 20) rfl ?_
      refine o_land X4 hx (hb hby d1_20) (pc' := 21) rfl ?_
      refine o_aloadN X4 hx (hb hby d1_21) (pc' := 22) rfl rfl rfl ?_
      refine o_iload X4 hx (hb hby d1_22) (pc' := 24) rfl rfl ?_
      refine o_iaload X4 hx hZ (.int j2) e4 V5_bb (by decide) (by rfl) (hb hby d1_24) (pc' := 25) rfl ?_
      refine o_i2l X4 hx (hb hby d1_25) (pc' := 26) rfl ?_
      refine o_ldcJ X4 hx hZ (4294967295 : Int64) hown (w 7 _ rfl) (hb hby d1_26) (pc' := 29) rfl ?_
      refine o_land X4 hx (hb hby d1_29) (pc' := 30) rfl ?_
      refine o_lsub X4 hx (hb hby d1_30) (pc' := 31) rfl ?_
      refine o_lloadN X4 hx (hb hby d1_31) (pc' := 32) rfl rfl ?_
      refine o_lsub X4 hx (hb hby d1_32) (pc' := 33) rfl ?_
      refine o_lstore (x := (own_f1b_x2 i0 i1 i2 j0 j1 j2)) X4 hx (hb hby d1_33) (pc' := 35) rfl (L' := #[.val (.ref aa), .val (.ref bb), .val (.ref aa), .val (.long (own_f1b_v54_2_S0 i0 i1 i2 j0 j1 j2)), .second, .val (.int (2 : Int32)), .val (.long (own_f1b_x2 i0 i1 i2 j0 j1 j2)), .second]) rfl ?_
      refine o_aloadN X4 hx (hb hby d1_35) (pc' := 36) rfl rfl rfl ?_
      refine o_iload X4 hx (hb hby d1_36) (pc' := 38) rfl rfl ?_
      refine o_lload X4 hx (hb hby d1_38) (pc' := 40) rfl rfl ?_
      refine o_l2i X4 hx (hb hby d1_40) (pc' := 41) rfl ?_
      refine o_iastore X4 hx hZ 2 e4 V4_ (by decide) (by decide) (by exact (by decide : 2 < 3)) (vs' := [.int ((own_f1b_x0 i0 i1 i2 j0 j1 j2).toInt32), .int ((own_f1b_x1 i0 i1 i2 j0 j1 j2).toInt32), .int ((own_f1b_x2 i0 i1 i2 j0 j1 j2).toInt32)]) rfl (hb hby d1_41) (pc' := 42) rfl ?_
      intro T7 h7 X7 e7 W7 V7_
      have V8_bb := Arv.other V5_bb W7 ne_bb_aa
      have N7 := Fr.snoc X7 N4 g_aa
      have Z7 : n0 ≤ h7.size := by rw [W7.size]; exact Z4
      have K7 := Keep.wr K4 W7 (Or.inl (List.mem_of_getElem? (i := 0) rfl))
      refine o_lload X7 hx (hb hby d1_42) (pc' := 44) rfl rfl ?_
      refine o_lconst X7 hx (0 : Int64) (hb hby d1_44) (pc' := 45) rfl (by decide) ?_
      refine o_lcmp X7 hx (hb hby d1_45) (pc' := 46) rfl ?_
      have J54_3 : ∀ (z0 : Int64), z0 = (own_f1b_v54_3_S0 i0 i1 i2 j0 j1 j2) → Go p e below OWE (T7.setTop (mkF m 54 #[.val (.ref aa), .val (.ref bb), .val (.ref aa), .val (.long (own_f1b_v54_2_S0 i0 i1 i2 j0 j1 j2)), .second, .val (.int (2 : Int32)), .val (.long (own_f1b_x2 i0 i1 i2 j0 j1 j2)), .second] [.long z0])) := by
        intro z0 yy0
        subst yy0
        refine o_lstoreN X7 hx (hb hby d1_54) (pc' := 55) rfl (L' := #[.val (.ref aa), .val (.ref bb), .val (.ref aa), .val (.long (own_f1b_v54_3_S0 i0 i1 i2 j0 j1 j2)), .second, .val (.int (2 : Int32)), .val (.long (own_f1b_x2 i0 i1 i2 j0 j1 j2)), .second]) rfl ?_
        refine o_iinc X7 hx (hb hby d1_55) (pc' := 58) rfl rfl (v' := (3 : Int32)) (by first | rfl | decide) (L' := #[.val (.ref aa), .val (.ref bb), .val (.ref aa), .val (.long (own_f1b_v54_3_S0 i0 i1 i2 j0 j1 j2)), .second, .val (.int (3 : Int32)), .val (.long (own_f1b_x2 i0 i1 i2 j0 j1 j2)), .second]) rfl ?_
        refine o_goto X7 hx (hb hby d1_58) (by decide) (pc' := 5) (by decide) ?_
        refine o_iload X7 hx (hb hby d1_5) (pc' := 7) rfl rfl ?_
        refine o_aloadN X7 hx (hb hby d1_7) (pc' := 8) rfl rfl rfl ?_
        refine o_arraylength X7 hx hZ e7 V7_ (hb hby d1_8) (pc' := 9) rfl ?_
        refine o_cmpY X7 hx (hb hby d1_9) (flt (by decide : ¬ ((3 : Int32) < (3 : Int32)))).2.1 (by decide) (pc' := 61) (by decide) ?_
        rw [← hOWE]
        exact o_retV X7 hx hlk hrt (hb hby d1_61) (by decide) (by decide) (by rw [e7]; exact ⟨rfl, N7, K7, (by rw [own_f1b_A_aa_0, own_f1b_A_aa_0_j54_1, own_f1b_A_aa_0_j54_2, own_f1b_A_aa_0_j54_3, own_f1b_A_aa_1, own_f1b_A_aa_1_j54_1, own_f1b_A_aa_1_j54_2, own_f1b_A_aa_1_j54_3, own_f1b_A_aa_2, own_f1b_A_aa_2_j54_1, own_f1b_A_aa_2_j54_2, own_f1b_A_aa_2_j54_3]; exact V7_)⟩)
      by_cases hc46_9 : (own_f1b_x2 i0 i1 i2 j0 j1 j2) < (0 : Int64)
      · refine o_ifN X7 hx (hb hby d1_46) (tltL hc46_9).2.1 (pc' := 49) rfl ?_
        refine o_lconst X7 hx (1 : Int64) (hb hby d1_49) (pc' := 50) rfl (by decide) ?_
        refine o_goto X7 hx (hb hby d1_50) (by decide) (pc' := 54) (by decide) ?_
        exact J54_3 ((1 : Int64)) (by rw [own_f1b_v54_3_S0, if_pos hc46_9])
      · refine o_ifY X7 hx (hb hby d1_46) (fltL hc46_9).2.1 (by decide) (pc' := 53) (by decide) ?_
        refine o_lconst X7 hx (0 : Int64) (hb hby d1_53) (pc' := 54) rfl (by decide) ?_
        exact J54_3 ((0 : Int64)) (by rw [own_f1b_v54_3_S0, if_neg hc46_9])
    by_cases hc46_6 : (own_f1b_x1 i0 i1 i2 j0 j1 j2) < (0 : Int64)
    · refine o_ifN X4 hx (hb hby d1_46) (tltL hc46_6).2.1 (pc' := 49) rfl ?_
      refine o_lconst X4 hx (1 : Int64) (hb hby d1_49) (pc' := 50) rfl (by decide) ?_
      refine o_goto X4 hx (hb hby d1_50) (by decide) (pc' := 54) (by decide) ?_
      exact J54_2 ((1 : Int64)) (by rw [own_f1b_v54_2_S0, if_pos hc46_6])
    · refine o_ifY X4 hx (hb hby d1_46) (fltL hc46_6).2.1 (by decide) (pc' := 53) (by decide) ?_
      refine o_lconst X4 hx (0 : Int64) (hb hby d1_53) (pc' := 54) rfl (by decide) ?_
      exact J54_2 ((0 : Int64)) (by rw [own_f1b_v54_2_S0, if_neg hc46_6])
  by_cases hc46_3 : (own_f1b_x0 i0 i1 i2 j0 j1 j2) < (0 : Int64)
  · refine o_ifN X1 hx (hb hby d1_46) (tltL hc46_3).2.1 (pc' := 49) rfl ?_
    refine o_lconst X1 hx (1 : Int64) (hb hby d1_49) (pc' := 50) rfl (by decide) ?_
    refine o_goto X1 hx (hb hby d1_50) (by decide) (pc' := 54) (by decide) ?_
    exact J54_1 ((1 : Int64)) (by rw [own_f1b_v54_1_S0, if_pos hc46_3])
  · refine o_ifY X1 hx (hb hby d1_46) (fltL hc46_3).2.1 (by decide) (pc' := 53) (by decide) ?_
    refine o_lconst X1 hx (0 : Int64) (hb hby d1_53) (pc' := 54) rfl (by decide) ?_
    exact J54_1 ((0 : Int64)) (by rw [own_f1b_v54_1_S0, if_neg hc46_3])
theorem ef_1c (m : MethodId) (x0 : Addr) (x1 : Addr) (x2 : Addr) : entryFrame m #[(.ref x0), (.ref x1), (.ref x2)] 8 = mkF m 0 #[.val (.ref x0), .val (.ref x1), .val (.ref x2), .unset, .unset, .unset, .unset, .unset] [] := by first | (simp [entryFrame, mkF, argsToLocals, Value.category]; done) | rfl
def own_f1c_x0 (i0 : Int32) (i1 : Int32) (i2 : Int32) (j0 : Int32) (j1 : Int32) (j2 : Int32) : Int64 := ((((i0.toInt64) &&& (4294967295 : Int64)) - ((j0.toInt64) &&& (4294967295 : Int64))) - (0 : Int64))
def own_f1c_v54_1_S0 (i0 : Int32) (i1 : Int32) (i2 : Int32) (j0 : Int32) (j1 : Int32) (j2 : Int32) : Int64 := (if (own_f1c_x0 i0 i1 i2 j0 j1 j2) < (0 : Int64) then (1 : Int64) else (0 : Int64))
def own_f1c_x1 (i0 : Int32) (i1 : Int32) (i2 : Int32) (j0 : Int32) (j1 : Int32) (j2 : Int32) : Int64 := ((((i1.toInt64) &&& (4294967295 : Int64)) - ((j1.toInt64) &&& (4294967295 : Int64))) - (own_f1c_v54_1_S0 i0 i1 i2 j0 j1 j2))
def own_f1c_v54_2_S0 (i0 : Int32) (i1 : Int32) (i2 : Int32) (j0 : Int32) (j1 : Int32) (j2 : Int32) : Int64 := (if (own_f1c_x1 i0 i1 i2 j0 j1 j2) < (0 : Int64) then (1 : Int64) else (0 : Int64))
def own_f1c_x2 (i0 : Int32) (i1 : Int32) (i2 : Int32) (j0 : Int32) (j1 : Int32) (j2 : Int32) : Int64 := ((((i2.toInt64) &&& (4294967295 : Int64)) - ((j2.toInt64) &&& (4294967295 : Int64))) - (own_f1c_v54_2_S0 i0 i1 i2 j0 j1 j2))
def own_f1c_v54_3_S0 (i0 : Int32) (i1 : Int32) (i2 : Int32) (j0 : Int32) (j1 : Int32) (j2 : Int32) : Int64 := (if (own_f1c_x2 i0 i1 i2 j0 j1 j2) < (0 : Int64) then (1 : Int64) else (0 : Int64))
def own_f1c_A_bb_0_j54_3 (i0 : Int32) (i1 : Int32) (i2 : Int32) (j0 : Int32) (j1 : Int32) (j2 : Int32) : Int32 := ((own_f1c_x0 i0 i1 i2 j0 j1 j2).toInt32)
def own_f1c_A_bb_0_j54_2 (i0 : Int32) (i1 : Int32) (i2 : Int32) (j0 : Int32) (j1 : Int32) (j2 : Int32) : Int32 := (own_f1c_A_bb_0_j54_3 i0 i1 i2 j0 j1 j2)
def own_f1c_A_bb_0_j54_1 (i0 : Int32) (i1 : Int32) (i2 : Int32) (j0 : Int32) (j1 : Int32) (j2 : Int32) : Int32 := (own_f1c_A_bb_0_j54_2 i0 i1 i2 j0 j1 j2)
def own_f1c_A_bb_0 (i0 : Int32) (i1 : Int32) (i2 : Int32) (j0 : Int32) (j1 : Int32) (j2 : Int32) : Int32 := (own_f1c_A_bb_0_j54_1 i0 i1 i2 j0 j1 j2)
def own_f1c_A_bb_1_j54_3 (i0 : Int32) (i1 : Int32) (i2 : Int32) (j0 : Int32) (j1 : Int32) (j2 : Int32) : Int32 := ((own_f1c_x1 i0 i1 i2 j0 j1 j2).toInt32)
def own_f1c_A_bb_1_j54_2 (i0 : Int32) (i1 : Int32) (i2 : Int32) (j0 : Int32) (j1 : Int32) (j2 : Int32) : Int32 := (own_f1c_A_bb_1_j54_3 i0 i1 i2 j0 j1 j2)
def own_f1c_A_bb_1_j54_1 (i0 : Int32) (i1 : Int32) (i2 : Int32) (j0 : Int32) (j1 : Int32) (j2 : Int32) : Int32 := (own_f1c_A_bb_1_j54_2 i0 i1 i2 j0 j1 j2)
def own_f1c_A_bb_1 (i0 : Int32) (i1 : Int32) (i2 : Int32) (j0 : Int32) (j1 : Int32) (j2 : Int32) : Int32 := (own_f1c_A_bb_1_j54_1 i0 i1 i2 j0 j1 j2)
def own_f1c_A_bb_2_j54_3 (i0 : Int32) (i1 : Int32) (i2 : Int32) (j0 : Int32) (j1 : Int32) (j2 : Int32) : Int32 := ((own_f1c_x2 i0 i1 i2 j0 j1 j2).toInt32)
def own_f1c_A_bb_2_j54_2 (i0 : Int32) (i1 : Int32) (i2 : Int32) (j0 : Int32) (j1 : Int32) (j2 : Int32) : Int32 := (own_f1c_A_bb_2_j54_3 i0 i1 i2 j0 j1 j2)
def own_f1c_A_bb_2_j54_1 (i0 : Int32) (i1 : Int32) (i2 : Int32) (j0 : Int32) (j1 : Int32) (j2 : Int32) : Int32 := (own_f1c_A_bb_2_j54_2 i0 i1 i2 j0 j1 j2)
def own_f1c_A_bb_2 (i0 : Int32) (i1 : Int32) (i2 : Int32) (j0 : Int32) (j1 : Int32) (j2 : Int32) : Int32 := (own_f1c_A_bb_2_j54_1 i0 i1 i2 j0 j1 j2)
def Q1c (Z : State) (aa : Addr) (bb : Addr) (i0 : Int32) (i1 : Int32) (i2 : Int32) (j0 : Int32) (j1 : Int32) (j2 : Int32) (k_aa : ClassId) (k_bb : ClassId) (h0 : Heap) (n0 : Nat) (v : Option Value) (h : Heap) (L : List Loc) : Prop := v = none ∧ Fr n0 L ∧ Keep h0 h [bb] ∧ Arv Z h bb k_bb .int (3 : Int32) [.int (own_f1c_A_bb_0 i0 i1 i2 j0 j1 j2), .int (own_f1c_A_bb_1 i0 i1 i2 j0 j1 j2), .int (own_f1c_A_bb_2 i0 i1 i2 j0 j1 j2)] (.int (0 : Int32))
set_option maxRecDepth 65536 in
set_option maxHeartbeats 40000000 in
theorem rm1c (l : Launch) (Z : State) (a0 : Array Value) (hw : ∀ d ∈ tables_1, d.before a0 Z = true) (ws : List Jvm.Cond) (aa : Addr) (bb : Addr) (i0 : Int32) (i1 : Int32) (i2 : Int32) (j0 : Int32) (j1 : Int32) (j2 : Int32) (k_aa : ClassId) (k_bb : ClassId) (h0 : Heap) (n0 : Nat) (Z0 : n0 ≤ h0.size) (V_aa : Arv Z h0 aa k_aa .int (3 : Int32) [.int i0, .int i1, .int i2] (.int (0 : Int32))) (V_bb : Arv Z h0 bb k_bb .int (3 : Int32) [.int j0, .int j1, .int j2] (.int (0 : Int32))) (g_bb : n0 ≤ bb) (ne_aa_bb : aa ≠ bb) :
    Con l (⟨"com/example/tideway/tideway/engine/Limbs", "subtract", "([I[I[I)V"⟩ : MethodName) prog_43_method_5_code 8 none ws ({ frames := 0, cells := 0, slots := 0, locals := 0 } : Room) #[(.ref aa), (.ref bb), (.ref bb)] Z h0 (Q1c Z aa bb i0 i1 i2 j0 j1 j2 k_aa k_bb h0 n0) ({ frames := 0, cells := 0, slots := 0, locals := 0 } : Room).cells ({ frames := 0, cells := 0, slots := 0, locals := 0 } : Room).slots := by
  refine own_body (plainFor_of_name pn_1) ?_
  intro p e s m below meth c s₁ hx hby hlk hml hown hnm hrt hZ X0 e0
  have w : ∀ (k : Nat) (d : Jvm.Cond), tables_1[k]? = some d → d.before a0 Z = true := fun k d h => hw d (List.mem_of_getElem? h)
  have N0 := Fr.nil n0
  have K0 := Keep.refl h0 [bb]
  rw [ef_1c]
  generalize hOWE : Owe s _ _ _ = OWE
  refine o_lconst X0 hx (0 : Int64) (hb hby d1_0) (pc' := 1) rfl (by decide) ?_
  refine o_lstoreN X0 hx (hb hby d1_1) (pc' := 2) rfl (L' := #[.val (.ref aa), .val (.ref bb), .val (.ref bb), .val (.long (0 : Int64)), .second, .unset, .unset, .unset]) rfl ?_
  refine o_iconst X0 hx (0 : Int32) (hb hby d1_2) (pc' := 3) rfl (by decide) ?_
  refine o_istore X0 hx (hb hby d1_3) (pc' := 5) rfl (L' := #[.val (.ref aa), .val (.ref bb), .val (.ref bb), .val (.long (0 : Int64)), .second, .val (.int (0 : Int32)), .unset, .unset]) rfl ?_
  refine o_iload X0 hx (hb hby d1_5) (pc' := 7) rfl rfl ?_
  refine o_aloadN X0 hx (hb hby d1_7) (pc' := 8) rfl rfl rfl ?_
  refine o_arraylength X0 hx hZ e0 V_bb (hb hby d1_8) (pc' := 9) rfl ?_
  refine o_cmpN X0 hx (hb hby d1_9) (tlt (by decide : (0 : Int32) < (3 : Int32))).2.1 (pc' := 12) rfl ?_
  refine o_aloadN X0 hx (hb hby d1_12) (pc' := 13) rfl rfl rfl ?_
  refine o_iload X0 hx (hb hby d1_13) (pc' := 15) rfl rfl ?_
  refine o_iaload X0 hx hZ (.int i0) e0 V_aa (by decide) (by rfl) (hb hby d1_15) (pc' := 16) rfl ?_
  refine o_i2l X0 hx (hb hby d1_16) (pc' := 17) rfl ?_
  refine o_ldcJ X0 hx hZ (4294967295 : Int64) hown (w 7 _ rfl) (hb hby d1_17) (pc' := 20) rfl ?_
  refine o_land X0 hx (hb hby d1_20) (pc' := 21) rfl ?_
  refine o_aloadN X0 hx (hb hby d1_21) (pc' := 22) rfl rfl rfl ?_
  refine o_iload X0 hx (hb hby d1_22) (pc' := 24) rfl rfl ?_
  refine o_iaload X0 hx hZ (.int j0) e0 V_bb (by decide) (by rfl) (hb hby d1_24) (pc' := 25) rfl ?_
  refine o_i2l X0 hx (hb hby d1_25) (pc' := 26) rfl ?_
  refine o_ldcJ X0 hx hZ (4294967295 : Int64) hown (w 7 _ rfl) (hb hby d1_26) (pc' := 29) rfl ?_
  refine o_land X0 hx (hb hby d1_29) (pc' := 30) rfl ?_
  refine o_lsub X0 hx (hb hby d1_30) (pc' := 31) rfl ?_
  refine o_lloadN X0 hx (hb hby d1_31) (pc' := 32) rfl rfl ?_
  refine o_lsub X0 hx (hb hby d1_32) (pc' := 33) rfl ?_
  refine o_lstore (x := (own_f1c_x0 i0 i1 i2 j0 j1 j2)) X0 hx (hb hby d1_33) (pc' := 35) rfl (L' := #[.val (.ref aa), .val (.ref bb), .val (.ref bb), .val (.long (0 : Int64)), .second, .val (.int (0 : Int32)), .val (.long (own_f1c_x0 i0 i1 i2 j0 j1 j2)), .second]) rfl ?_
  refine o_aloadN X0 hx (hb hby d1_35) (pc' := 36) rfl rfl rfl ?_
  refine o_iload X0 hx (hb hby d1_36) (pc' := 38) rfl rfl ?_
  refine o_lload X0 hx (hb hby d1_38) (pc' := 40) rfl rfl ?_
  refine o_l2i X0 hx (hb hby d1_40) (pc' := 41) rfl ?_
  refine o_iastore X0 hx hZ 0 e0 V_bb (by decide) (by decide) (by exact (by decide : 0 < 3)) (vs' := [.int ((own_f1c_x0 i0 i1 i2 j0 j1 j2).toInt32), .int j1, .int j2]) rfl (hb hby d1_41) (pc' := 42) rfl ?_
  intro T1 h1 X1 e1 W1 V1_
  have V2_aa := Arv.other V_aa W1 ne_aa_bb
  have N1 := Fr.snoc X1 N0 g_bb
  have Z1 : n0 ≤ h1.size := by rw [W1.size]; exact Z0
  have K1 := Keep.wr K0 W1 (Or.inl (List.mem_of_getElem? (i := 0) rfl))
  refine o_lload X1 hx (hb hby d1_42) (pc' := 44) rfl rfl ?_
  refine o_lconst X1 hx (0 : Int64) (hb hby d1_44) (pc' := 45) rfl (by decide) ?_
  refine o_lcmp X1 hx (hb hby d1_45) (pc' := 46) rfl ?_
  have J54_1 : ∀ (z0 : Int64), z0 = (own_f1c_v54_1_S0 i0 i1 i2 j0 j1 j2) → Go p e below OWE (T1.setTop (mkF m 54 #[.val (.ref aa), .val (.ref bb), .val (.ref bb), .val (.long (0 : Int64)), .second, .val (.int (0 : Int32)), .val (.long (own_f1c_x0 i0 i1 i2 j0 j1 j2)), .second] [.long z0])) := by
    intro z0 yy0
    subst yy0
    refine o_lstoreN X1 hx (hb hby d1_54) (pc' := 55) rfl (L' := #[.val (.ref aa), .val (.ref bb), .val (.ref bb), .val (.long (own_f1c_v54_1_S0 i0 i1 i2 j0 j1 j2)), .second, .val (.int (0 : Int32)), .val (.long (own_f1c_x0 i0 i1 i2 j0 j1 j2)), .second]) rfl ?_
    refine o_iinc X1 hx (hb hby d1_55) (pc' := 58) rfl rfl (v' := (1 : Int32)) (by first | rfl | decide) (L' := #[.val (.ref aa), .val (.ref bb), .val (.ref bb), .val (.long (own_f1c_v54_1_S0 i0 i1 i2 j0 j1 j2)), .second, .val (.int (1 : Int32)), .val (.long (own_f1c_x0 i0 i1 i2 j0 j1 j2)), .second]) rfl ?_
    refine o_goto X1 hx (hb hby d1_58) (by decide) (pc' := 5) (by decide) ?_
    refine o_iload X1 hx (hb hby d1_5) (pc' := 7) rfl rfl ?_
    refine o_aloadN X1 hx (hb hby d1_7) (pc' := 8) rfl rfl rfl ?_
    refine o_arraylength X1 hx hZ e1 V1_ (hb hby d1_8) (pc' := 9) rfl ?_
    refine o_cmpN X1 hx (hb hby d1_9) (tlt (by decide : (1 : Int32) < (3 : Int32))).2.1 (pc' := 12) rfl ?_
    refine o_aloadN X1 hx (hb hby d1_12) (pc' := 13) rfl rfl rfl ?_
    refine o_iload X1 hx (hb hby d1_13) (pc' := 15) rfl rfl ?_
    refine o_iaload X1 hx hZ (.int i1) e1 V2_aa (by decide) (by rfl) (hb hby d1_15) (pc' := 16) rfl ?_
    refine o_i2l X1 hx (hb hby d1_16) (pc' := 17) rfl ?_
    refine o_ldcJ X1 hx hZ (4294967295 : Int64) hown (w 7 _ rfl) (hb hby d1_17) (pc' := 20) rfl ?_
    refine o_land X1 hx (hb hby d1_20) (pc' := 21) rfl ?_
    refine o_aloadN X1 hx (hb hby d1_21) (pc' := 22) rfl rfl rfl ?_
    refine o_iload X1 hx (hb hby d1_22) (pc' := 24) rfl rfl ?_
    refine o_iaload X1 hx hZ (.int j1) e1 V1_ (by decide) (by rfl) (hb hby d1_24) (pc' := 25) rfl ?_
    refine o_i2l X1 hx (hb hby d1_25) (pc' := 26) rfl ?_
    refine o_ldcJ X1 hx hZ (4294967295 : Int64) hown (w 7 _ rfl) (hb hby d1_26) (pc' := 29) rfl ?_
    refine o_land X1 hx (hb hby d1_29) (pc' := 30) rfl ?_
    refine o_lsub X1 hx (hb hby d1_30) (pc' := 31) rfl ?_
    refine o_lloadN X1 hx (hb hby d1_31) (pc' := 32) rfl rfl ?_
    refine o_lsub X1 hx (hb hby d1_32) (pc' := 33) rfl ?_
    refine o_lstore (x := (own_f1c_x1 i0 i1 i2 j0 j1 j2)) X1 hx (hb hby d1_33) (pc' := 35) rfl (L' := #[.val (.ref aa), .val (.ref bb), .val (.ref bb), .val (.long (own_f1c_v54_1_S0 i0 i1 i2 j0 j1 j2)), .second, .val (.int (1 : Int32)), .val (.long (own_f1c_x1 i0 i1 i2 j0 j1 j2)), .second]) rfl ?_
    refine o_aloadN X1 hx (hb hby d1_35) (pc' := 36) rfl rfl rfl ?_
    refine o_iload X1 hx (hb hby d1_36) (pc' := 38) rfl rfl ?_
    refine o_lload X1 hx (hb hby d1_38) (pc' := 40) rfl rfl ?_
    refine o_l2i X1 hx (hb hby d1_40) (pc' := 41) rfl ?_
    refine o_iastore X1 hx hZ 1 e1 V1_ (by decide) (by decide) (by exact (by decide : 1 < 3)) (vs' := [.int ((own_f1c_x0 i0 i1 i2 j0 j1 j2).toInt32), .int ((own_f1c_x1 i0 i1 i2 j0 j1 j2).toInt32), .int j2]) rfl (hb hby d1_41) (pc' := 42) rfl ?_
    intro T4 h4 X4 e4 W4 V4_
    have V5_aa := Arv.other V2_aa W4 ne_aa_bb
    have N4 := Fr.snoc X4 N1 g_bb
    have Z4 : n0 ≤ h4.size := by rw [W4.size]; exact Z1
    have K4 := Keep.wr K1 W4 (Or.inl (List.mem_of_getElem? (i := 0) rfl))
    refine o_lload X4 hx (hb hby d1_42) (pc' := 44) rfl rfl ?_
    refine o_lconst X4 hx (0 : Int64) (hb hby d1_44) (pc' := 45) rfl (by decide) ?_
    refine o_lcmp X4 hx (hb hby d1_45) (pc' := 46) rfl ?_
    have J54_2 : ∀ (z0 : Int64), z0 = (own_f1c_v54_2_S0 i0 i1 i2 j0 j1 j2) → Go p e below OWE (T4.setTop (mkF m 54 #[.val (.ref aa), .val (.ref bb), .val (.ref bb), .val (.long (own_f1c_v54_1_S0 i0 i1 i2 j0 j1 j2)), .second, .val (.int (1 : Int32)), .val (.long (own_f1c_x1 i0 i1 i2 j0 j1 j2)), .second] [.long z0])) := by
      intro z0 yy0
      subst yy0
      refine o_lstoreN X4 hx (hb hby d1_54) (pc' := 55) rfl (L' := #[.val (.ref aa), .val (.ref bb), .val (.ref bb), .val (.long (own_f1c_v54_2_S0 i0 i1 i2 j0 j1 j2)), .second, .val (.int (1 : Int32)), .val (.long (own_f1c_x1 i0 i1 i2 j0 j1 j2)), .second]) rfl ?_
      refine o_iinc X4 hx (hb hby d1_55) (pc' := 58) rfl rfl (v' := (2 : Int32)) (by first | rfl | decide) (L' := #[.val (.ref aa), .val (.ref bb), .val (.ref bb), .val (.long (own_f1c_v54_2_S0 i0 i1 i2 j0 j1 j2)), .second, .val (.int (2 : Int32)), .val (.long (own_f1c_x1 i0 i1 i2 j0 j1 j2)), .second]) rfl ?_
      refine o_goto X4 hx (hb hby d1_58) (by decide) (pc' := 5) (by decide) ?_
      refine o_iload X4 hx (hb hby d1_5) (pc' := 7) rfl rfl ?_
      refine o_aloadN X4 hx (hb hby d1_7) (pc' := 8) rfl rfl rfl ?_
      refine o_arraylength X4 hx hZ e4 V4_ (hb hby d1_8) (pc' := 9) rfl ?_
      refine o_cmpN X4 hx (hb hby d1_9) (tlt (by decide : (2 : Int32) < (3 : Int32))).2.1 (pc' := 12) rfl ?_
      refine o_aloadN X4 hx (hb hby d1_12) (pc' := 13) rfl rfl rfl ?_
      refine o_iload X4 hx (hb hby d1_13) (pc' := 15) rfl rfl ?_
      refine o_iaload X4 hx hZ (.int i2) e4 V5_aa (by decide) (by rfl) (hb hby d1_15) (pc' := 16) rfl ?_
      refine o_i2l X4 hx (hb hby d1_16) (pc' := 17) rfl ?_
      refine o_ldcJ X4 hx hZ (4294967295 : Int64) hown (w 7 _ rfl) (hb hby d1_17) (pc' := 20) rfl ?_
      refine o_land X4 hx (hb hby d1_20) (pc' := 21) rfl ?_
      refine o_aloadN X4 hx (hb hby d1_21) (pc' := 22) rfl rfl rfl ?_
      refine o_iload X4 hx (hb hby d1_22) (pc' := 24) rfl rfl ?_
      refine o_iaload X4 hx hZ (.int j2) e4 V4_ (by decide) (by rfl) (hb hby d1_24) (pc' := 25) rfl ?_
      refine o_i2l X4 hx (hb hby d1_25) (pc' := 26) rfl ?_
      refine o_ldcJ X4 hx hZ (4294967295 : Int64) hown (w 7 _ rfl) (hb hby d1_26) (pc' := 29) rfl ?_
      refine o_land X4 hx (hb hby d1_29) (pc' := 30) rfl ?_
      refine o_lsub X4 hx (hb hby d1_30) (pc' := 31) rfl ?_
      refine o_lloadN X4 hx (hb hby d1_31) (pc' := 32) rfl rfl ?_
      refine o_lsub X4 hx (hb hby d1_32) (pc' := 33) rfl ?_
      refine o_lstore (x := (own_f1c_x2 i0 i1 i2 j0 j1 j2)) X4 hx (hb hby d1_33) (pc' := 35) rfl (L' := #[.val (.ref aa), .val (.ref bb), .val (.ref bb), .val (.long (own_f1c_v54_2_S0 i0 i1 i2 j0 j1 j2)), .second, .val (.int (2 : Int32)), .val (.long (own_f1c_x2 i0 i1 i2 j0 j1 j2)), .second]) rfl ?_
      refine o_aloadN X4 hx (hb hby d1_35) (pc' := 36) rfl rfl rfl ?_
      refine o_iload X4 hx (hb hby d1_36) (pc' := 38) rfl rfl ?_
      refine o_lload X4 hx (hb hby d1_38) (pc' := 40) rfl rfl ?_
      refine o_l2i X4 hx (hb hby d1_40) (pc' := 41) rfl ?_
      refine o_iastore X4 hx hZ 2 e4 V4_ (by decide) (by decide) (by exact (by decide : 2 < 3)) (vs' := [.int ((own_f1c_x0 i0 i1 i2 j0 j1 j2).toInt32), .int ((own_f1c_x1 i0 i1 i2 j0 j1 j2).toInt32), .int ((own_f1c_x2 i0 i1 i2 j0 j1 j2).toInt32)]) rfl (hb hby d1_41) (pc' := 42) rfl ?_
      intro T7 h7 X7 e7 W7 V7_
      have V8_aa := Arv.other V5_aa W7 ne_aa_bb
      have N7 := Fr.snoc X7 N4 g_bb
      have Z7 : n0 ≤ h7.size := by rw [W7.size]; exact Z4
      have K7 := Keep.wr K4 W7 (Or.inl (List.mem_of_getElem? (i := 0) rfl))
      refine o_lload X7 hx (hb hby d1_42) (pc' := 44) rfl rfl ?_
      refine o_lconst X7 hx (0 : Int64) (hb hby d1_44) (pc' := 45) rfl (by decide) ?_
      refine o_lcmp X7 hx (hb hby d1_45) (pc' := 46) rfl ?_
      have J54_3 : ∀ (z0 : Int64), z0 = (own_f1c_v54_3_S0 i0 i1 i2 j0 j1 j2) → Go p e below OWE (T7.setTop (mkF m 54 #[.val (.ref aa), .val (.ref bb), .val (.ref bb), .val (.long (own_f1c_v54_2_S0 i0 i1 i2 j0 j1 j2)), .second, .val (.int (2 : Int32)), .val (.long (own_f1c_x2 i0 i1 i2 j0 j1 j2)), .second] [.long z0])) := by
        intro z0 yy0
        subst yy0
        refine o_lstoreN X7 hx (hb hby d1_54) (pc' := 55) rfl (L' := #[.val (.ref aa), .val (.ref bb), .val (.ref bb), .val (.long (own_f1c_v54_3_S0 i0 i1 i2 j0 j1 j2)), .second, .val (.int (2 : Int32)), .val (.long (own_f1c_x2 i0 i1 i2 j0 j1 j2)), .second]) rfl ?_
        refine o_iinc X7 hx (hb hby d1_55) (pc' := 58) rfl rfl (v' := (3 : Int32)) (by first | rfl | decide) (L' := #[.val (.ref aa), .val (.ref bb), .val (.ref bb), .val (.long (own_f1c_v54_3_S0 i0 i1 i2 j0 j1 j2)), .second, .val (.int (3 : Int32)), .val (.long (own_f1c_x2 i0 i1 i2 j0 j1 j2)), .second]) rfl ?_
        refine o_goto X7 hx (hb hby d1_58) (by decide) (pc' := 5) (by decide) ?_
        refine o_iload X7 hx (hb hby d1_5) (pc' := 7) rfl rfl ?_
        refine o_aloadN X7 hx (hb hby d1_7) (pc' := 8) rfl rfl rfl ?_
        refine o_arraylength X7 hx hZ e7 V7_ (hb hby d1_8) (pc' := 9) rfl ?_
        refine o_cmpY X7 hx (hb hby d1_9) (flt (by decide : ¬ ((3 : Int32) < (3 : Int32)))).2.1 (by decide) (pc' := 61) (by decide) ?_
        rw [← hOWE]
        exact o_retV X7 hx hlk hrt (hb hby d1_61) (by decide) (by decide) (by rw [e7]; exact ⟨rfl, N7, K7, (by rw [own_f1c_A_bb_0, own_f1c_A_bb_0_j54_1, own_f1c_A_bb_0_j54_2, own_f1c_A_bb_0_j54_3, own_f1c_A_bb_1, own_f1c_A_bb_1_j54_1, own_f1c_A_bb_1_j54_2, own_f1c_A_bb_1_j54_3, own_f1c_A_bb_2, own_f1c_A_bb_2_j54_1, own_f1c_A_bb_2_j54_2, own_f1c_A_bb_2_j54_3]; exact V7_)⟩)
      by_cases hc46_9 : (own_f1c_x2 i0 i1 i2 j0 j1 j2) < (0 : Int64)
      · refine o_ifN X7 hx (hb hby d1_46) (tltL hc46_9).2.1 (pc' := 49) rfl ?_
        refine o_lconst X7 hx (1 : Int64) (hb hby d1_49) (pc' := 50) rfl (by decide) ?_
        refine o_goto X7 hx (hb hby d1_50) (by decide) (pc' := 54) (by decide) ?_
        exact J54_3 ((1 : Int64)) (by rw [own_f1c_v54_3_S0, if_pos hc46_9])
      · refine o_ifY X7 hx (hb hby d1_46) (fltL hc46_9).2.1 (by decide) (pc' := 53) (by decide) ?_
        refine o_lconst X7 hx (0 : Int64) (hb hby d1_53) (pc' := 54) rfl (by decide) ?_
        exact J54_3 ((0 : Int64)) (by rw [own_f1c_v54_3_S0, if_neg hc46_9])
    by_cases hc46_6 : (own_f1c_x1 i0 i1 i2 j0 j1 j2) < (0 : Int64)
    · refine o_ifN X4 hx (hb hby d1_46) (tltL hc46_6).2.1 (pc' := 49) rfl ?_
      refine o_lconst X4 hx (1 : Int64) (hb hby d1_49) (pc' := 50) rfl (by decide) ?_
      refine o_goto X4 hx (hb hby d1_50) (by decide) (pc' := 54) (by decide) ?_
      exact J54_2 ((1 : Int64)) (by rw [own_f1c_v54_2_S0, if_pos hc46_6])
    · refine o_ifY X4 hx (hb hby d1_46) (fltL hc46_6).2.1 (by decide) (pc' := 53) (by decide) ?_
      refine o_lconst X4 hx (0 : Int64) (hb hby d1_53) (pc' := 54) rfl (by decide) ?_
      exact J54_2 ((0 : Int64)) (by rw [own_f1c_v54_2_S0, if_neg hc46_6])
  by_cases hc46_3 : (own_f1c_x0 i0 i1 i2 j0 j1 j2) < (0 : Int64)
  · refine o_ifN X1 hx (hb hby d1_46) (tltL hc46_3).2.1 (pc' := 49) rfl ?_
    refine o_lconst X1 hx (1 : Int64) (hb hby d1_49) (pc' := 50) rfl (by decide) ?_
    refine o_goto X1 hx (hb hby d1_50) (by decide) (pc' := 54) (by decide) ?_
    exact J54_1 ((1 : Int64)) (by rw [own_f1c_v54_1_S0, if_pos hc46_3])
  · refine o_ifY X1 hx (hb hby d1_46) (fltL hc46_3).2.1 (by decide) (pc' := 53) (by decide) ?_
    refine o_lconst X1 hx (0 : Int64) (hb hby d1_53) (pc' := 54) rfl (by decide) ?_
    exact J54_1 ((0 : Int64)) (by rw [own_f1c_v54_1_S0, if_neg hc46_3])
theorem d2_0 : decode method_2_code 0 = .ok (.lload_n 0, 1) := by decide +kernel
theorem d2_1 : decode method_2_code 1 = .ok (.ldc2_w 7, 3) := by decide +kernel
theorem d2_4 : decode method_2_code 4 = .ok (.lxor, 1) := by decide +kernel
theorem d2_5 : decode method_2_code 5 = .ok (.lload_n 2, 1) := by decide +kernel
theorem d2_6 : decode method_2_code 6 = .ok (.ldc2_w 7, 3) := by decide +kernel
theorem d2_9 : decode method_2_code 9 = .ok (.lxor, 1) := by decide +kernel
theorem d2_10 : decode method_2_code 10 = .ok (.lcmp, 1) := by decide +kernel
theorem d2_11 : decode method_2_code 11 = .ok (.ifCond .ge 7, 3) := by decide +kernel
theorem d2_14 : decode method_2_code 14 = .ok (.iconst 1, 1) := by decide +kernel
theorem d2_15 : decode method_2_code 15 = .ok (.goto 4, 3) := by decide +kernel
theorem d2_18 : decode method_2_code 18 = .ok (.iconst 0, 1) := by decide +kernel
theorem d2_19 : decode method_2_code 19 = .ok (.ireturn, 1) := by decide +kernel
theorem pn_2 : plainName "com/example/tideway/tideway/engine/LimbsSubtractPinLaw" = true := by first | (simp [plainName, overriddenIn]; done) | decide +kernel
theorem ef_2 (m : MethodId) (x0 : Int64) (x1 : Int64) : entryFrame m #[(.long x0), (.long x1)] 4 = mkF m 0 #[.val (.long x0), .second, .val (.long x1), .second] [] := by first | (simp [entryFrame, mkF, argsToLocals, Value.category]; done) | rfl
def own_f2_ret (x1 : Int64) (x2 : Int64) : Int32 := (if (x1 ^^^ (-9223372036854775808 : Int64)) < (x2 ^^^ (-9223372036854775808 : Int64)) then (1 : Int32) else (0 : Int32))
theorem own_f2_ret_01 (x1 : Int64) (x2 : Int64) : (own_f2_ret x1 x2) = 0 ∨ (own_f2_ret x1 x2) = 1 := by
  unfold own_f2_ret
  repeat' split
  all_goals first | with_reducible exact Or.inl rfl | with_reducible exact Or.inr rfl
def Q2 (Z : State) (x1 : Int64) (x2 : Int64) (h0 : Heap) (n0 : Nat) (v : Option Value) (h : Heap) (L : List Loc) : Prop := v = some (.int (own_f2_ret x1 x2)) ∧ Fr n0 L ∧ h = h0
set_option maxRecDepth 65536 in
set_option maxHeartbeats 40000000 in
theorem rm2 (l : Launch) (Z : State) (a0 : Array Value) (hw : ∀ d ∈ tables_1, d.before a0 Z = true) (ws : List Jvm.Cond) (x1 : Int64) (x2 : Int64) (h0 : Heap) (n0 : Nat) (Z0 : n0 ≤ h0.size)  :
    Con l (⟨"com/example/tideway/tideway/engine/LimbsSubtractPinLaw", "ltU", "(JJ)Z"⟩ : MethodName) method_2_code 4 (some .boolean) ws ({ frames := 0, cells := 0, slots := 0, locals := 0 } : Room) #[(.long x1), (.long x2)] Z h0 (Q2 Z x1 x2 h0 n0) ({ frames := 0, cells := 0, slots := 0, locals := 0 } : Room).cells ({ frames := 0, cells := 0, slots := 0, locals := 0 } : Room).slots := by
  refine own_body (plainFor_of_name pn_2) ?_
  intro p e s m below meth c s₁ hx hby hlk hml hown hnm hrt hZ X0 e0
  have w : ∀ (k : Nat) (d : Jvm.Cond), tables_1[k]? = some d → d.before a0 Z = true := fun k d h => hw d (List.mem_of_getElem? h)
  have N0 := Fr.nil n0
  rw [ef_2]
  generalize hOWE : Owe s _ _ _ = OWE
  refine o_lloadN X0 hx (hb hby d2_0) (pc' := 1) rfl rfl ?_
  refine o_ldcJ X0 hx hZ (-9223372036854775808 : Int64) hown (w 12 _ rfl) (hb hby d2_1) (pc' := 4) rfl ?_
  refine o_lxor X0 hx (hb hby d2_4) (pc' := 5) rfl ?_
  refine o_lloadN X0 hx (hb hby d2_5) (pc' := 6) rfl rfl ?_
  refine o_ldcJ X0 hx hZ (-9223372036854775808 : Int64) hown (w 12 _ rfl) (hb hby d2_6) (pc' := 9) rfl ?_
  refine o_lxor X0 hx (hb hby d2_9) (pc' := 10) rfl ?_
  refine o_lcmp X0 hx (hb hby d2_10) (pc' := 11) rfl ?_
  by_cases hc11_1 : (x1 ^^^ (-9223372036854775808 : Int64)) < (x2 ^^^ (-9223372036854775808 : Int64))
  · refine o_ifN X0 hx (hb hby d2_11) (tltL hc11_1).2.1 (pc' := 14) rfl ?_
    refine o_iconst X0 hx (1 : Int32) (hb hby d2_14) (pc' := 15) rfl (by decide) ?_
    refine o_goto X0 hx (hb hby d2_15) (by decide) (pc' := 19) (by decide) ?_
    rw [← hOWE]
    exact o_retZ X0 hx rfl hlk hrt (hb hby d2_19) (by decide) (by decide) (by rw [e0]; exact ⟨(by rw [own_f2_ret, if_pos hc11_1]), N0, rfl⟩)
  · refine o_ifY X0 hx (hb hby d2_11) (fltL hc11_1).2.1 (by decide) (pc' := 18) (by decide) ?_
    refine o_iconst X0 hx (0 : Int32) (hb hby d2_18) (pc' := 19) rfl (by decide) ?_
    rw [← hOWE]
    exact o_retZ X0 hx rfl hlk hrt (hb hby d2_19) (by decide) (by decide) (by rw [e0]; exact ⟨(by rw [own_f2_ret, if_neg hc11_1]), N0, rfl⟩)
theorem ef_0 (m : MethodId) (x0 : Int64) (x1 : Int32) (x2 : Int64) (x3 : Int32) (x4 : Int32) : entryFrame m #[(.long x0), (.int x1), (.long x2), (.int x3), (.int x4)] maxLocals = mkF m 0 #[.val (.long x0), .second, .val (.int x1), .val (.long x2), .second, .val (.int x3), .val (.int x4), .unset, .unset, .unset, .unset, .unset, .unset, .unset, .unset, .unset, .unset, .unset, .unset, .unset, .unset, .unset, .unset, .unset, .unset, .unset, .unset, .unset] [] := by first | (simp [entryFrame, mkF, argsToLocals, Value.category, maxLocals]; done) | rfl
def own_law_x0 (q0 : Int64) (q1 : Int32) (q2 : Int64) (q3 : Int32) (q4 : Int32) : Int64 := ((q1.toInt64) &&& (4294967295 : Int64))
def own_law_x1 (q0 : Int64) (q1 : Int32) (q2 : Int64) (q3 : Int32) (q4 : Int32) : Int64 := ((q3.toInt64) &&& (4294967295 : Int64))
def own_law_v44_1_S0 (q0 : Int64) (q1 : Int32) (q2 : Int64) (q3 : Int32) (q4 : Int32) : Int32 := (if (own_law_x0 q0 q1 q2 q3 q4) < (own_law_x1 q0 q1 q2 q3 q4) then (1 : Int32) else (if q1 = q3 then (if (own_f2_ret q0 q2) = (0 : Int32) then (0 : Int32) else (1 : Int32)) else (0 : Int32)))
theorem own_law_v44_1_S0_01 (q0 : Int64) (q1 : Int32) (q2 : Int64) (q3 : Int32) (q4 : Int32) : (own_law_v44_1_S0 q0 q1 q2 q3 q4) = 0 ∨ (own_law_v44_1_S0 q0 q1 q2 q3 q4) = 1 := by
  unfold own_law_v44_1_S0
  by_cases h0 : (own_law_x0 q0 q1 q2 q3 q4) < (own_law_x1 q0 q1 q2 q3 q4)
  · rw [if_pos h0]
    exact Or.inr rfl
  · rw [if_neg h0]
    by_cases h1 : q1 = q3
    · rw [if_pos h1]
      by_cases h2 : (own_f2_ret q0 q2) = (0 : Int32)
      · rw [if_pos h2]
        exact Or.inl rfl
      · rw [if_neg h2]
        exact Or.inr rfl
    · rw [if_neg h1]
      exact Or.inl rfl
def own_law_v56_2_S0 (q0 : Int64) (q1 : Int32) (q2 : Int64) (q3 : Int32) (q4 : Int32) : Int64 := (if (own_law_v44_1_S0 q0 q1 q2 q3 q4) = (0 : Int32) then q0 else q2)
def own_law_v69_3_S0 (q0 : Int64) (q1 : Int32) (q2 : Int64) (q3 : Int32) (q4 : Int32) : Int32 := (if (own_law_v44_1_S0 q0 q1 q2 q3 q4) = (0 : Int32) then q1 else q3)
def own_law_v81_4_S0 (q0 : Int64) (q1 : Int32) (q2 : Int64) (q3 : Int32) (q4 : Int32) : Int64 := (if (own_law_v44_1_S0 q0 q1 q2 q3 q4) = (0 : Int32) then q2 else q0)
def own_law_v94_5_S0 (q0 : Int64) (q1 : Int32) (q2 : Int64) (q3 : Int32) (q4 : Int32) : Int32 := (if (own_law_v44_1_S0 q0 q1 q2 q3 q4) = (0 : Int32) then q3 else q1)
def own_law_x2 (q0 : Int64) (q1 : Int32) (q2 : Int64) (q3 : Int32) (q4 : Int32) : Int32 := ((q4 &&& (2147483647 : Int32)) % (3 : Int32))
def own_law_x3 (q0 : Int64) (q1 : Int32) (q2 : Int64) (q3 : Int32) (q4 : Int32) : Int64 := ((own_law_v56_2_S0 q0 q1 q2 q3 q4) - (own_law_v81_4_S0 q0 q1 q2 q3 q4))
def own_law_v217_6_S0 (q0 : Int64) (q1 : Int32) (q2 : Int64) (q3 : Int32) (q4 : Int32) : Int32 := (if (own_f2_ret (own_law_v56_2_S0 q0 q1 q2 q3 q4) (own_law_v81_4_S0 q0 q1 q2 q3 q4)) = (0 : Int32) then (0 : Int32) else (1 : Int32))
theorem own_law_v217_6_S0_01 (q0 : Int64) (q1 : Int32) (q2 : Int64) (q3 : Int32) (q4 : Int32) : (own_law_v217_6_S0 q0 q1 q2 q3 q4) = 0 ∨ (own_law_v217_6_S0 q0 q1 q2 q3 q4) = 1 := by
  unfold own_law_v217_6_S0
  by_cases h0 : (own_f2_ret (own_law_v56_2_S0 q0 q1 q2 q3 q4) (own_law_v81_4_S0 q0 q1 q2 q3 q4)) = (0 : Int32)
  · rw [if_pos h0]
    exact Or.inl rfl
  · rw [if_neg h0]
    exact Or.inr rfl
def own_law_x4 (q0 : Int64) (q1 : Int32) (q2 : Int64) (q3 : Int32) (q4 : Int32) : Int32 := (((own_law_v69_3_S0 q0 q1 q2 q3 q4) - (own_law_v94_5_S0 q0 q1 q2 q3 q4)) - (own_law_v217_6_S0 q0 q1 q2 q3 q4))
def own_law_v266_7_S0 (q0 : Int64) (q1 : Int32) (q2 : Int64) (q3 : Int32) (q4 : Int32) : Int32 := (if (own_f1b_A_aa_0 ((own_law_v56_2_S0 q0 q1 q2 q3 q4).toInt32) ((uL (own_law_v56_2_S0 q0 q1 q2 q3 q4) (32 : Int32)).toInt32) (own_law_v69_3_S0 q0 q1 q2 q3 q4) ((own_law_v81_4_S0 q0 q1 q2 q3 q4).toInt32) ((uL (own_law_v81_4_S0 q0 q1 q2 q3 q4) (32 : Int32)).toInt32) (own_law_v94_5_S0 q0 q1 q2 q3 q4)) = ((own_law_x3 q0 q1 q2 q3 q4).toInt32) then (if (own_f1b_A_aa_1 ((own_law_v56_2_S0 q0 q1 q2 q3 q4).toInt32) ((uL (own_law_v56_2_S0 q0 q1 q2 q3 q4) (32 : Int32)).toInt32) (own_law_v69_3_S0 q0 q1 q2 q3 q4) ((own_law_v81_4_S0 q0 q1 q2 q3 q4).toInt32) ((uL (own_law_v81_4_S0 q0 q1 q2 q3 q4) (32 : Int32)).toInt32) (own_law_v94_5_S0 q0 q1 q2 q3 q4)) = ((uL (own_law_x3 q0 q1 q2 q3 q4) (32 : Int32)).toInt32) then (if (own_f1b_A_aa_2 ((own_law_v56_2_S0 q0 q1 q2 q3 q4).toInt32) ((uL (own_law_v56_2_S0 q0 q1 q2 q3 q4) (32 : Int32)).toInt32) (own_law_v69_3_S0 q0 q1 q2 q3 q4) ((own_law_v81_4_S0 q0 q1 q2 q3 q4).toInt32) ((uL (own_law_v81_4_S0 q0 q1 q2 q3 q4) (32 : Int32)).toInt32) (own_law_v94_5_S0 q0 q1 q2 q3 q4)) = (own_law_x4 q0 q1 q2 q3 q4) then (1 : Int32) else (0 : Int32)) else (0 : Int32)) else (0 : Int32))
theorem own_law_v266_7_S0_01 (q0 : Int64) (q1 : Int32) (q2 : Int64) (q3 : Int32) (q4 : Int32) : (own_law_v266_7_S0 q0 q1 q2 q3 q4) = 0 ∨ (own_law_v266_7_S0 q0 q1 q2 q3 q4) = 1 := by
  unfold own_law_v266_7_S0
  by_cases h0 : (own_f1b_A_aa_0 ((own_law_v56_2_S0 q0 q1 q2 q3 q4).toInt32) ((uL (own_law_v56_2_S0 q0 q1 q2 q3 q4) (32 : Int32)).toInt32) (own_law_v69_3_S0 q0 q1 q2 q3 q4) ((own_law_v81_4_S0 q0 q1 q2 q3 q4).toInt32) ((uL (own_law_v81_4_S0 q0 q1 q2 q3 q4) (32 : Int32)).toInt32) (own_law_v94_5_S0 q0 q1 q2 q3 q4)) = ((own_law_x3 q0 q1 q2 q3 q4).toInt32)
  · rw [if_pos h0]
    by_cases h1 : (own_f1b_A_aa_1 ((own_law_v56_2_S0 q0 q1 q2 q3 q4).toInt32) ((uL (own_law_v56_2_S0 q0 q1 q2 q3 q4) (32 : Int32)).toInt32) (own_law_v69_3_S0 q0 q1 q2 q3 q4) ((own_law_v81_4_S0 q0 q1 q2 q3 q4).toInt32) ((uL (own_law_v81_4_S0 q0 q1 q2 q3 q4) (32 : Int32)).toInt32) (own_law_v94_5_S0 q0 q1 q2 q3 q4)) = ((uL (own_law_x3 q0 q1 q2 q3 q4) (32 : Int32)).toInt32)
    · rw [if_pos h1]
      by_cases h2 : (own_f1b_A_aa_2 ((own_law_v56_2_S0 q0 q1 q2 q3 q4).toInt32) ((uL (own_law_v56_2_S0 q0 q1 q2 q3 q4) (32 : Int32)).toInt32) (own_law_v69_3_S0 q0 q1 q2 q3 q4) ((own_law_v81_4_S0 q0 q1 q2 q3 q4).toInt32) ((uL (own_law_v81_4_S0 q0 q1 q2 q3 q4) (32 : Int32)).toInt32) (own_law_v94_5_S0 q0 q1 q2 q3 q4)) = (own_law_x4 q0 q1 q2 q3 q4)
      · rw [if_pos h2]
        exact Or.inr rfl
      · rw [if_neg h2]
        exact Or.inl rfl
    · rw [if_neg h1]
      exact Or.inl rfl
  · rw [if_neg h0]
    exact Or.inl rfl
def own_law_v366_8_S0 (q0 : Int64) (q1 : Int32) (q2 : Int64) (q3 : Int32) (q4 : Int32) : Int32 := (if (own_law_v266_7_S0 q0 q1 q2 q3 q4) = (0 : Int32) then (0 : Int32) else (1 : Int32))
theorem own_law_v366_8_S0_01 (q0 : Int64) (q1 : Int32) (q2 : Int64) (q3 : Int32) (q4 : Int32) : (own_law_v366_8_S0 q0 q1 q2 q3 q4) = 0 ∨ (own_law_v366_8_S0 q0 q1 q2 q3 q4) = 1 := by
  unfold own_law_v366_8_S0
  by_cases h0 : (own_law_v266_7_S0 q0 q1 q2 q3 q4) = (0 : Int32)
  · rw [if_pos h0]
    exact Or.inl rfl
  · rw [if_neg h0]
    exact Or.inr rfl
def own_law_v368_9_L27 (q0 : Int64) (q1 : Int32) (q2 : Int64) (q3 : Int32) (q4 : Int32) : Int32 := (if (own_law_x2 q0 q1 q2 q3 q4) = (2 : Int32) then (own_law_v266_7_S0 q0 q1 q2 q3 q4) else (own_law_v366_8_S0 q0 q1 q2 q3 q4))
theorem own_law_v368_9_L27_01 (q0 : Int64) (q1 : Int32) (q2 : Int64) (q3 : Int32) (q4 : Int32) : (own_law_v368_9_L27 q0 q1 q2 q3 q4) = 0 ∨ (own_law_v368_9_L27 q0 q1 q2 q3 q4) = 1 := by
  unfold own_law_v368_9_L27
  by_cases h0 : (own_law_x2 q0 q1 q2 q3 q4) = (2 : Int32)
  · rw [if_pos h0]
    exact (own_law_v266_7_S0_01 q0 q1 q2 q3 q4)
  · rw [if_neg h0]
    exact (own_law_v366_8_S0_01 q0 q1 q2 q3 q4)
def own_law_v266_12_S0 (q0 : Int64) (q1 : Int32) (q2 : Int64) (q3 : Int32) (q4 : Int32) : Int32 := (if (own_f1c_A_bb_0 ((own_law_v56_2_S0 q0 q1 q2 q3 q4).toInt32) ((uL (own_law_v56_2_S0 q0 q1 q2 q3 q4) (32 : Int32)).toInt32) (own_law_v69_3_S0 q0 q1 q2 q3 q4) ((own_law_v81_4_S0 q0 q1 q2 q3 q4).toInt32) ((uL (own_law_v81_4_S0 q0 q1 q2 q3 q4) (32 : Int32)).toInt32) (own_law_v94_5_S0 q0 q1 q2 q3 q4)) = ((own_law_x3 q0 q1 q2 q3 q4).toInt32) then (if (own_f1c_A_bb_1 ((own_law_v56_2_S0 q0 q1 q2 q3 q4).toInt32) ((uL (own_law_v56_2_S0 q0 q1 q2 q3 q4) (32 : Int32)).toInt32) (own_law_v69_3_S0 q0 q1 q2 q3 q4) ((own_law_v81_4_S0 q0 q1 q2 q3 q4).toInt32) ((uL (own_law_v81_4_S0 q0 q1 q2 q3 q4) (32 : Int32)).toInt32) (own_law_v94_5_S0 q0 q1 q2 q3 q4)) = ((uL (own_law_x3 q0 q1 q2 q3 q4) (32 : Int32)).toInt32) then (if (own_f1c_A_bb_2 ((own_law_v56_2_S0 q0 q1 q2 q3 q4).toInt32) ((uL (own_law_v56_2_S0 q0 q1 q2 q3 q4) (32 : Int32)).toInt32) (own_law_v69_3_S0 q0 q1 q2 q3 q4) ((own_law_v81_4_S0 q0 q1 q2 q3 q4).toInt32) ((uL (own_law_v81_4_S0 q0 q1 q2 q3 q4) (32 : Int32)).toInt32) (own_law_v94_5_S0 q0 q1 q2 q3 q4)) = (own_law_x4 q0 q1 q2 q3 q4) then (1 : Int32) else (0 : Int32)) else (0 : Int32)) else (0 : Int32))
theorem own_law_v266_12_S0_01 (q0 : Int64) (q1 : Int32) (q2 : Int64) (q3 : Int32) (q4 : Int32) : (own_law_v266_12_S0 q0 q1 q2 q3 q4) = 0 ∨ (own_law_v266_12_S0 q0 q1 q2 q3 q4) = 1 := by
  unfold own_law_v266_12_S0
  by_cases h0 : (own_f1c_A_bb_0 ((own_law_v56_2_S0 q0 q1 q2 q3 q4).toInt32) ((uL (own_law_v56_2_S0 q0 q1 q2 q3 q4) (32 : Int32)).toInt32) (own_law_v69_3_S0 q0 q1 q2 q3 q4) ((own_law_v81_4_S0 q0 q1 q2 q3 q4).toInt32) ((uL (own_law_v81_4_S0 q0 q1 q2 q3 q4) (32 : Int32)).toInt32) (own_law_v94_5_S0 q0 q1 q2 q3 q4)) = ((own_law_x3 q0 q1 q2 q3 q4).toInt32)
  · rw [if_pos h0]
    by_cases h1 : (own_f1c_A_bb_1 ((own_law_v56_2_S0 q0 q1 q2 q3 q4).toInt32) ((uL (own_law_v56_2_S0 q0 q1 q2 q3 q4) (32 : Int32)).toInt32) (own_law_v69_3_S0 q0 q1 q2 q3 q4) ((own_law_v81_4_S0 q0 q1 q2 q3 q4).toInt32) ((uL (own_law_v81_4_S0 q0 q1 q2 q3 q4) (32 : Int32)).toInt32) (own_law_v94_5_S0 q0 q1 q2 q3 q4)) = ((uL (own_law_x3 q0 q1 q2 q3 q4) (32 : Int32)).toInt32)
    · rw [if_pos h1]
      by_cases h2 : (own_f1c_A_bb_2 ((own_law_v56_2_S0 q0 q1 q2 q3 q4).toInt32) ((uL (own_law_v56_2_S0 q0 q1 q2 q3 q4) (32 : Int32)).toInt32) (own_law_v69_3_S0 q0 q1 q2 q3 q4) ((own_law_v81_4_S0 q0 q1 q2 q3 q4).toInt32) ((uL (own_law_v81_4_S0 q0 q1 q2 q3 q4) (32 : Int32)).toInt32) (own_law_v94_5_S0 q0 q1 q2 q3 q4)) = (own_law_x4 q0 q1 q2 q3 q4)
      · rw [if_pos h2]
        exact Or.inr rfl
      · rw [if_neg h2]
        exact Or.inl rfl
    · rw [if_neg h1]
      exact Or.inl rfl
  · rw [if_neg h0]
    exact Or.inl rfl
def own_law_v316_13_S0 (q0 : Int64) (q1 : Int32) (q2 : Int64) (q3 : Int32) (q4 : Int32) : Int32 := (if (own_law_v266_12_S0 q0 q1 q2 q3 q4) = (0 : Int32) then (0 : Int32) else (1 : Int32))
theorem own_law_v316_13_S0_01 (q0 : Int64) (q1 : Int32) (q2 : Int64) (q3 : Int32) (q4 : Int32) : (own_law_v316_13_S0 q0 q1 q2 q3 q4) = 0 ∨ (own_law_v316_13_S0 q0 q1 q2 q3 q4) = 1 := by
  unfold own_law_v316_13_S0
  by_cases h0 : (own_law_v266_12_S0 q0 q1 q2 q3 q4) = (0 : Int32)
  · rw [if_pos h0]
    exact Or.inl rfl
  · rw [if_neg h0]
    exact Or.inr rfl
def own_law_v266_15_S0 (q0 : Int64) (q1 : Int32) (q2 : Int64) (q3 : Int32) (q4 : Int32) : Int32 := (if (own_f1a_A_cc_0 ((own_law_v56_2_S0 q0 q1 q2 q3 q4).toInt32) ((uL (own_law_v56_2_S0 q0 q1 q2 q3 q4) (32 : Int32)).toInt32) (own_law_v69_3_S0 q0 q1 q2 q3 q4) ((own_law_v81_4_S0 q0 q1 q2 q3 q4).toInt32) ((uL (own_law_v81_4_S0 q0 q1 q2 q3 q4) (32 : Int32)).toInt32) (own_law_v94_5_S0 q0 q1 q2 q3 q4)) = ((own_law_x3 q0 q1 q2 q3 q4).toInt32) then (if (own_f1a_A_cc_1 ((own_law_v56_2_S0 q0 q1 q2 q3 q4).toInt32) ((uL (own_law_v56_2_S0 q0 q1 q2 q3 q4) (32 : Int32)).toInt32) (own_law_v69_3_S0 q0 q1 q2 q3 q4) ((own_law_v81_4_S0 q0 q1 q2 q3 q4).toInt32) ((uL (own_law_v81_4_S0 q0 q1 q2 q3 q4) (32 : Int32)).toInt32) (own_law_v94_5_S0 q0 q1 q2 q3 q4)) = ((uL (own_law_x3 q0 q1 q2 q3 q4) (32 : Int32)).toInt32) then (if (own_f1a_A_cc_2 ((own_law_v56_2_S0 q0 q1 q2 q3 q4).toInt32) ((uL (own_law_v56_2_S0 q0 q1 q2 q3 q4) (32 : Int32)).toInt32) (own_law_v69_3_S0 q0 q1 q2 q3 q4) ((own_law_v81_4_S0 q0 q1 q2 q3 q4).toInt32) ((uL (own_law_v81_4_S0 q0 q1 q2 q3 q4) (32 : Int32)).toInt32) (own_law_v94_5_S0 q0 q1 q2 q3 q4)) = (own_law_x4 q0 q1 q2 q3 q4) then (1 : Int32) else (0 : Int32)) else (0 : Int32)) else (0 : Int32))
theorem own_law_v266_15_S0_01 (q0 : Int64) (q1 : Int32) (q2 : Int64) (q3 : Int32) (q4 : Int32) : (own_law_v266_15_S0 q0 q1 q2 q3 q4) = 0 ∨ (own_law_v266_15_S0 q0 q1 q2 q3 q4) = 1 := by
  unfold own_law_v266_15_S0
  by_cases h0 : (own_f1a_A_cc_0 ((own_law_v56_2_S0 q0 q1 q2 q3 q4).toInt32) ((uL (own_law_v56_2_S0 q0 q1 q2 q3 q4) (32 : Int32)).toInt32) (own_law_v69_3_S0 q0 q1 q2 q3 q4) ((own_law_v81_4_S0 q0 q1 q2 q3 q4).toInt32) ((uL (own_law_v81_4_S0 q0 q1 q2 q3 q4) (32 : Int32)).toInt32) (own_law_v94_5_S0 q0 q1 q2 q3 q4)) = ((own_law_x3 q0 q1 q2 q3 q4).toInt32)
  · rw [if_pos h0]
    by_cases h1 : (own_f1a_A_cc_1 ((own_law_v56_2_S0 q0 q1 q2 q3 q4).toInt32) ((uL (own_law_v56_2_S0 q0 q1 q2 q3 q4) (32 : Int32)).toInt32) (own_law_v69_3_S0 q0 q1 q2 q3 q4) ((own_law_v81_4_S0 q0 q1 q2 q3 q4).toInt32) ((uL (own_law_v81_4_S0 q0 q1 q2 q3 q4) (32 : Int32)).toInt32) (own_law_v94_5_S0 q0 q1 q2 q3 q4)) = ((uL (own_law_x3 q0 q1 q2 q3 q4) (32 : Int32)).toInt32)
    · rw [if_pos h1]
      by_cases h2 : (own_f1a_A_cc_2 ((own_law_v56_2_S0 q0 q1 q2 q3 q4).toInt32) ((uL (own_law_v56_2_S0 q0 q1 q2 q3 q4) (32 : Int32)).toInt32) (own_law_v69_3_S0 q0 q1 q2 q3 q4) ((own_law_v81_4_S0 q0 q1 q2 q3 q4).toInt32) ((uL (own_law_v81_4_S0 q0 q1 q2 q3 q4) (32 : Int32)).toInt32) (own_law_v94_5_S0 q0 q1 q2 q3 q4)) = (own_law_x4 q0 q1 q2 q3 q4)
      · rw [if_pos h2]
        exact Or.inr rfl
      · rw [if_neg h2]
        exact Or.inl rfl
    · rw [if_neg h1]
      exact Or.inl rfl
  · rw [if_neg h0]
    exact Or.inl rfl
def own_law_v316_16_S0 (q0 : Int64) (q1 : Int32) (q2 : Int64) (q3 : Int32) (q4 : Int32) : Int32 := (if (own_law_v266_15_S0 q0 q1 q2 q3 q4) = (0 : Int32) then (0 : Int32) else (1 : Int32))
theorem own_law_v316_16_S0_01 (q0 : Int64) (q1 : Int32) (q2 : Int64) (q3 : Int32) (q4 : Int32) : (own_law_v316_16_S0 q0 q1 q2 q3 q4) = 0 ∨ (own_law_v316_16_S0 q0 q1 q2 q3 q4) = 1 := by
  unfold own_law_v316_16_S0
  by_cases h0 : (own_law_v266_15_S0 q0 q1 q2 q3 q4) = (0 : Int32)
  · rw [if_pos h0]
    exact Or.inl rfl
  · rw [if_neg h0]
    exact Or.inr rfl
def own_law_v366_17_S0 (q0 : Int64) (q1 : Int32) (q2 : Int64) (q3 : Int32) (q4 : Int32) : Int32 := (if (own_law_v316_16_S0 q0 q1 q2 q3 q4) = (0 : Int32) then (0 : Int32) else (1 : Int32))
theorem own_law_v366_17_S0_01 (q0 : Int64) (q1 : Int32) (q2 : Int64) (q3 : Int32) (q4 : Int32) : (own_law_v366_17_S0 q0 q1 q2 q3 q4) = 0 ∨ (own_law_v366_17_S0 q0 q1 q2 q3 q4) = 1 := by
  unfold own_law_v366_17_S0
  by_cases h0 : (own_law_v316_16_S0 q0 q1 q2 q3 q4) = (0 : Int32)
  · rw [if_pos h0]
    exact Or.inl rfl
  · rw [if_neg h0]
    exact Or.inr rfl
def own_law_ret_j368_9 (q0 : Int64) (q1 : Int32) (q2 : Int64) (q3 : Int32) (q4 : Int32) : Int32 := (own_law_v368_9_L27 q0 q1 q2 q3 q4)
def own_law_ret_j266_7 (q0 : Int64) (q1 : Int32) (q2 : Int64) (q3 : Int32) (q4 : Int32) : Int32 := (own_law_ret_j368_9 q0 q1 q2 q3 q4)
def own_law_ret_j217_6 (q0 : Int64) (q1 : Int32) (q2 : Int64) (q3 : Int32) (q4 : Int32) : Int32 := (own_law_ret_j266_7 q0 q1 q2 q3 q4)
def own_law_ret_j316_13 (q0 : Int64) (q1 : Int32) (q2 : Int64) (q3 : Int32) (q4 : Int32) : Int32 := (own_law_v316_13_S0 q0 q1 q2 q3 q4)
def own_law_ret_j266_12 (q0 : Int64) (q1 : Int32) (q2 : Int64) (q3 : Int32) (q4 : Int32) : Int32 := (own_law_ret_j316_13 q0 q1 q2 q3 q4)
def own_law_ret_j217_11 (q0 : Int64) (q1 : Int32) (q2 : Int64) (q3 : Int32) (q4 : Int32) : Int32 := (own_law_ret_j266_12 q0 q1 q2 q3 q4)
def own_law_ret_j366_17 (q0 : Int64) (q1 : Int32) (q2 : Int64) (q3 : Int32) (q4 : Int32) : Int32 := (own_law_v366_17_S0 q0 q1 q2 q3 q4)
def own_law_ret_j316_16 (q0 : Int64) (q1 : Int32) (q2 : Int64) (q3 : Int32) (q4 : Int32) : Int32 := (own_law_ret_j366_17 q0 q1 q2 q3 q4)
def own_law_ret_j266_15 (q0 : Int64) (q1 : Int32) (q2 : Int64) (q3 : Int32) (q4 : Int32) : Int32 := (own_law_ret_j316_16 q0 q1 q2 q3 q4)
def own_law_ret_j217_14 (q0 : Int64) (q1 : Int32) (q2 : Int64) (q3 : Int32) (q4 : Int32) : Int32 := (own_law_ret_j266_15 q0 q1 q2 q3 q4)
def own_law_ret_j94_5 (q0 : Int64) (q1 : Int32) (q2 : Int64) (q3 : Int32) (q4 : Int32) : Int32 := (if (own_law_x2 q0 q1 q2 q3 q4) = (1 : Int32) then (own_law_ret_j217_6 q0 q1 q2 q3 q4) else (if (own_law_x2 q0 q1 q2 q3 q4) = (2 : Int32) then (own_law_ret_j217_11 q0 q1 q2 q3 q4) else (own_law_ret_j217_14 q0 q1 q2 q3 q4)))
def own_law_ret_j81_4 (q0 : Int64) (q1 : Int32) (q2 : Int64) (q3 : Int32) (q4 : Int32) : Int32 := (own_law_ret_j94_5 q0 q1 q2 q3 q4)
def own_law_ret_j69_3 (q0 : Int64) (q1 : Int32) (q2 : Int64) (q3 : Int32) (q4 : Int32) : Int32 := (own_law_ret_j81_4 q0 q1 q2 q3 q4)
def own_law_ret_j56_2 (q0 : Int64) (q1 : Int32) (q2 : Int64) (q3 : Int32) (q4 : Int32) : Int32 := (own_law_ret_j69_3 q0 q1 q2 q3 q4)
def own_law_ret_j44_1 (q0 : Int64) (q1 : Int32) (q2 : Int64) (q3 : Int32) (q4 : Int32) : Int32 := (own_law_ret_j56_2 q0 q1 q2 q3 q4)
def own_law_ret (q0 : Int64) (q1 : Int32) (q2 : Int64) (q3 : Int32) (q4 : Int32) : Int32 := (own_law_ret_j44_1 q0 q1 q2 q3 q4)
def Q0 (Z : State) (q0 : Int64) (q1 : Int32) (q2 : Int64) (q3 : Int32) (q4 : Int32) (h0 : Heap) (n0 : Nat) (v : Option Value) (h : Heap) (L : List Loc) : Prop := v = some (.int (own_law_ret q0 q1 q2 q3 q4)) ∧ Fr n0 L
set_option maxRecDepth 65536 in
set_option maxHeartbeats 40000000 in
theorem rm0 (l : Launch) (Z : State) (a0 : Array Value) (hw : ∀ d ∈ tables_1, d.before a0 Z = true) (ws : List Jvm.Cond) (q0 : Int64) (q1 : Int32) (q2 : Int64) (q3 : Int32) (q4 : Int32) (h0 : Heap) (n0 : Nat) (Z0 : n0 ≤ h0.size)  :
    Con l x code maxLocals ret ws room_1 #[(.long q0), (.int q1), (.long q2), (.int q3), (.int q4)] Z h0 (Q0 Z q0 q1 q2 q3 q4 h0 n0) 3 9 := by
  refine own_body (plainFor_of_name pn_2) ?_
  intro p e s m below meth c s₁ hx hby hlk hml hown hnm hrt hZ X0 e0
  have w : ∀ (k : Nat) (d : Jvm.Cond), tables_1[k]? = some d → d.before a0 Z = true := fun k d h => hw d (List.mem_of_getElem? h)
  have N0 := Fr.nil n0
  have hml : c.maxLocals = 28 := hml
  rw [ef_0]
  generalize hOWE : Owe s _ _ _ = OWE
  refine o_iloadN X0 hx (hb hby at_0) (pc' := 1) rfl rfl ?_
  refine o_i2l X0 hx (hb hby at_1) (pc' := 2) rfl ?_
  refine o_ldcJ X0 hx hZ (4294967295 : Int64) hown (w 0 _ rfl) (hb hby at_2) (pc' := 5) rfl ?_
  refine o_land X0 hx (hb hby at_5) (pc' := 6) rfl ?_
  refine o_lstore (x := (own_law_x0 q0 q1 q2 q3 q4)) X0 hx (hb hby at_6) (pc' := 8) rfl (L' := #[.val (.long q0), .second, .val (.int q1), .val (.long q2), .second, .val (.int q3), .val (.int q4), .val (.long (own_law_x0 q0 q1 q2 q3 q4)), .second, .unset, .unset, .unset, .unset, .unset, .unset, .unset, .unset, .unset, .unset, .unset, .unset, .unset, .unset, .unset, .unset, .unset, .unset, .unset]) rfl ?_
  refine o_iload X0 hx (hb hby at_8) (pc' := 10) rfl rfl ?_
  refine o_i2l X0 hx (hb hby at_10) (pc' := 11) rfl ?_
  refine o_ldcJ X0 hx hZ (4294967295 : Int64) hown (w 0 _ rfl) (hb hby at_11) (pc' := 14) rfl ?_
  refine o_land X0 hx (hb hby at_14) (pc' := 15) rfl ?_
  refine o_lstore (x := (own_law_x1 q0 q1 q2 q3 q4)) X0 hx (hb hby at_15) (pc' := 17) rfl (L' := #[.val (.long q0), .second, .val (.int q1), .val (.long q2), .second, .val (.int q3), .val (.int q4), .val (.long (own_law_x0 q0 q1 q2 q3 q4)), .second, .val (.long (own_law_x1 q0 q1 q2 q3 q4)), .second, .unset, .unset, .unset, .unset, .unset, .unset, .unset, .unset, .unset, .unset, .unset, .unset, .unset, .unset, .unset, .unset, .unset]) rfl ?_
  refine o_lload X0 hx (hb hby at_17) (pc' := 19) rfl rfl ?_
  refine o_lload X0 hx (hb hby at_19) (pc' := 21) rfl rfl ?_
  refine o_lcmp X0 hx (hb hby at_21) (pc' := 22) rfl ?_
  have J44_1 : ∀ (Tj44_1 : State) (lj44_1 : List Loc) (Xj44_1 : Stand p l e room_1 s m #[(.long q0), (.int q1), (.long q2), (.int q3), (.int q4)] below meth c Tj44_1 lj44_1 0 0) (ej44_1 : Tj44_1.heap = h0) (Nj44_1 : Fr n0 lj44_1) (z0 : Int32), z0 = (own_law_v44_1_S0 q0 q1 q2 q3 q4) → Go p e below OWE (Tj44_1.setTop (mkF m 44 #[.val (.long q0), .second, .val (.int q1), .val (.long q2), .second, .val (.int q3), .val (.int q4), .val (.long (own_law_x0 q0 q1 q2 q3 q4)), .second, .val (.long (own_law_x1 q0 q1 q2 q3 q4)), .second, .unset, .unset, .unset, .unset, .unset, .unset, .unset, .unset, .unset, .unset, .unset, .unset, .unset, .unset, .unset, .unset, .unset] [.int z0])) := by
    intro Tj44_1 lj44_1 Xj44_1 ej44_1 Nj44_1 z0 yy0
    subst yy0
    refine o_istore Xj44_1 hx (hb hby at_44) (pc' := 46) rfl (L' := #[.val (.long q0), .second, .val (.int q1), .val (.long q2), .second, .val (.int q3), .val (.int q4), .val (.long (own_law_x0 q0 q1 q2 q3 q4)), .second, .val (.long (own_law_x1 q0 q1 q2 q3 q4)), .second, .val (.int (own_law_v44_1_S0 q0 q1 q2 q3 q4)), .unset, .unset, .unset, .unset, .unset, .unset, .unset, .unset, .unset, .unset, .unset, .unset, .unset, .unset, .unset, .unset]) rfl ?_
    refine o_iload Xj44_1 hx (hb hby at_46) (pc' := 48) rfl rfl ?_
    have J56_2 : ∀ (z0 : Int64), z0 = (own_law_v56_2_S0 q0 q1 q2 q3 q4) → Go p e below OWE (Tj44_1.setTop (mkF m 56 #[.val (.long q0), .second, .val (.int q1), .val (.long q2), .second, .val (.int q3), .val (.int q4), .val (.long (own_law_x0 q0 q1 q2 q3 q4)), .second, .val (.long (own_law_x1 q0 q1 q2 q3 q4)), .second, .val (.int (own_law_v44_1_S0 q0 q1 q2 q3 q4)), .unset, .unset, .unset, .unset, .unset, .unset, .unset, .unset, .unset, .unset, .unset, .unset, .unset, .unset, .unset, .unset] [.long z0])) := by
      intro z0 yy0
      subst yy0
      refine o_lstore Xj44_1 hx (hb hby at_56) (pc' := 58) rfl (L' := #[.val (.long q0), .second, .val (.int q1), .val (.long q2), .second, .val (.int q3), .val (.int q4), .val (.long (own_law_x0 q0 q1 q2 q3 q4)), .second, .val (.long (own_law_x1 q0 q1 q2 q3 q4)), .second, .val (.int (own_law_v44_1_S0 q0 q1 q2 q3 q4)), .val (.long (own_law_v56_2_S0 q0 q1 q2 q3 q4)), .second, .unset, .unset, .unset, .unset, .unset, .unset, .unset, .unset, .unset, .unset, .unset, .unset, .unset, .unset]) rfl ?_
      refine o_iload Xj44_1 hx (hb hby at_58) (pc' := 60) rfl rfl ?_
      have J69_3 : ∀ (z0 : Int32), z0 = (own_law_v69_3_S0 q0 q1 q2 q3 q4) → Go p e below OWE (Tj44_1.setTop (mkF m 69 #[.val (.long q0), .second, .val (.int q1), .val (.long q2), .second, .val (.int q3), .val (.int q4), .val (.long (own_law_x0 q0 q1 q2 q3 q4)), .second, .val (.long (own_law_x1 q0 q1 q2 q3 q4)), .second, .val (.int (own_law_v44_1_S0 q0 q1 q2 q3 q4)), .val (.long (own_law_v56_2_S0 q0 q1 q2 q3 q4)), .second, .unset, .unset, .unset, .unset, .unset, .unset, .unset, .unset, .unset, .unset, .unset, .unset, .unset, .unset] [.int z0])) := by
        intro z0 yy0
        subst yy0
        refine o_istore Xj44_1 hx (hb hby at_69) (pc' := 71) rfl (L' := #[.val (.long q0), .second, .val (.int q1), .val (.long q2), .second, .val (.int q3), .val (.int q4), .val (.long (own_law_x0 q0 q1 q2 q3 q4)), .second, .val (.long (own_law_x1 q0 q1 q2 q3 q4)), .second, .val (.int (own_law_v44_1_S0 q0 q1 q2 q3 q4)), .val (.long (own_law_v56_2_S0 q0 q1 q2 q3 q4)), .second, .val (.int (own_law_v69_3_S0 q0 q1 q2 q3 q4)), .unset, .unset, .unset, .unset, .unset, .unset, .unset, .unset, .unset, .unset, .unset, .unset, .unset]) rfl ?_
        refine o_iload Xj44_1 hx (hb hby at_71) (pc' := 73) rfl rfl ?_
        have J81_4 : ∀ (z0 : Int64), z0 = (own_law_v81_4_S0 q0 q1 q2 q3 q4) → Go p e below OWE (Tj44_1.setTop (mkF m 81 #[.val (.long q0), .second, .val (.int q1), .val (.long q2), .second, .val (.int q3), .val (.int q4), .val (.long (own_law_x0 q0 q1 q2 q3 q4)), .second, .val (.long (own_law_x1 q0 q1 q2 q3 q4)), .second, .val (.int (own_law_v44_1_S0 q0 q1 q2 q3 q4)), .val (.long (own_law_v56_2_S0 q0 q1 q2 q3 q4)), .second, .val (.int (own_law_v69_3_S0 q0 q1 q2 q3 q4)), .unset, .unset, .unset, .unset, .unset, .unset, .unset, .unset, .unset, .unset, .unset, .unset, .unset] [.long z0])) := by
          intro z0 yy0
          subst yy0
          refine o_lstore Xj44_1 hx (hb hby at_81) (pc' := 83) rfl (L' := #[.val (.long q0), .second, .val (.int q1), .val (.long q2), .second, .val (.int q3), .val (.int q4), .val (.long (own_law_x0 q0 q1 q2 q3 q4)), .second, .val (.long (own_law_x1 q0 q1 q2 q3 q4)), .second, .val (.int (own_law_v44_1_S0 q0 q1 q2 q3 q4)), .val (.long (own_law_v56_2_S0 q0 q1 q2 q3 q4)), .second, .val (.int (own_law_v69_3_S0 q0 q1 q2 q3 q4)), .val (.long (own_law_v81_4_S0 q0 q1 q2 q3 q4)), .second, .unset, .unset, .unset, .unset, .unset, .unset, .unset, .unset, .unset, .unset, .unset]) rfl ?_
          refine o_iload Xj44_1 hx (hb hby at_83) (pc' := 85) rfl rfl ?_
          have J94_5 : ∀ (z0 : Int32), z0 = (own_law_v94_5_S0 q0 q1 q2 q3 q4) → Go p e below OWE (Tj44_1.setTop (mkF m 94 #[.val (.long q0), .second, .val (.int q1), .val (.long q2), .second, .val (.int q3), .val (.int q4), .val (.long (own_law_x0 q0 q1 q2 q3 q4)), .second, .val (.long (own_law_x1 q0 q1 q2 q3 q4)), .second, .val (.int (own_law_v44_1_S0 q0 q1 q2 q3 q4)), .val (.long (own_law_v56_2_S0 q0 q1 q2 q3 q4)), .second, .val (.int (own_law_v69_3_S0 q0 q1 q2 q3 q4)), .val (.long (own_law_v81_4_S0 q0 q1 q2 q3 q4)), .second, .unset, .unset, .unset, .unset, .unset, .unset, .unset, .unset, .unset, .unset, .unset] [.int z0])) := by
            intro z0 yy0
            subst yy0
            refine o_istore Xj44_1 hx (hb hby at_94) (pc' := 96) rfl (L' := #[.val (.long q0), .second, .val (.int q1), .val (.long q2), .second, .val (.int q3), .val (.int q4), .val (.long (own_law_x0 q0 q1 q2 q3 q4)), .second, .val (.long (own_law_x1 q0 q1 q2 q3 q4)), .second, .val (.int (own_law_v44_1_S0 q0 q1 q2 q3 q4)), .val (.long (own_law_v56_2_S0 q0 q1 q2 q3 q4)), .second, .val (.int (own_law_v69_3_S0 q0 q1 q2 q3 q4)), .val (.long (own_law_v81_4_S0 q0 q1 q2 q3 q4)), .second, .val (.int (own_law_v94_5_S0 q0 q1 q2 q3 q4)), .unset, .unset, .unset, .unset, .unset, .unset, .unset, .unset, .unset, .unset]) rfl ?_
            refine o_iconst Xj44_1 hx (3 : Int32) (hb hby at_96) (pc' := 97) rfl (by decide) ?_
            refine o_newP Xj44_1 hx hZ 3 (w 1 _ rfl) ej44_1 (hb hby at_97) (pc' := 99) rfl (by decide) (by decide) (by decide) (cells' := 1) rfl (slots' := 3) rfl (by decide) (by decide) ?_
            intro T6 h6 b6 k6 qa6 X6 e6 Ex6 A6
            have g_b6 : n0 ≤ b6 := by rw [qa6]; exact Z0
            have Z6 : n0 ≤ h6.size := Nat.le_trans Z0 Ex6.1
            have V6_ : Arv Z h6 b6 k6 .int (3 : Int32) [.int (0 : Int32), .int (0 : Int32), .int (0 : Int32)] (.int (0 : Int32)) := own_fill 3 A6
            refine o_dup X6 hx (hb hby at_99) (pc' := 100) rfl rfl ?_
            refine o_iconst X6 hx (0 : Int32) (hb hby at_100) (pc' := 101) rfl (by decide) ?_
            refine o_lload X6 hx (hb hby at_101) (pc' := 103) rfl rfl ?_
            refine o_l2i X6 hx (hb hby at_103) (pc' := 104) rfl ?_
            refine o_iastore X6 hx hZ 0 e6 V6_ (by decide) (by decide) (by exact (by decide : 0 < 3)) (vs' := [.int ((own_law_v56_2_S0 q0 q1 q2 q3 q4).toInt32), .int (0 : Int32), .int (0 : Int32)]) rfl (hb hby at_104) (pc' := 105) rfl ?_
            intro T8 h8 X8 e8 W8 V8_
            have N8 := Fr.snoc X8 Nj44_1 g_b6
            have Z8 : n0 ≤ h8.size := by rw [W8.size]; exact Z6
            refine o_dup X8 hx (hb hby at_105) (pc' := 106) rfl rfl ?_
            refine o_iconst X8 hx (1 : Int32) (hb hby at_106) (pc' := 107) rfl (by decide) ?_
            refine o_lload X8 hx (hb hby at_107) (pc' := 109) rfl rfl ?_
            refine o_bipush X8 hx (32 : Int32) (hb hby at_109) (pc' := 111) rfl (by decide) ?_
            refine o_lushr X8 hx (hb hby at_111) (pc' := 112) rfl ?_
            refine o_l2i X8 hx (hb hby at_112) (pc' := 113) rfl ?_
            refine o_iastore X8 hx hZ 1 e8 V8_ (by decide) (by decide) (by exact (by decide : 1 < 3)) (vs' := [.int ((own_law_v56_2_S0 q0 q1 q2 q3 q4).toInt32), .int ((uL (own_law_v56_2_S0 q0 q1 q2 q3 q4) (32 : Int32)).toInt32), .int (0 : Int32)]) rfl (hb hby at_113) (pc' := 114) rfl ?_
            intro T10 h10 X10 e10 W10 V10_
            have N10 := Fr.snoc X10 N8 g_b6
            have Z10 : n0 ≤ h10.size := by rw [W10.size]; exact Z8
            refine o_dup X10 hx (hb hby at_114) (pc' := 115) rfl rfl ?_
            refine o_iconst X10 hx (2 : Int32) (hb hby at_115) (pc' := 116) rfl (by decide) ?_
            refine o_iload X10 hx (hb hby at_116) (pc' := 118) rfl rfl ?_
            refine o_iastore X10 hx hZ 2 e10 V10_ (by decide) (by decide) (by exact (by decide : 2 < 3)) (vs' := [.int ((own_law_v56_2_S0 q0 q1 q2 q3 q4).toInt32), .int ((uL (own_law_v56_2_S0 q0 q1 q2 q3 q4) (32 : Int32)).toInt32), .int (own_law_v69_3_S0 q0 q1 q2 q3 q4)]) rfl (hb hby at_118) (pc' := 119) rfl ?_
            intro T12 h12 X12 e12 W12 V12_
            have N12 := Fr.snoc X12 N10 g_b6
            have Z12 : n0 ≤ h12.size := by rw [W12.size]; exact Z10
            refine o_astore X12 hx (hb hby at_119) (pc' := 121) rfl (L' := #[.val (.long q0), .second, .val (.int q1), .val (.long q2), .second, .val (.int q3), .val (.int q4), .val (.long (own_law_x0 q0 q1 q2 q3 q4)), .second, .val (.long (own_law_x1 q0 q1 q2 q3 q4)), .second, .val (.int (own_law_v44_1_S0 q0 q1 q2 q3 q4)), .val (.long (own_law_v56_2_S0 q0 q1 q2 q3 q4)), .second, .val (.int (own_law_v69_3_S0 q0 q1 q2 q3 q4)), .val (.long (own_law_v81_4_S0 q0 q1 q2 q3 q4)), .second, .val (.int (own_law_v94_5_S0 q0 q1 q2 q3 q4)), .val (.ref b6), .unset, .unset, .unset, .unset, .unset, .unset, .unset, .unset, .unset]) rfl rfl ?_
            refine o_iconst X12 hx (3 : Int32) (hb hby at_121) (pc' := 122) rfl (by decide) ?_
            refine o_newP X12 hx hZ 3 (w 1 _ rfl) e12 (hb hby at_122) (pc' := 124) rfl (by decide) (by decide) (by decide) (cells' := 2) rfl (slots' := 6) rfl (by decide) (by decide) ?_
            intro T14 h14 b14 k14 qa14 X14 e14 Ex14 A14
            have g_b14 : n0 ≤ b14 := by rw [qa14]; exact Z12
            have ne_b6_b14 : b6 ≠ b14 := by rw [qa14]; exact Nat.ne_of_lt V12_.lt
            have V15_b6 := Arv.ext V12_ Ex14
            have Z14 : n0 ≤ h14.size := Nat.le_trans Z12 Ex14.1
            have V14_ : Arv Z h14 b14 k14 .int (3 : Int32) [.int (0 : Int32), .int (0 : Int32), .int (0 : Int32)] (.int (0 : Int32)) := own_fill 3 A14
            refine o_dup X14 hx (hb hby at_124) (pc' := 125) rfl rfl ?_
            refine o_iconst X14 hx (0 : Int32) (hb hby at_125) (pc' := 126) rfl (by decide) ?_
            refine o_lload X14 hx (hb hby at_126) (pc' := 128) rfl rfl ?_
            refine o_l2i X14 hx (hb hby at_128) (pc' := 129) rfl ?_
            refine o_iastore X14 hx hZ 0 e14 V14_ (by decide) (by decide) (by exact (by decide : 0 < 3)) (vs' := [.int ((own_law_v81_4_S0 q0 q1 q2 q3 q4).toInt32), .int (0 : Int32), .int (0 : Int32)]) rfl (hb hby at_129) (pc' := 130) rfl ?_
            intro T16 h16 X16 e16 W16 V16_
            have V17_b6 := Arv.other V15_b6 W16 ne_b6_b14
            have N16 := Fr.snoc X16 N12 g_b14
            have Z16 : n0 ≤ h16.size := by rw [W16.size]; exact Z14
            refine o_dup X16 hx (hb hby at_130) (pc' := 131) rfl rfl ?_
            refine o_iconst X16 hx (1 : Int32) (hb hby at_131) (pc' := 132) rfl (by decide) ?_
            refine o_lload X16 hx (hb hby at_132) (pc' := 134) rfl rfl ?_
            refine o_bipush X16 hx (32 : Int32) (hb hby at_134) (pc' := 136) rfl (by decide) ?_
            refine o_lushr X16 hx (hb hby at_136) (pc' := 137) rfl ?_
            refine o_l2i X16 hx (hb hby at_137) (pc' := 138) rfl ?_
            refine o_iastore X16 hx hZ 1 e16 V16_ (by decide) (by decide) (by exact (by decide : 1 < 3)) (vs' := [.int ((own_law_v81_4_S0 q0 q1 q2 q3 q4).toInt32), .int ((uL (own_law_v81_4_S0 q0 q1 q2 q3 q4) (32 : Int32)).toInt32), .int (0 : Int32)]) rfl (hb hby at_138) (pc' := 139) rfl ?_
            intro T18 h18 X18 e18 W18 V18_
            have V19_b6 := Arv.other V17_b6 W18 ne_b6_b14
            have N18 := Fr.snoc X18 N16 g_b14
            have Z18 : n0 ≤ h18.size := by rw [W18.size]; exact Z16
            refine o_dup X18 hx (hb hby at_139) (pc' := 140) rfl rfl ?_
            refine o_iconst X18 hx (2 : Int32) (hb hby at_140) (pc' := 141) rfl (by decide) ?_
            refine o_iload X18 hx (hb hby at_141) (pc' := 143) rfl rfl ?_
            refine o_iastore X18 hx hZ 2 e18 V18_ (by decide) (by decide) (by exact (by decide : 2 < 3)) (vs' := [.int ((own_law_v81_4_S0 q0 q1 q2 q3 q4).toInt32), .int ((uL (own_law_v81_4_S0 q0 q1 q2 q3 q4) (32 : Int32)).toInt32), .int (own_law_v94_5_S0 q0 q1 q2 q3 q4)]) rfl (hb hby at_143) (pc' := 144) rfl ?_
            intro T20 h20 X20 e20 W20 V20_
            have V21_b6 := Arv.other V19_b6 W20 ne_b6_b14
            have N20 := Fr.snoc X20 N18 g_b14
            have Z20 : n0 ≤ h20.size := by rw [W20.size]; exact Z18
            refine o_astore X20 hx (hb hby at_144) (pc' := 146) rfl (L' := #[.val (.long q0), .second, .val (.int q1), .val (.long q2), .second, .val (.int q3), .val (.int q4), .val (.long (own_law_x0 q0 q1 q2 q3 q4)), .second, .val (.long (own_law_x1 q0 q1 q2 q3 q4)), .second, .val (.int (own_law_v44_1_S0 q0 q1 q2 q3 q4)), .val (.long (own_law_v56_2_S0 q0 q1 q2 q3 q4)), .second, .val (.int (own_law_v69_3_S0 q0 q1 q2 q3 q4)), .val (.long (own_law_v81_4_S0 q0 q1 q2 q3 q4)), .second, .val (.int (own_law_v94_5_S0 q0 q1 q2 q3 q4)), .val (.ref b6), .val (.ref b14), .unset, .unset, .unset, .unset, .unset, .unset, .unset, .unset]) rfl rfl ?_
            refine o_iconst X20 hx (3 : Int32) (hb hby at_146) (pc' := 147) rfl (by decide) ?_
            refine o_newP X20 hx hZ 3 (w 1 _ rfl) e20 (hb hby at_147) (pc' := 149) rfl (by decide) (by decide) (by decide) (cells' := 3) rfl (slots' := 9) rfl (by decide) (by decide) ?_
            intro T22 h22 b22 k22 qa22 X22 e22 Ex22 A22
            have g_b22 : n0 ≤ b22 := by rw [qa22]; exact Z20
            have ne_b6_b22 : b6 ≠ b22 := by rw [qa22]; exact Nat.ne_of_lt V21_b6.lt
            have ne_b14_b22 : b14 ≠ b22 := by rw [qa22]; exact Nat.ne_of_lt V20_.lt
            have V23_b6 := Arv.ext V21_b6 Ex22
            have V23_b14 := Arv.ext V20_ Ex22
            have Z22 : n0 ≤ h22.size := Nat.le_trans Z20 Ex22.1
            have V22_ : Arv Z h22 b22 k22 .int (3 : Int32) [.int (0 : Int32), .int (0 : Int32), .int (0 : Int32)] (.int (0 : Int32)) := own_fill 3 A22
            refine o_astore X22 hx (hb hby at_149) (pc' := 151) rfl (L' := #[.val (.long q0), .second, .val (.int q1), .val (.long q2), .second, .val (.int q3), .val (.int q4), .val (.long (own_law_x0 q0 q1 q2 q3 q4)), .second, .val (.long (own_law_x1 q0 q1 q2 q3 q4)), .second, .val (.int (own_law_v44_1_S0 q0 q1 q2 q3 q4)), .val (.long (own_law_v56_2_S0 q0 q1 q2 q3 q4)), .second, .val (.int (own_law_v69_3_S0 q0 q1 q2 q3 q4)), .val (.long (own_law_v81_4_S0 q0 q1 q2 q3 q4)), .second, .val (.int (own_law_v94_5_S0 q0 q1 q2 q3 q4)), .val (.ref b6), .val (.ref b14), .val (.ref b22), .unset, .unset, .unset, .unset, .unset, .unset, .unset]) rfl rfl ?_
            refine o_iload X22 hx (hb hby at_151) (pc' := 153) rfl rfl ?_
            refine o_ldcI X22 hx hZ (2147483647 : Int32) hown (w 2 _ rfl) (hb hby at_153) (pc' := 155) rfl ?_
            refine o_iand X22 hx (hb hby at_155) (pc' := 156) rfl ?_
            refine o_iconst X22 hx (3 : Int32) (hb hby at_156) (pc' := 157) rfl (by decide) ?_
            refine o_irem X22 hx (hb hby at_157) (pc' := 158) rfl (by decide) ?_
            refine o_istore (x := (own_law_x2 q0 q1 q2 q3 q4)) X22 hx (hb hby at_158) (pc' := 160) rfl (L' := #[.val (.long q0), .second, .val (.int q1), .val (.long q2), .second, .val (.int q3), .val (.int q4), .val (.long (own_law_x0 q0 q1 q2 q3 q4)), .second, .val (.long (own_law_x1 q0 q1 q2 q3 q4)), .second, .val (.int (own_law_v44_1_S0 q0 q1 q2 q3 q4)), .val (.long (own_law_v56_2_S0 q0 q1 q2 q3 q4)), .second, .val (.int (own_law_v69_3_S0 q0 q1 q2 q3 q4)), .val (.long (own_law_v81_4_S0 q0 q1 q2 q3 q4)), .second, .val (.int (own_law_v94_5_S0 q0 q1 q2 q3 q4)), .val (.ref b6), .val (.ref b14), .val (.ref b22), .val (.int (own_law_x2 q0 q1 q2 q3 q4)), .unset, .unset, .unset, .unset, .unset, .unset]) rfl ?_
            refine o_iload X22 hx (hb hby at_160) (pc' := 162) rfl rfl ?_
            refine o_iconst X22 hx (1 : Int32) (hb hby at_162) (pc' := 163) rfl (by decide) ?_
            by_cases hc163_24 : (own_law_x2 q0 q1 q2 q3 q4) = (1 : Int32)
            · refine o_cmpN X22 hx (hb hby at_163) (teq hc163_24).2 (pc' := 166) rfl ?_
              refine o_aload X22 hx (hb hby at_166) (pc' := 168) rfl rfl rfl ?_
              refine o_goto X22 hx (hb hby at_168) (by decide) (pc' := 184) (by decide) ?_
              refine o_astore X22 hx (hb hby at_184) (pc' := 186) rfl (L' := #[.val (.long q0), .second, .val (.int q1), .val (.long q2), .second, .val (.int q3), .val (.int q4), .val (.long (own_law_x0 q0 q1 q2 q3 q4)), .second, .val (.long (own_law_x1 q0 q1 q2 q3 q4)), .second, .val (.int (own_law_v44_1_S0 q0 q1 q2 q3 q4)), .val (.long (own_law_v56_2_S0 q0 q1 q2 q3 q4)), .second, .val (.int (own_law_v69_3_S0 q0 q1 q2 q3 q4)), .val (.long (own_law_v81_4_S0 q0 q1 q2 q3 q4)), .second, .val (.int (own_law_v94_5_S0 q0 q1 q2 q3 q4)), .val (.ref b6), .val (.ref b14), .val (.ref b22), .val (.int (own_law_x2 q0 q1 q2 q3 q4)), .val (.ref b6), .unset, .unset, .unset, .unset, .unset]) rfl rfl ?_
              refine o_aload X22 hx (hb hby at_186) (pc' := 188) rfl rfl rfl ?_
              refine o_aload X22 hx (hb hby at_188) (pc' := 190) rfl rfl rfl ?_
              refine o_aload X22 hx (hb hby at_190) (pc' := 192) rfl rfl rfl ?_
              refine o_callS X22 hx hZ 0 (argsL := [.ref b6, .ref b14, .ref b6]) (rest := []) hown (w 3 _ rfl) (w 4 _ rfl) (w 5 _ rfl) (w 6 _ rfl) (by decide) (rm1b l Z a0 hw [] b6 b14 ((own_law_v56_2_S0 q0 q1 q2 q3 q4).toInt32) ((uL (own_law_v56_2_S0 q0 q1 q2 q3 q4) (32 : Int32)).toInt32) (own_law_v69_3_S0 q0 q1 q2 q3 q4) ((own_law_v81_4_S0 q0 q1 q2 q3 q4).toInt32) ((uL (own_law_v81_4_S0 q0 q1 q2 q3 q4) (32 : Int32)).toInt32) (own_law_v94_5_S0 q0 q1 q2 q3 q4) k6 k14 h22 n0 Z22 V23_b6 g_b6 V23_b14 (Ne.symm ne_b6_b14)) (by decide) (by decide) (cells' := 3) rfl (slots' := 9) rfl (by decide) (by decide) e22 (by rw [hml]; rfl) (lenOf pd_1 rfl) rfl rfl (hb hby at_192) (pc' := 195) rfl ?_
              intro T25 v25 L25 X25 hQ25
              obtain ⟨rfl, Nq25, Kq25, P25_0⟩ := hQ25
              have N25 := Fr.app N20 Nq25
              have V26_b14 := Arv.keep V23_b14 Kq25 (ninS (Ne.symm ne_b6_b14) nin0)
              have V26_b22 := Arv.keep V22_ Kq25 (ninS (Ne.symm ne_b6_b22) nin0)
              have Z25 : n0 ≤ T25.heap.size := Nat.le_trans Z22 Kq25.1
              show Go p e below _ (T25.setTop (mkF m 195 _ []))
              refine o_lload X25 hx (hb hby at_195) (pc' := 197) rfl rfl ?_
              refine o_lload X25 hx (hb hby at_197) (pc' := 199) rfl rfl ?_
              refine o_lsub X25 hx (hb hby at_199) (pc' := 200) rfl ?_
              refine o_lstore (x := (own_law_x3 q0 q1 q2 q3 q4)) X25 hx (hb hby at_200) (pc' := 202) rfl (L' := #[.val (.long q0), .second, .val (.int q1), .val (.long q2), .second, .val (.int q3), .val (.int q4), .val (.long (own_law_x0 q0 q1 q2 q3 q4)), .second, .val (.long (own_law_x1 q0 q1 q2 q3 q4)), .second, .val (.int (own_law_v44_1_S0 q0 q1 q2 q3 q4)), .val (.long (own_law_v56_2_S0 q0 q1 q2 q3 q4)), .second, .val (.int (own_law_v69_3_S0 q0 q1 q2 q3 q4)), .val (.long (own_law_v81_4_S0 q0 q1 q2 q3 q4)), .second, .val (.int (own_law_v94_5_S0 q0 q1 q2 q3 q4)), .val (.ref b6), .val (.ref b14), .val (.ref b22), .val (.int (own_law_x2 q0 q1 q2 q3 q4)), .val (.ref b6), .val (.long (own_law_x3 q0 q1 q2 q3 q4)), .second, .unset, .unset, .unset]) rfl ?_
              refine o_lload X25 hx (hb hby at_202) (pc' := 204) rfl rfl ?_
              refine o_lload X25 hx (hb hby at_204) (pc' := 206) rfl rfl ?_
              refine o_callS X25 hx hZ 0 (argsL := [.long (own_law_v56_2_S0 q0 q1 q2 q3 q4), .long (own_law_v81_4_S0 q0 q1 q2 q3 q4)]) (rest := []) hown (w 8 _ rfl) (w 9 _ rfl) (w 10 _ rfl) (w 11 _ rfl) (by decide) (rm2 l Z a0 hw [] (own_law_v56_2_S0 q0 q1 q2 q3 q4) (own_law_v81_4_S0 q0 q1 q2 q3 q4) T25.heap n0 Z25 ) (by decide) (by decide) (cells' := 3) rfl (slots' := 9) rfl (by decide) (by decide) rfl (by rw [hml]; rfl) (lenOf pd_0 rfl) rfl rfl (hb hby at_206) (pc' := 209) rfl ?_
              intro T27 v27 L27 X27 hQ27
              obtain ⟨rfl, Nq27, e27⟩ := hQ27
              have N27 := Fr.app N25 Nq27
              show Go p e below _ (T27.setTop (mkF m 209 _ [.int (own_f2_ret (own_law_v56_2_S0 q0 q1 q2 q3 q4) (own_law_v81_4_S0 q0 q1 q2 q3 q4))]))
              have J217_6 : ∀ (z0 : Int32), z0 = (own_law_v217_6_S0 q0 q1 q2 q3 q4) → Go p e below OWE (T27.setTop (mkF m 217 #[.val (.long q0), .second, .val (.int q1), .val (.long q2), .second, .val (.int q3), .val (.int q4), .val (.long (own_law_x0 q0 q1 q2 q3 q4)), .second, .val (.long (own_law_x1 q0 q1 q2 q3 q4)), .second, .val (.int (own_law_v44_1_S0 q0 q1 q2 q3 q4)), .val (.long (own_law_v56_2_S0 q0 q1 q2 q3 q4)), .second, .val (.int (own_law_v69_3_S0 q0 q1 q2 q3 q4)), .val (.long (own_law_v81_4_S0 q0 q1 q2 q3 q4)), .second, .val (.int (own_law_v94_5_S0 q0 q1 q2 q3 q4)), .val (.ref b6), .val (.ref b14), .val (.ref b22), .val (.int (own_law_x2 q0 q1 q2 q3 q4)), .val (.ref b6), .val (.long (own_law_x3 q0 q1 q2 q3 q4)), .second, .unset, .unset, .unset] [.int z0])) := by
                intro z0 yy0
                subst yy0
                refine o_istore X27 hx (hb hby at_217) (pc' := 219) rfl (L' := #[.val (.long q0), .second, .val (.int q1), .val (.long q2), .second, .val (.int q3), .val (.int q4), .val (.long (own_law_x0 q0 q1 q2 q3 q4)), .second, .val (.long (own_law_x1 q0 q1 q2 q3 q4)), .second, .val (.int (own_law_v44_1_S0 q0 q1 q2 q3 q4)), .val (.long (own_law_v56_2_S0 q0 q1 q2 q3 q4)), .second, .val (.int (own_law_v69_3_S0 q0 q1 q2 q3 q4)), .val (.long (own_law_v81_4_S0 q0 q1 q2 q3 q4)), .second, .val (.int (own_law_v94_5_S0 q0 q1 q2 q3 q4)), .val (.ref b6), .val (.ref b14), .val (.ref b22), .val (.int (own_law_x2 q0 q1 q2 q3 q4)), .val (.ref b6), .val (.long (own_law_x3 q0 q1 q2 q3 q4)), .second, .val (.int (own_law_v217_6_S0 q0 q1 q2 q3 q4)), .unset, .unset]) rfl ?_
                refine o_iload X27 hx (hb hby at_219) (pc' := 221) rfl rfl ?_
                refine o_iload X27 hx (hb hby at_221) (pc' := 223) rfl rfl ?_
                refine o_isub X27 hx (hb hby at_223) (pc' := 224) rfl ?_
                refine o_iload X27 hx (hb hby at_224) (pc' := 226) rfl rfl ?_
                refine o_isub X27 hx (hb hby at_226) (pc' := 227) rfl ?_
                refine o_istore (x := (own_law_x4 q0 q1 q2 q3 q4)) X27 hx (hb hby at_227) (pc' := 229) rfl (L' := #[.val (.long q0), .second, .val (.int q1), .val (.long q2), .second, .val (.int q3), .val (.int q4), .val (.long (own_law_x0 q0 q1 q2 q3 q4)), .second, .val (.long (own_law_x1 q0 q1 q2 q3 q4)), .second, .val (.int (own_law_v44_1_S0 q0 q1 q2 q3 q4)), .val (.long (own_law_v56_2_S0 q0 q1 q2 q3 q4)), .second, .val (.int (own_law_v69_3_S0 q0 q1 q2 q3 q4)), .val (.long (own_law_v81_4_S0 q0 q1 q2 q3 q4)), .second, .val (.int (own_law_v94_5_S0 q0 q1 q2 q3 q4)), .val (.ref b6), .val (.ref b14), .val (.ref b22), .val (.int (own_law_x2 q0 q1 q2 q3 q4)), .val (.ref b6), .val (.long (own_law_x3 q0 q1 q2 q3 q4)), .second, .val (.int (own_law_v217_6_S0 q0 q1 q2 q3 q4)), .val (.int (own_law_x4 q0 q1 q2 q3 q4)), .unset]) rfl ?_
                refine o_aload X27 hx (hb hby at_229) (pc' := 231) rfl rfl rfl ?_
                refine o_iconst X27 hx (0 : Int32) (hb hby at_231) (pc' := 232) rfl (by decide) ?_
                refine o_iaload X27 hx hZ (.int (own_f1b_A_aa_0 ((own_law_v56_2_S0 q0 q1 q2 q3 q4).toInt32) ((uL (own_law_v56_2_S0 q0 q1 q2 q3 q4) (32 : Int32)).toInt32) (own_law_v69_3_S0 q0 q1 q2 q3 q4) ((own_law_v81_4_S0 q0 q1 q2 q3 q4).toInt32) ((uL (own_law_v81_4_S0 q0 q1 q2 q3 q4) (32 : Int32)).toInt32) (own_law_v94_5_S0 q0 q1 q2 q3 q4))) e27 P25_0 (by decide) (by rfl) (hb hby at_232) (pc' := 233) rfl ?_
                refine o_lload X27 hx (hb hby at_233) (pc' := 235) rfl rfl ?_
                refine o_l2i X27 hx (hb hby at_235) (pc' := 236) rfl ?_
                have J266_7 : ∀ (z0 : Int32), z0 = (own_law_v266_7_S0 q0 q1 q2 q3 q4) → Go p e below OWE (T27.setTop (mkF m 266 #[.val (.long q0), .second, .val (.int q1), .val (.long q2), .second, .val (.int q3), .val (.int q4), .val (.long (own_law_x0 q0 q1 q2 q3 q4)), .second, .val (.long (own_law_x1 q0 q1 q2 q3 q4)), .second, .val (.int (own_law_v44_1_S0 q0 q1 q2 q3 q4)), .val (.long (own_law_v56_2_S0 q0 q1 q2 q3 q4)), .second, .val (.int (own_law_v69_3_S0 q0 q1 q2 q3 q4)), .val (.long (own_law_v81_4_S0 q0 q1 q2 q3 q4)), .second, .val (.int (own_law_v94_5_S0 q0 q1 q2 q3 q4)), .val (.ref b6), .val (.ref b14), .val (.ref b22), .val (.int (own_law_x2 q0 q1 q2 q3 q4)), .val (.ref b6), .val (.long (own_law_x3 q0 q1 q2 q3 q4)), .second, .val (.int (own_law_v217_6_S0 q0 q1 q2 q3 q4)), .val (.int (own_law_x4 q0 q1 q2 q3 q4)), .unset] [.int z0])) := by
                  intro z0 yy0
                  subst yy0
                  refine o_istore X27 hx (hb hby at_266) (pc' := 268) rfl (L' := #[.val (.long q0), .second, .val (.int q1), .val (.long q2), .second, .val (.int q3), .val (.int q4), .val (.long (own_law_x0 q0 q1 q2 q3 q4)), .second, .val (.long (own_law_x1 q0 q1 q2 q3 q4)), .second, .val (.int (own_law_v44_1_S0 q0 q1 q2 q3 q4)), .val (.long (own_law_v56_2_S0 q0 q1 q2 q3 q4)), .second, .val (.int (own_law_v69_3_S0 q0 q1 q2 q3 q4)), .val (.long (own_law_v81_4_S0 q0 q1 q2 q3 q4)), .second, .val (.int (own_law_v94_5_S0 q0 q1 q2 q3 q4)), .val (.ref b6), .val (.ref b14), .val (.ref b22), .val (.int (own_law_x2 q0 q1 q2 q3 q4)), .val (.ref b6), .val (.long (own_law_x3 q0 q1 q2 q3 q4)), .second, .val (.int (own_law_v217_6_S0 q0 q1 q2 q3 q4)), .val (.int (own_law_x4 q0 q1 q2 q3 q4)), .val (.int (own_law_v266_7_S0 q0 q1 q2 q3 q4))]) rfl ?_
                  refine o_iload X27 hx (hb hby at_268) (pc' := 270) rfl rfl ?_
                  refine o_iconst X27 hx (1 : Int32) (hb hby at_270) (pc' := 271) rfl (by decide) ?_
                  refine o_cmpY X27 hx (hb hby at_271) (teq hc163_24).1 (by decide) (pc' := 318) (by decide) ?_
                  refine o_iload X27 hx (hb hby at_318) (pc' := 320) rfl rfl ?_
                  refine o_iconst X27 hx (2 : Int32) (hb hby at_320) (pc' := 321) rfl (by decide) ?_
                  have J368_9 : ∀ (z0 : Int32), z0 = (own_law_v368_9_L27 q0 q1 q2 q3 q4) → Go p e below OWE (T27.setTop (mkF m 368 #[.val (.long q0), .second, .val (.int q1), .val (.long q2), .second, .val (.int q3), .val (.int q4), .val (.long (own_law_x0 q0 q1 q2 q3 q4)), .second, .val (.long (own_law_x1 q0 q1 q2 q3 q4)), .second, .val (.int (own_law_v44_1_S0 q0 q1 q2 q3 q4)), .val (.long (own_law_v56_2_S0 q0 q1 q2 q3 q4)), .second, .val (.int (own_law_v69_3_S0 q0 q1 q2 q3 q4)), .val (.long (own_law_v81_4_S0 q0 q1 q2 q3 q4)), .second, .val (.int (own_law_v94_5_S0 q0 q1 q2 q3 q4)), .val (.ref b6), .val (.ref b14), .val (.ref b22), .val (.int (own_law_x2 q0 q1 q2 q3 q4)), .val (.ref b6), .val (.long (own_law_x3 q0 q1 q2 q3 q4)), .second, .val (.int (own_law_v217_6_S0 q0 q1 q2 q3 q4)), .val (.int (own_law_x4 q0 q1 q2 q3 q4)), .val (.int z0)] [])) := by
                    intro z0 yy0
                    subst yy0
                    refine o_iload X27 hx (hb hby at_368) (pc' := 370) rfl rfl ?_
                    rw [← hOWE]
                    exact o_retZ X27 hx (own_narZ (own_law_v368_9_L27_01 q0 q1 q2 q3 q4)) hlk hrt (hb hby at_370) (by decide) (by decide) (by rw [e27]; exact ⟨(by rw [own_law_ret, own_law_ret_j44_1, own_law_ret_j56_2, own_law_ret_j69_3, own_law_ret_j81_4, own_law_ret_j94_5, if_pos hc163_24, own_law_ret_j217_6, own_law_ret_j266_7, own_law_ret_j368_9]), N27⟩)
                  by_cases hc321_30 : (own_law_x2 q0 q1 q2 q3 q4) = (2 : Int32)
                  · refine o_cmpY X27 hx (hb hby at_321) (teq hc321_30).1 (by decide) (pc' := 368) (by decide) ?_
                    exact J368_9 ((own_law_v266_7_S0 q0 q1 q2 q3 q4)) (by rw [own_law_v368_9_L27, if_pos hc321_30])
                  · refine o_cmpN X27 hx (hb hby at_321) (feq hc321_30).1 (pc' := 324) rfl ?_
                    refine o_iload X27 hx (hb hby at_324) (pc' := 326) rfl rfl ?_
                    have J366_10 : ∀ (z0 : Int32), z0 = (own_law_v366_8_S0 q0 q1 q2 q3 q4) → Go p e below OWE (T27.setTop (mkF m 366 #[.val (.long q0), .second, .val (.int q1), .val (.long q2), .second, .val (.int q3), .val (.int q4), .val (.long (own_law_x0 q0 q1 q2 q3 q4)), .second, .val (.long (own_law_x1 q0 q1 q2 q3 q4)), .second, .val (.int (own_law_v44_1_S0 q0 q1 q2 q3 q4)), .val (.long (own_law_v56_2_S0 q0 q1 q2 q3 q4)), .second, .val (.int (own_law_v69_3_S0 q0 q1 q2 q3 q4)), .val (.long (own_law_v81_4_S0 q0 q1 q2 q3 q4)), .second, .val (.int (own_law_v94_5_S0 q0 q1 q2 q3 q4)), .val (.ref b6), .val (.ref b14), .val (.ref b22), .val (.int (own_law_x2 q0 q1 q2 q3 q4)), .val (.ref b6), .val (.long (own_law_x3 q0 q1 q2 q3 q4)), .second, .val (.int (own_law_v217_6_S0 q0 q1 q2 q3 q4)), .val (.int (own_law_x4 q0 q1 q2 q3 q4)), .val (.int (own_law_v266_7_S0 q0 q1 q2 q3 q4))] [.int z0])) := by
                      intro z0 yy0
                      subst yy0
                      refine o_istore X27 hx (hb hby at_366) (pc' := 368) rfl (L' := #[.val (.long q0), .second, .val (.int q1), .val (.long q2), .second, .val (.int q3), .val (.int q4), .val (.long (own_law_x0 q0 q1 q2 q3 q4)), .second, .val (.long (own_law_x1 q0 q1 q2 q3 q4)), .second, .val (.int (own_law_v44_1_S0 q0 q1 q2 q3 q4)), .val (.long (own_law_v56_2_S0 q0 q1 q2 q3 q4)), .second, .val (.int (own_law_v69_3_S0 q0 q1 q2 q3 q4)), .val (.long (own_law_v81_4_S0 q0 q1 q2 q3 q4)), .second, .val (.int (own_law_v94_5_S0 q0 q1 q2 q3 q4)), .val (.ref b6), .val (.ref b14), .val (.ref b22), .val (.int (own_law_x2 q0 q1 q2 q3 q4)), .val (.ref b6), .val (.long (own_law_x3 q0 q1 q2 q3 q4)), .second, .val (.int (own_law_v217_6_S0 q0 q1 q2 q3 q4)), .val (.int (own_law_x4 q0 q1 q2 q3 q4)), .val (.int (own_law_v366_8_S0 q0 q1 q2 q3 q4))]) rfl ?_
                      exact J368_9 ((own_law_v366_8_S0 q0 q1 q2 q3 q4)) (by rw [own_law_v368_9_L27, if_neg hc321_30])
                    by_cases hc326_31 : (own_law_v266_7_S0 q0 q1 q2 q3 q4) = (0 : Int32)
                    · refine o_ifY X27 hx (hb hby at_326) (teq hc326_31).1 (by decide) (pc' := 365) (by decide) ?_
                      refine o_iconst X27 hx (0 : Int32) (hb hby at_365) (pc' := 366) rfl (by decide) ?_
                      exact J366_10 ((0 : Int32)) (by rw [own_law_v366_8_S0, if_pos hc326_31])
                    · refine o_ifN X27 hx (hb hby at_326) (feq hc326_31).1 (pc' := 329) rfl ?_
                      refine o_aload X27 hx (hb hby at_329) (pc' := 331) rfl rfl rfl ?_
                      refine o_iconst X27 hx (0 : Int32) (hb hby at_331) (pc' := 332) rfl (by decide) ?_
                      refine o_iaload X27 hx hZ (.int ((own_law_v81_4_S0 q0 q1 q2 q3 q4).toInt32)) e27 V26_b14 (by decide) (by rfl) (hb hby at_332) (pc' := 333) rfl ?_
                      refine o_lload X27 hx (hb hby at_333) (pc' := 335) rfl rfl ?_
                      refine o_l2i X27 hx (hb hby at_335) (pc' := 336) rfl ?_
                      refine o_cmpN X27 hx (hb hby at_336) (teq (rfl : ((own_law_v81_4_S0 q0 q1 q2 q3 q4).toInt32) = ((own_law_v81_4_S0 q0 q1 q2 q3 q4).toInt32))).2 (pc' := 339) rfl ?_
                      refine o_aload X27 hx (hb hby at_339) (pc' := 341) rfl rfl rfl ?_
                      refine o_iconst X27 hx (1 : Int32) (hb hby at_341) (pc' := 342) rfl (by decide) ?_
                      refine o_iaload X27 hx hZ (.int ((uL (own_law_v81_4_S0 q0 q1 q2 q3 q4) (32 : Int32)).toInt32)) e27 V26_b14 (by decide) (by rfl) (hb hby at_342) (pc' := 343) rfl ?_
                      refine o_lload X27 hx (hb hby at_343) (pc' := 345) rfl rfl ?_
                      refine o_bipush X27 hx (32 : Int32) (hb hby at_345) (pc' := 347) rfl (by decide) ?_
                      refine o_lushr X27 hx (hb hby at_347) (pc' := 348) rfl ?_
                      refine o_l2i X27 hx (hb hby at_348) (pc' := 349) rfl ?_
                      refine o_cmpN X27 hx (hb hby at_349) (teq (rfl : ((uL (own_law_v81_4_S0 q0 q1 q2 q3 q4) (32 : Int32)).toInt32) = ((uL (own_law_v81_4_S0 q0 q1 q2 q3 q4) (32 : Int32)).toInt32))).2 (pc' := 352) rfl ?_
                      refine o_aload X27 hx (hb hby at_352) (pc' := 354) rfl rfl rfl ?_
                      refine o_iconst X27 hx (2 : Int32) (hb hby at_354) (pc' := 355) rfl (by decide) ?_
                      refine o_iaload X27 hx hZ (.int (own_law_v94_5_S0 q0 q1 q2 q3 q4)) e27 V26_b14 (by decide) (by rfl) (hb hby at_355) (pc' := 356) rfl ?_
                      refine o_iload X27 hx (hb hby at_356) (pc' := 358) rfl rfl ?_
                      refine o_cmpN X27 hx (hb hby at_358) (teq (rfl : (own_law_v94_5_S0 q0 q1 q2 q3 q4) = (own_law_v94_5_S0 q0 q1 q2 q3 q4))).2 (pc' := 361) rfl ?_
                      refine o_iconst X27 hx (1 : Int32) (hb hby at_361) (pc' := 362) rfl (by decide) ?_
                      refine o_goto X27 hx (hb hby at_362) (by decide) (pc' := 366) (by decide) ?_
                      exact J366_10 ((1 : Int32)) (by rw [own_law_v366_8_S0, if_neg hc326_31])
                by_cases hc236_29 : (own_f1b_A_aa_0 ((own_law_v56_2_S0 q0 q1 q2 q3 q4).toInt32) ((uL (own_law_v56_2_S0 q0 q1 q2 q3 q4) (32 : Int32)).toInt32) (own_law_v69_3_S0 q0 q1 q2 q3 q4) ((own_law_v81_4_S0 q0 q1 q2 q3 q4).toInt32) ((uL (own_law_v81_4_S0 q0 q1 q2 q3 q4) (32 : Int32)).toInt32) (own_law_v94_5_S0 q0 q1 q2 q3 q4)) = ((own_law_x3 q0 q1 q2 q3 q4).toInt32)
                · refine o_cmpN X27 hx (hb hby at_236) (teq hc236_29).2 (pc' := 239) rfl ?_
                  refine o_aload X27 hx (hb hby at_239) (pc' := 241) rfl rfl rfl ?_
                  refine o_iconst X27 hx (1 : Int32) (hb hby at_241) (pc' := 242) rfl (by decide) ?_
                  refine o_iaload X27 hx hZ (.int (own_f1b_A_aa_1 ((own_law_v56_2_S0 q0 q1 q2 q3 q4).toInt32) ((uL (own_law_v56_2_S0 q0 q1 q2 q3 q4) (32 : Int32)).toInt32) (own_law_v69_3_S0 q0 q1 q2 q3 q4) ((own_law_v81_4_S0 q0 q1 q2 q3 q4).toInt32) ((uL (own_law_v81_4_S0 q0 q1 q2 q3 q4) (32 : Int32)).toInt32) (own_law_v94_5_S0 q0 q1 q2 q3 q4))) e27 P25_0 (by decide) (by rfl) (hb hby at_242) (pc' := 243) rfl ?_
                  refine o_lload X27 hx (hb hby at_243) (pc' := 245) rfl rfl ?_
                  refine o_bipush X27 hx (32 : Int32) (hb hby at_245) (pc' := 247) rfl (by decide) ?_
                  refine o_lushr X27 hx (hb hby at_247) (pc' := 248) rfl ?_
                  refine o_l2i X27 hx (hb hby at_248) (pc' := 249) rfl ?_
                  by_cases hc249_32 : (own_f1b_A_aa_1 ((own_law_v56_2_S0 q0 q1 q2 q3 q4).toInt32) ((uL (own_law_v56_2_S0 q0 q1 q2 q3 q4) (32 : Int32)).toInt32) (own_law_v69_3_S0 q0 q1 q2 q3 q4) ((own_law_v81_4_S0 q0 q1 q2 q3 q4).toInt32) ((uL (own_law_v81_4_S0 q0 q1 q2 q3 q4) (32 : Int32)).toInt32) (own_law_v94_5_S0 q0 q1 q2 q3 q4)) = ((uL (own_law_x3 q0 q1 q2 q3 q4) (32 : Int32)).toInt32)
                  · refine o_cmpN X27 hx (hb hby at_249) (teq hc249_32).2 (pc' := 252) rfl ?_
                    refine o_aload X27 hx (hb hby at_252) (pc' := 254) rfl rfl rfl ?_
                    refine o_iconst X27 hx (2 : Int32) (hb hby at_254) (pc' := 255) rfl (by decide) ?_
                    refine o_iaload X27 hx hZ (.int (own_f1b_A_aa_2 ((own_law_v56_2_S0 q0 q1 q2 q3 q4).toInt32) ((uL (own_law_v56_2_S0 q0 q1 q2 q3 q4) (32 : Int32)).toInt32) (own_law_v69_3_S0 q0 q1 q2 q3 q4) ((own_law_v81_4_S0 q0 q1 q2 q3 q4).toInt32) ((uL (own_law_v81_4_S0 q0 q1 q2 q3 q4) (32 : Int32)).toInt32) (own_law_v94_5_S0 q0 q1 q2 q3 q4))) e27 P25_0 (by decide) (by rfl) (hb hby at_255) (pc' := 256) rfl ?_
                    refine o_iload X27 hx (hb hby at_256) (pc' := 258) rfl rfl ?_
                    by_cases hc258_33 : (own_f1b_A_aa_2 ((own_law_v56_2_S0 q0 q1 q2 q3 q4).toInt32) ((uL (own_law_v56_2_S0 q0 q1 q2 q3 q4) (32 : Int32)).toInt32) (own_law_v69_3_S0 q0 q1 q2 q3 q4) ((own_law_v81_4_S0 q0 q1 q2 q3 q4).toInt32) ((uL (own_law_v81_4_S0 q0 q1 q2 q3 q4) (32 : Int32)).toInt32) (own_law_v94_5_S0 q0 q1 q2 q3 q4)) = (own_law_x4 q0 q1 q2 q3 q4)
                    · refine o_cmpN X27 hx (hb hby at_258) (teq hc258_33).2 (pc' := 261) rfl ?_
                      refine o_iconst X27 hx (1 : Int32) (hb hby at_261) (pc' := 262) rfl (by decide) ?_
                      refine o_goto X27 hx (hb hby at_262) (by decide) (pc' := 266) (by decide) ?_
                      exact J266_7 ((1 : Int32)) (by rw [own_law_v266_7_S0, if_pos hc236_29, if_pos hc249_32, if_pos hc258_33])
                    · refine o_cmpY X27 hx (hb hby at_258) (feq hc258_33).2 (by decide) (pc' := 265) (by decide) ?_
                      refine o_iconst X27 hx (0 : Int32) (hb hby at_265) (pc' := 266) rfl (by decide) ?_
                      exact J266_7 ((0 : Int32)) (by rw [own_law_v266_7_S0, if_pos hc236_29, if_pos hc249_32, if_neg hc258_33])
                  · refine o_cmpY X27 hx (hb hby at_249) (feq hc249_32).2 (by decide) (pc' := 265) (by decide) ?_
                    refine o_iconst X27 hx (0 : Int32) (hb hby at_265) (pc' := 266) rfl (by decide) ?_
                    exact J266_7 ((0 : Int32)) (by rw [own_law_v266_7_S0, if_pos hc236_29, if_neg hc249_32])
                · refine o_cmpY X27 hx (hb hby at_236) (feq hc236_29).2 (by decide) (pc' := 265) (by decide) ?_
                  refine o_iconst X27 hx (0 : Int32) (hb hby at_265) (pc' := 266) rfl (by decide) ?_
                  exact J266_7 ((0 : Int32)) (by rw [own_law_v266_7_S0, if_neg hc236_29])
              by_cases hc209_28 : (own_f2_ret (own_law_v56_2_S0 q0 q1 q2 q3 q4) (own_law_v81_4_S0 q0 q1 q2 q3 q4)) = (0 : Int32)
              · refine o_ifY X27 hx (hb hby at_209) (teq hc209_28).1 (by decide) (pc' := 216) (by decide) ?_
                refine o_iconst X27 hx (0 : Int32) (hb hby at_216) (pc' := 217) rfl (by decide) ?_
                exact J217_6 ((0 : Int32)) (by rw [own_law_v217_6_S0, if_pos hc209_28])
              · refine o_ifN X27 hx (hb hby at_209) (feq hc209_28).1 (pc' := 212) rfl ?_
                refine o_iconst X27 hx (1 : Int32) (hb hby at_212) (pc' := 213) rfl (by decide) ?_
                refine o_goto X27 hx (hb hby at_213) (by decide) (pc' := 217) (by decide) ?_
                exact J217_6 ((1 : Int32)) (by rw [own_law_v217_6_S0, if_neg hc209_28])
            · refine o_cmpY X22 hx (hb hby at_163) (feq hc163_24).2 (by decide) (pc' := 171) (by decide) ?_
              refine o_iload X22 hx (hb hby at_171) (pc' := 173) rfl rfl ?_
              refine o_iconst X22 hx (2 : Int32) (hb hby at_173) (pc' := 174) rfl (by decide) ?_
              by_cases hc174_34 : (own_law_x2 q0 q1 q2 q3 q4) = (2 : Int32)
              · refine o_cmpN X22 hx (hb hby at_174) (teq hc174_34).2 (pc' := 177) rfl ?_
                refine o_aload X22 hx (hb hby at_177) (pc' := 179) rfl rfl rfl ?_
                refine o_goto X22 hx (hb hby at_179) (by decide) (pc' := 184) (by decide) ?_
                refine o_astore X22 hx (hb hby at_184) (pc' := 186) rfl (L' := #[.val (.long q0), .second, .val (.int q1), .val (.long q2), .second, .val (.int q3), .val (.int q4), .val (.long (own_law_x0 q0 q1 q2 q3 q4)), .second, .val (.long (own_law_x1 q0 q1 q2 q3 q4)), .second, .val (.int (own_law_v44_1_S0 q0 q1 q2 q3 q4)), .val (.long (own_law_v56_2_S0 q0 q1 q2 q3 q4)), .second, .val (.int (own_law_v69_3_S0 q0 q1 q2 q3 q4)), .val (.long (own_law_v81_4_S0 q0 q1 q2 q3 q4)), .second, .val (.int (own_law_v94_5_S0 q0 q1 q2 q3 q4)), .val (.ref b6), .val (.ref b14), .val (.ref b22), .val (.int (own_law_x2 q0 q1 q2 q3 q4)), .val (.ref b14), .unset, .unset, .unset, .unset, .unset]) rfl rfl ?_
                refine o_aload X22 hx (hb hby at_186) (pc' := 188) rfl rfl rfl ?_
                refine o_aload X22 hx (hb hby at_188) (pc' := 190) rfl rfl rfl ?_
                refine o_aload X22 hx (hb hby at_190) (pc' := 192) rfl rfl rfl ?_
                refine o_callS X22 hx hZ 0 (argsL := [.ref b6, .ref b14, .ref b14]) (rest := []) hown (w 3 _ rfl) (w 4 _ rfl) (w 5 _ rfl) (w 6 _ rfl) (by decide) (rm1c l Z a0 hw [] b6 b14 ((own_law_v56_2_S0 q0 q1 q2 q3 q4).toInt32) ((uL (own_law_v56_2_S0 q0 q1 q2 q3 q4) (32 : Int32)).toInt32) (own_law_v69_3_S0 q0 q1 q2 q3 q4) ((own_law_v81_4_S0 q0 q1 q2 q3 q4).toInt32) ((uL (own_law_v81_4_S0 q0 q1 q2 q3 q4) (32 : Int32)).toInt32) (own_law_v94_5_S0 q0 q1 q2 q3 q4) k6 k14 h22 n0 Z22 V23_b6 V23_b14 g_b14 ne_b6_b14) (by decide) (by decide) (cells' := 3) rfl (slots' := 9) rfl (by decide) (by decide) e22 (by rw [hml]; rfl) (lenOf pd_1 rfl) rfl rfl (hb hby at_192) (pc' := 195) rfl ?_
                intro T35 v35 L35 X35 hQ35
                obtain ⟨rfl, Nq35, Kq35, P35_0⟩ := hQ35
                have N35 := Fr.app N20 Nq35
                have V36_b6 := Arv.keep V23_b6 Kq35 (ninS ne_b6_b14 nin0)
                have V36_b22 := Arv.keep V22_ Kq35 (ninS (Ne.symm ne_b14_b22) nin0)
                have Z35 : n0 ≤ T35.heap.size := Nat.le_trans Z22 Kq35.1
                show Go p e below _ (T35.setTop (mkF m 195 _ []))
                refine o_lload X35 hx (hb hby at_195) (pc' := 197) rfl rfl ?_
                refine o_lload X35 hx (hb hby at_197) (pc' := 199) rfl rfl ?_
                refine o_lsub X35 hx (hb hby at_199) (pc' := 200) rfl ?_
                refine o_lstore (x := (own_law_x3 q0 q1 q2 q3 q4)) X35 hx (hb hby at_200) (pc' := 202) rfl (L' := #[.val (.long q0), .second, .val (.int q1), .val (.long q2), .second, .val (.int q3), .val (.int q4), .val (.long (own_law_x0 q0 q1 q2 q3 q4)), .second, .val (.long (own_law_x1 q0 q1 q2 q3 q4)), .second, .val (.int (own_law_v44_1_S0 q0 q1 q2 q3 q4)), .val (.long (own_law_v56_2_S0 q0 q1 q2 q3 q4)), .second, .val (.int (own_law_v69_3_S0 q0 q1 q2 q3 q4)), .val (.long (own_law_v81_4_S0 q0 q1 q2 q3 q4)), .second, .val (.int (own_law_v94_5_S0 q0 q1 q2 q3 q4)), .val (.ref b6), .val (.ref b14), .val (.ref b22), .val (.int (own_law_x2 q0 q1 q2 q3 q4)), .val (.ref b14), .val (.long (own_law_x3 q0 q1 q2 q3 q4)), .second, .unset, .unset, .unset]) rfl ?_
                refine o_lload X35 hx (hb hby at_202) (pc' := 204) rfl rfl ?_
                refine o_lload X35 hx (hb hby at_204) (pc' := 206) rfl rfl ?_
                refine o_callS X35 hx hZ 0 (argsL := [.long (own_law_v56_2_S0 q0 q1 q2 q3 q4), .long (own_law_v81_4_S0 q0 q1 q2 q3 q4)]) (rest := []) hown (w 8 _ rfl) (w 9 _ rfl) (w 10 _ rfl) (w 11 _ rfl) (by decide) (rm2 l Z a0 hw [] (own_law_v56_2_S0 q0 q1 q2 q3 q4) (own_law_v81_4_S0 q0 q1 q2 q3 q4) T35.heap n0 Z35 ) (by decide) (by decide) (cells' := 3) rfl (slots' := 9) rfl (by decide) (by decide) rfl (by rw [hml]; rfl) (lenOf pd_0 rfl) rfl rfl (hb hby at_206) (pc' := 209) rfl ?_
                intro T37 v37 L37 X37 hQ37
                obtain ⟨rfl, Nq37, e37⟩ := hQ37
                have N37 := Fr.app N35 Nq37
                show Go p e below _ (T37.setTop (mkF m 209 _ [.int (own_f2_ret (own_law_v56_2_S0 q0 q1 q2 q3 q4) (own_law_v81_4_S0 q0 q1 q2 q3 q4))]))
                have J217_11 : ∀ (z0 : Int32), z0 = (own_law_v217_6_S0 q0 q1 q2 q3 q4) → Go p e below OWE (T37.setTop (mkF m 217 #[.val (.long q0), .second, .val (.int q1), .val (.long q2), .second, .val (.int q3), .val (.int q4), .val (.long (own_law_x0 q0 q1 q2 q3 q4)), .second, .val (.long (own_law_x1 q0 q1 q2 q3 q4)), .second, .val (.int (own_law_v44_1_S0 q0 q1 q2 q3 q4)), .val (.long (own_law_v56_2_S0 q0 q1 q2 q3 q4)), .second, .val (.int (own_law_v69_3_S0 q0 q1 q2 q3 q4)), .val (.long (own_law_v81_4_S0 q0 q1 q2 q3 q4)), .second, .val (.int (own_law_v94_5_S0 q0 q1 q2 q3 q4)), .val (.ref b6), .val (.ref b14), .val (.ref b22), .val (.int (own_law_x2 q0 q1 q2 q3 q4)), .val (.ref b14), .val (.long (own_law_x3 q0 q1 q2 q3 q4)), .second, .unset, .unset, .unset] [.int z0])) := by
                  intro z0 yy0
                  subst yy0
                  refine o_istore X37 hx (hb hby at_217) (pc' := 219) rfl (L' := #[.val (.long q0), .second, .val (.int q1), .val (.long q2), .second, .val (.int q3), .val (.int q4), .val (.long (own_law_x0 q0 q1 q2 q3 q4)), .second, .val (.long (own_law_x1 q0 q1 q2 q3 q4)), .second, .val (.int (own_law_v44_1_S0 q0 q1 q2 q3 q4)), .val (.long (own_law_v56_2_S0 q0 q1 q2 q3 q4)), .second, .val (.int (own_law_v69_3_S0 q0 q1 q2 q3 q4)), .val (.long (own_law_v81_4_S0 q0 q1 q2 q3 q4)), .second, .val (.int (own_law_v94_5_S0 q0 q1 q2 q3 q4)), .val (.ref b6), .val (.ref b14), .val (.ref b22), .val (.int (own_law_x2 q0 q1 q2 q3 q4)), .val (.ref b14), .val (.long (own_law_x3 q0 q1 q2 q3 q4)), .second, .val (.int (own_law_v217_6_S0 q0 q1 q2 q3 q4)), .unset, .unset]) rfl ?_
                  refine o_iload X37 hx (hb hby at_219) (pc' := 221) rfl rfl ?_
                  refine o_iload X37 hx (hb hby at_221) (pc' := 223) rfl rfl ?_
                  refine o_isub X37 hx (hb hby at_223) (pc' := 224) rfl ?_
                  refine o_iload X37 hx (hb hby at_224) (pc' := 226) rfl rfl ?_
                  refine o_isub X37 hx (hb hby at_226) (pc' := 227) rfl ?_
                  refine o_istore (x := (own_law_x4 q0 q1 q2 q3 q4)) X37 hx (hb hby at_227) (pc' := 229) rfl (L' := #[.val (.long q0), .second, .val (.int q1), .val (.long q2), .second, .val (.int q3), .val (.int q4), .val (.long (own_law_x0 q0 q1 q2 q3 q4)), .second, .val (.long (own_law_x1 q0 q1 q2 q3 q4)), .second, .val (.int (own_law_v44_1_S0 q0 q1 q2 q3 q4)), .val (.long (own_law_v56_2_S0 q0 q1 q2 q3 q4)), .second, .val (.int (own_law_v69_3_S0 q0 q1 q2 q3 q4)), .val (.long (own_law_v81_4_S0 q0 q1 q2 q3 q4)), .second, .val (.int (own_law_v94_5_S0 q0 q1 q2 q3 q4)), .val (.ref b6), .val (.ref b14), .val (.ref b22), .val (.int (own_law_x2 q0 q1 q2 q3 q4)), .val (.ref b14), .val (.long (own_law_x3 q0 q1 q2 q3 q4)), .second, .val (.int (own_law_v217_6_S0 q0 q1 q2 q3 q4)), .val (.int (own_law_x4 q0 q1 q2 q3 q4)), .unset]) rfl ?_
                  refine o_aload X37 hx (hb hby at_229) (pc' := 231) rfl rfl rfl ?_
                  refine o_iconst X37 hx (0 : Int32) (hb hby at_231) (pc' := 232) rfl (by decide) ?_
                  refine o_iaload X37 hx hZ (.int (own_f1c_A_bb_0 ((own_law_v56_2_S0 q0 q1 q2 q3 q4).toInt32) ((uL (own_law_v56_2_S0 q0 q1 q2 q3 q4) (32 : Int32)).toInt32) (own_law_v69_3_S0 q0 q1 q2 q3 q4) ((own_law_v81_4_S0 q0 q1 q2 q3 q4).toInt32) ((uL (own_law_v81_4_S0 q0 q1 q2 q3 q4) (32 : Int32)).toInt32) (own_law_v94_5_S0 q0 q1 q2 q3 q4))) e37 P35_0 (by decide) (by rfl) (hb hby at_232) (pc' := 233) rfl ?_
                  refine o_lload X37 hx (hb hby at_233) (pc' := 235) rfl rfl ?_
                  refine o_l2i X37 hx (hb hby at_235) (pc' := 236) rfl ?_
                  have J266_12 : ∀ (z0 : Int32), z0 = (own_law_v266_12_S0 q0 q1 q2 q3 q4) → Go p e below OWE (T37.setTop (mkF m 266 #[.val (.long q0), .second, .val (.int q1), .val (.long q2), .second, .val (.int q3), .val (.int q4), .val (.long (own_law_x0 q0 q1 q2 q3 q4)), .second, .val (.long (own_law_x1 q0 q1 q2 q3 q4)), .second, .val (.int (own_law_v44_1_S0 q0 q1 q2 q3 q4)), .val (.long (own_law_v56_2_S0 q0 q1 q2 q3 q4)), .second, .val (.int (own_law_v69_3_S0 q0 q1 q2 q3 q4)), .val (.long (own_law_v81_4_S0 q0 q1 q2 q3 q4)), .second, .val (.int (own_law_v94_5_S0 q0 q1 q2 q3 q4)), .val (.ref b6), .val (.ref b14), .val (.ref b22), .val (.int (own_law_x2 q0 q1 q2 q3 q4)), .val (.ref b14), .val (.long (own_law_x3 q0 q1 q2 q3 q4)), .second, .val (.int (own_law_v217_6_S0 q0 q1 q2 q3 q4)), .val (.int (own_law_x4 q0 q1 q2 q3 q4)), .unset] [.int z0])) := by
                    intro z0 yy0
                    subst yy0
                    refine o_istore X37 hx (hb hby at_266) (pc' := 268) rfl (L' := #[.val (.long q0), .second, .val (.int q1), .val (.long q2), .second, .val (.int q3), .val (.int q4), .val (.long (own_law_x0 q0 q1 q2 q3 q4)), .second, .val (.long (own_law_x1 q0 q1 q2 q3 q4)), .second, .val (.int (own_law_v44_1_S0 q0 q1 q2 q3 q4)), .val (.long (own_law_v56_2_S0 q0 q1 q2 q3 q4)), .second, .val (.int (own_law_v69_3_S0 q0 q1 q2 q3 q4)), .val (.long (own_law_v81_4_S0 q0 q1 q2 q3 q4)), .second, .val (.int (own_law_v94_5_S0 q0 q1 q2 q3 q4)), .val (.ref b6), .val (.ref b14), .val (.ref b22), .val (.int (own_law_x2 q0 q1 q2 q3 q4)), .val (.ref b14), .val (.long (own_law_x3 q0 q1 q2 q3 q4)), .second, .val (.int (own_law_v217_6_S0 q0 q1 q2 q3 q4)), .val (.int (own_law_x4 q0 q1 q2 q3 q4)), .val (.int (own_law_v266_12_S0 q0 q1 q2 q3 q4))]) rfl ?_
                    refine o_iload X37 hx (hb hby at_268) (pc' := 270) rfl rfl ?_
                    refine o_iconst X37 hx (1 : Int32) (hb hby at_270) (pc' := 271) rfl (by decide) ?_
                    refine o_cmpN X37 hx (hb hby at_271) (feq hc163_24).1 (pc' := 274) rfl ?_
                    refine o_iload X37 hx (hb hby at_274) (pc' := 276) rfl rfl ?_
                    have J316_13 : ∀ (z0 : Int32), z0 = (own_law_v316_13_S0 q0 q1 q2 q3 q4) → Go p e below OWE (T37.setTop (mkF m 316 #[.val (.long q0), .second, .val (.int q1), .val (.long q2), .second, .val (.int q3), .val (.int q4), .val (.long (own_law_x0 q0 q1 q2 q3 q4)), .second, .val (.long (own_law_x1 q0 q1 q2 q3 q4)), .second, .val (.int (own_law_v44_1_S0 q0 q1 q2 q3 q4)), .val (.long (own_law_v56_2_S0 q0 q1 q2 q3 q4)), .second, .val (.int (own_law_v69_3_S0 q0 q1 q2 q3 q4)), .val (.long (own_law_v81_4_S0 q0 q1 q2 q3 q4)), .second, .val (.int (own_law_v94_5_S0 q0 q1 q2 q3 q4)), .val (.ref b6), .val (.ref b14), .val (.ref b22), .val (.int (own_law_x2 q0 q1 q2 q3 q4)), .val (.ref b14), .val (.long (own_law_x3 q0 q1 q2 q3 q4)), .second, .val (.int (own_law_v217_6_S0 q0 q1 q2 q3 q4)), .val (.int (own_law_x4 q0 q1 q2 q3 q4)), .val (.int (own_law_v266_12_S0 q0 q1 q2 q3 q4))] [.int z0])) := by
                      intro z0 yy0
                      subst yy0
                      refine o_istore X37 hx (hb hby at_316) (pc' := 318) rfl (L' := #[.val (.long q0), .second, .val (.int q1), .val (.long q2), .second, .val (.int q3), .val (.int q4), .val (.long (own_law_x0 q0 q1 q2 q3 q4)), .second, .val (.long (own_law_x1 q0 q1 q2 q3 q4)), .second, .val (.int (own_law_v44_1_S0 q0 q1 q2 q3 q4)), .val (.long (own_law_v56_2_S0 q0 q1 q2 q3 q4)), .second, .val (.int (own_law_v69_3_S0 q0 q1 q2 q3 q4)), .val (.long (own_law_v81_4_S0 q0 q1 q2 q3 q4)), .second, .val (.int (own_law_v94_5_S0 q0 q1 q2 q3 q4)), .val (.ref b6), .val (.ref b14), .val (.ref b22), .val (.int (own_law_x2 q0 q1 q2 q3 q4)), .val (.ref b14), .val (.long (own_law_x3 q0 q1 q2 q3 q4)), .second, .val (.int (own_law_v217_6_S0 q0 q1 q2 q3 q4)), .val (.int (own_law_x4 q0 q1 q2 q3 q4)), .val (.int (own_law_v316_13_S0 q0 q1 q2 q3 q4))]) rfl ?_
                      refine o_iload X37 hx (hb hby at_318) (pc' := 320) rfl rfl ?_
                      refine o_iconst X37 hx (2 : Int32) (hb hby at_320) (pc' := 321) rfl (by decide) ?_
                      refine o_cmpY X37 hx (hb hby at_321) (teq hc174_34).1 (by decide) (pc' := 368) (by decide) ?_
                      refine o_iload X37 hx (hb hby at_368) (pc' := 370) rfl rfl ?_
                      rw [← hOWE]
                      exact o_retZ X37 hx (own_narZ (own_law_v316_13_S0_01 q0 q1 q2 q3 q4)) hlk hrt (hb hby at_370) (by decide) (by decide) (by rw [e37]; exact ⟨(by rw [own_law_ret, own_law_ret_j44_1, own_law_ret_j56_2, own_law_ret_j69_3, own_law_ret_j81_4, own_law_ret_j94_5, if_neg hc163_24, if_pos hc174_34, own_law_ret_j217_11, own_law_ret_j266_12, own_law_ret_j316_13]), N37⟩)
                    by_cases hc276_40 : (own_law_v266_12_S0 q0 q1 q2 q3 q4) = (0 : Int32)
                    · refine o_ifY X37 hx (hb hby at_276) (teq hc276_40).1 (by decide) (pc' := 315) (by decide) ?_
                      refine o_iconst X37 hx (0 : Int32) (hb hby at_315) (pc' := 316) rfl (by decide) ?_
                      exact J316_13 ((0 : Int32)) (by rw [own_law_v316_13_S0, if_pos hc276_40])
                    · refine o_ifN X37 hx (hb hby at_276) (feq hc276_40).1 (pc' := 279) rfl ?_
                      refine o_aload X37 hx (hb hby at_279) (pc' := 281) rfl rfl rfl ?_
                      refine o_iconst X37 hx (0 : Int32) (hb hby at_281) (pc' := 282) rfl (by decide) ?_
                      refine o_iaload X37 hx hZ (.int ((own_law_v56_2_S0 q0 q1 q2 q3 q4).toInt32)) e37 V36_b6 (by decide) (by rfl) (hb hby at_282) (pc' := 283) rfl ?_
                      refine o_lload X37 hx (hb hby at_283) (pc' := 285) rfl rfl ?_
                      refine o_l2i X37 hx (hb hby at_285) (pc' := 286) rfl ?_
                      refine o_cmpN X37 hx (hb hby at_286) (teq (rfl : ((own_law_v56_2_S0 q0 q1 q2 q3 q4).toInt32) = ((own_law_v56_2_S0 q0 q1 q2 q3 q4).toInt32))).2 (pc' := 289) rfl ?_
                      refine o_aload X37 hx (hb hby at_289) (pc' := 291) rfl rfl rfl ?_
                      refine o_iconst X37 hx (1 : Int32) (hb hby at_291) (pc' := 292) rfl (by decide) ?_
                      refine o_iaload X37 hx hZ (.int ((uL (own_law_v56_2_S0 q0 q1 q2 q3 q4) (32 : Int32)).toInt32)) e37 V36_b6 (by decide) (by rfl) (hb hby at_292) (pc' := 293) rfl ?_
                      refine o_lload X37 hx (hb hby at_293) (pc' := 295) rfl rfl ?_
                      refine o_bipush X37 hx (32 : Int32) (hb hby at_295) (pc' := 297) rfl (by decide) ?_
                      refine o_lushr X37 hx (hb hby at_297) (pc' := 298) rfl ?_
                      refine o_l2i X37 hx (hb hby at_298) (pc' := 299) rfl ?_
                      refine o_cmpN X37 hx (hb hby at_299) (teq (rfl : ((uL (own_law_v56_2_S0 q0 q1 q2 q3 q4) (32 : Int32)).toInt32) = ((uL (own_law_v56_2_S0 q0 q1 q2 q3 q4) (32 : Int32)).toInt32))).2 (pc' := 302) rfl ?_
                      refine o_aload X37 hx (hb hby at_302) (pc' := 304) rfl rfl rfl ?_
                      refine o_iconst X37 hx (2 : Int32) (hb hby at_304) (pc' := 305) rfl (by decide) ?_
                      refine o_iaload X37 hx hZ (.int (own_law_v69_3_S0 q0 q1 q2 q3 q4)) e37 V36_b6 (by decide) (by rfl) (hb hby at_305) (pc' := 306) rfl ?_
                      refine o_iload X37 hx (hb hby at_306) (pc' := 308) rfl rfl ?_
                      refine o_cmpN X37 hx (hb hby at_308) (teq (rfl : (own_law_v69_3_S0 q0 q1 q2 q3 q4) = (own_law_v69_3_S0 q0 q1 q2 q3 q4))).2 (pc' := 311) rfl ?_
                      refine o_iconst X37 hx (1 : Int32) (hb hby at_311) (pc' := 312) rfl (by decide) ?_
                      refine o_goto X37 hx (hb hby at_312) (by decide) (pc' := 316) (by decide) ?_
                      exact J316_13 ((1 : Int32)) (by rw [own_law_v316_13_S0, if_neg hc276_40])
                  by_cases hc236_39 : (own_f1c_A_bb_0 ((own_law_v56_2_S0 q0 q1 q2 q3 q4).toInt32) ((uL (own_law_v56_2_S0 q0 q1 q2 q3 q4) (32 : Int32)).toInt32) (own_law_v69_3_S0 q0 q1 q2 q3 q4) ((own_law_v81_4_S0 q0 q1 q2 q3 q4).toInt32) ((uL (own_law_v81_4_S0 q0 q1 q2 q3 q4) (32 : Int32)).toInt32) (own_law_v94_5_S0 q0 q1 q2 q3 q4)) = ((own_law_x3 q0 q1 q2 q3 q4).toInt32)
                  · refine o_cmpN X37 hx (hb hby at_236) (teq hc236_39).2 (pc' := 239) rfl ?_
                    refine o_aload X37 hx (hb hby at_239) (pc' := 241) rfl rfl rfl ?_
                    refine o_iconst X37 hx (1 : Int32) (hb hby at_241) (pc' := 242) rfl (by decide) ?_
                    refine o_iaload X37 hx hZ (.int (own_f1c_A_bb_1 ((own_law_v56_2_S0 q0 q1 q2 q3 q4).toInt32) ((uL (own_law_v56_2_S0 q0 q1 q2 q3 q4) (32 : Int32)).toInt32) (own_law_v69_3_S0 q0 q1 q2 q3 q4) ((own_law_v81_4_S0 q0 q1 q2 q3 q4).toInt32) ((uL (own_law_v81_4_S0 q0 q1 q2 q3 q4) (32 : Int32)).toInt32) (own_law_v94_5_S0 q0 q1 q2 q3 q4))) e37 P35_0 (by decide) (by rfl) (hb hby at_242) (pc' := 243) rfl ?_
                    refine o_lload X37 hx (hb hby at_243) (pc' := 245) rfl rfl ?_
                    refine o_bipush X37 hx (32 : Int32) (hb hby at_245) (pc' := 247) rfl (by decide) ?_
                    refine o_lushr X37 hx (hb hby at_247) (pc' := 248) rfl ?_
                    refine o_l2i X37 hx (hb hby at_248) (pc' := 249) rfl ?_
                    by_cases hc249_41 : (own_f1c_A_bb_1 ((own_law_v56_2_S0 q0 q1 q2 q3 q4).toInt32) ((uL (own_law_v56_2_S0 q0 q1 q2 q3 q4) (32 : Int32)).toInt32) (own_law_v69_3_S0 q0 q1 q2 q3 q4) ((own_law_v81_4_S0 q0 q1 q2 q3 q4).toInt32) ((uL (own_law_v81_4_S0 q0 q1 q2 q3 q4) (32 : Int32)).toInt32) (own_law_v94_5_S0 q0 q1 q2 q3 q4)) = ((uL (own_law_x3 q0 q1 q2 q3 q4) (32 : Int32)).toInt32)
                    · refine o_cmpN X37 hx (hb hby at_249) (teq hc249_41).2 (pc' := 252) rfl ?_
                      refine o_aload X37 hx (hb hby at_252) (pc' := 254) rfl rfl rfl ?_
                      refine o_iconst X37 hx (2 : Int32) (hb hby at_254) (pc' := 255) rfl (by decide) ?_
                      refine o_iaload X37 hx hZ (.int (own_f1c_A_bb_2 ((own_law_v56_2_S0 q0 q1 q2 q3 q4).toInt32) ((uL (own_law_v56_2_S0 q0 q1 q2 q3 q4) (32 : Int32)).toInt32) (own_law_v69_3_S0 q0 q1 q2 q3 q4) ((own_law_v81_4_S0 q0 q1 q2 q3 q4).toInt32) ((uL (own_law_v81_4_S0 q0 q1 q2 q3 q4) (32 : Int32)).toInt32) (own_law_v94_5_S0 q0 q1 q2 q3 q4))) e37 P35_0 (by decide) (by rfl) (hb hby at_255) (pc' := 256) rfl ?_
                      refine o_iload X37 hx (hb hby at_256) (pc' := 258) rfl rfl ?_
                      by_cases hc258_42 : (own_f1c_A_bb_2 ((own_law_v56_2_S0 q0 q1 q2 q3 q4).toInt32) ((uL (own_law_v56_2_S0 q0 q1 q2 q3 q4) (32 : Int32)).toInt32) (own_law_v69_3_S0 q0 q1 q2 q3 q4) ((own_law_v81_4_S0 q0 q1 q2 q3 q4).toInt32) ((uL (own_law_v81_4_S0 q0 q1 q2 q3 q4) (32 : Int32)).toInt32) (own_law_v94_5_S0 q0 q1 q2 q3 q4)) = (own_law_x4 q0 q1 q2 q3 q4)
                      · refine o_cmpN X37 hx (hb hby at_258) (teq hc258_42).2 (pc' := 261) rfl ?_
                        refine o_iconst X37 hx (1 : Int32) (hb hby at_261) (pc' := 262) rfl (by decide) ?_
                        refine o_goto X37 hx (hb hby at_262) (by decide) (pc' := 266) (by decide) ?_
                        exact J266_12 ((1 : Int32)) (by rw [own_law_v266_12_S0, if_pos hc236_39, if_pos hc249_41, if_pos hc258_42])
                      · refine o_cmpY X37 hx (hb hby at_258) (feq hc258_42).2 (by decide) (pc' := 265) (by decide) ?_
                        refine o_iconst X37 hx (0 : Int32) (hb hby at_265) (pc' := 266) rfl (by decide) ?_
                        exact J266_12 ((0 : Int32)) (by rw [own_law_v266_12_S0, if_pos hc236_39, if_pos hc249_41, if_neg hc258_42])
                    · refine o_cmpY X37 hx (hb hby at_249) (feq hc249_41).2 (by decide) (pc' := 265) (by decide) ?_
                      refine o_iconst X37 hx (0 : Int32) (hb hby at_265) (pc' := 266) rfl (by decide) ?_
                      exact J266_12 ((0 : Int32)) (by rw [own_law_v266_12_S0, if_pos hc236_39, if_neg hc249_41])
                  · refine o_cmpY X37 hx (hb hby at_236) (feq hc236_39).2 (by decide) (pc' := 265) (by decide) ?_
                    refine o_iconst X37 hx (0 : Int32) (hb hby at_265) (pc' := 266) rfl (by decide) ?_
                    exact J266_12 ((0 : Int32)) (by rw [own_law_v266_12_S0, if_neg hc236_39])
                by_cases hc209_38 : (own_f2_ret (own_law_v56_2_S0 q0 q1 q2 q3 q4) (own_law_v81_4_S0 q0 q1 q2 q3 q4)) = (0 : Int32)
                · refine o_ifY X37 hx (hb hby at_209) (teq hc209_38).1 (by decide) (pc' := 216) (by decide) ?_
                  refine o_iconst X37 hx (0 : Int32) (hb hby at_216) (pc' := 217) rfl (by decide) ?_
                  exact J217_11 ((0 : Int32)) (by rw [own_law_v217_6_S0, if_pos hc209_38])
                · refine o_ifN X37 hx (hb hby at_209) (feq hc209_38).1 (pc' := 212) rfl ?_
                  refine o_iconst X37 hx (1 : Int32) (hb hby at_212) (pc' := 213) rfl (by decide) ?_
                  refine o_goto X37 hx (hb hby at_213) (by decide) (pc' := 217) (by decide) ?_
                  exact J217_11 ((1 : Int32)) (by rw [own_law_v217_6_S0, if_neg hc209_38])
              · refine o_cmpY X22 hx (hb hby at_174) (feq hc174_34).2 (by decide) (pc' := 182) (by decide) ?_
                refine o_aload X22 hx (hb hby at_182) (pc' := 184) rfl rfl rfl ?_
                refine o_astore X22 hx (hb hby at_184) (pc' := 186) rfl (L' := #[.val (.long q0), .second, .val (.int q1), .val (.long q2), .second, .val (.int q3), .val (.int q4), .val (.long (own_law_x0 q0 q1 q2 q3 q4)), .second, .val (.long (own_law_x1 q0 q1 q2 q3 q4)), .second, .val (.int (own_law_v44_1_S0 q0 q1 q2 q3 q4)), .val (.long (own_law_v56_2_S0 q0 q1 q2 q3 q4)), .second, .val (.int (own_law_v69_3_S0 q0 q1 q2 q3 q4)), .val (.long (own_law_v81_4_S0 q0 q1 q2 q3 q4)), .second, .val (.int (own_law_v94_5_S0 q0 q1 q2 q3 q4)), .val (.ref b6), .val (.ref b14), .val (.ref b22), .val (.int (own_law_x2 q0 q1 q2 q3 q4)), .val (.ref b22), .unset, .unset, .unset, .unset, .unset]) rfl rfl ?_
                refine o_aload X22 hx (hb hby at_186) (pc' := 188) rfl rfl rfl ?_
                refine o_aload X22 hx (hb hby at_188) (pc' := 190) rfl rfl rfl ?_
                refine o_aload X22 hx (hb hby at_190) (pc' := 192) rfl rfl rfl ?_
                refine o_callS X22 hx hZ 0 (argsL := [.ref b6, .ref b14, .ref b22]) (rest := []) hown (w 3 _ rfl) (w 4 _ rfl) (w 5 _ rfl) (w 6 _ rfl) (by decide) (rm1a l Z a0 hw [] b6 b14 b22 ((own_law_v56_2_S0 q0 q1 q2 q3 q4).toInt32) ((uL (own_law_v56_2_S0 q0 q1 q2 q3 q4) (32 : Int32)).toInt32) (own_law_v69_3_S0 q0 q1 q2 q3 q4) ((own_law_v81_4_S0 q0 q1 q2 q3 q4).toInt32) ((uL (own_law_v81_4_S0 q0 q1 q2 q3 q4) (32 : Int32)).toInt32) (own_law_v94_5_S0 q0 q1 q2 q3 q4) (0 : Int32) (0 : Int32) (0 : Int32) k6 k14 k22 h22 n0 Z22 V23_b6 V23_b14 V22_ g_b22 ne_b6_b22 ne_b14_b22) (by decide) (by decide) (cells' := 3) rfl (slots' := 9) rfl (by decide) (by decide) e22 (by rw [hml]; rfl) (lenOf pd_1 rfl) rfl rfl (hb hby at_192) (pc' := 195) rfl ?_
                intro T43 v43 L43 X43 hQ43
                obtain ⟨rfl, Nq43, Kq43, P43_0⟩ := hQ43
                have N43 := Fr.app N20 Nq43
                have V44_b6 := Arv.keep V23_b6 Kq43 (ninS ne_b6_b22 nin0)
                have V44_b14 := Arv.keep V23_b14 Kq43 (ninS ne_b14_b22 nin0)
                have Z43 : n0 ≤ T43.heap.size := Nat.le_trans Z22 Kq43.1
                show Go p e below _ (T43.setTop (mkF m 195 _ []))
                refine o_lload X43 hx (hb hby at_195) (pc' := 197) rfl rfl ?_
                refine o_lload X43 hx (hb hby at_197) (pc' := 199) rfl rfl ?_
                refine o_lsub X43 hx (hb hby at_199) (pc' := 200) rfl ?_
                refine o_lstore (x := (own_law_x3 q0 q1 q2 q3 q4)) X43 hx (hb hby at_200) (pc' := 202) rfl (L' := #[.val (.long q0), .second, .val (.int q1), .val (.long q2), .second, .val (.int q3), .val (.int q4), .val (.long (own_law_x0 q0 q1 q2 q3 q4)), .second, .val (.long (own_law_x1 q0 q1 q2 q3 q4)), .second, .val (.int (own_law_v44_1_S0 q0 q1 q2 q3 q4)), .val (.long (own_law_v56_2_S0 q0 q1 q2 q3 q4)), .second, .val (.int (own_law_v69_3_S0 q0 q1 q2 q3 q4)), .val (.long (own_law_v81_4_S0 q0 q1 q2 q3 q4)), .second, .val (.int (own_law_v94_5_S0 q0 q1 q2 q3 q4)), .val (.ref b6), .val (.ref b14), .val (.ref b22), .val (.int (own_law_x2 q0 q1 q2 q3 q4)), .val (.ref b22), .val (.long (own_law_x3 q0 q1 q2 q3 q4)), .second, .unset, .unset, .unset]) rfl ?_
                refine o_lload X43 hx (hb hby at_202) (pc' := 204) rfl rfl ?_
                refine o_lload X43 hx (hb hby at_204) (pc' := 206) rfl rfl ?_
                refine o_callS X43 hx hZ 0 (argsL := [.long (own_law_v56_2_S0 q0 q1 q2 q3 q4), .long (own_law_v81_4_S0 q0 q1 q2 q3 q4)]) (rest := []) hown (w 8 _ rfl) (w 9 _ rfl) (w 10 _ rfl) (w 11 _ rfl) (by decide) (rm2 l Z a0 hw [] (own_law_v56_2_S0 q0 q1 q2 q3 q4) (own_law_v81_4_S0 q0 q1 q2 q3 q4) T43.heap n0 Z43 ) (by decide) (by decide) (cells' := 3) rfl (slots' := 9) rfl (by decide) (by decide) rfl (by rw [hml]; rfl) (lenOf pd_0 rfl) rfl rfl (hb hby at_206) (pc' := 209) rfl ?_
                intro T45 v45 L45 X45 hQ45
                obtain ⟨rfl, Nq45, e45⟩ := hQ45
                have N45 := Fr.app N43 Nq45
                show Go p e below _ (T45.setTop (mkF m 209 _ [.int (own_f2_ret (own_law_v56_2_S0 q0 q1 q2 q3 q4) (own_law_v81_4_S0 q0 q1 q2 q3 q4))]))
                have J217_14 : ∀ (z0 : Int32), z0 = (own_law_v217_6_S0 q0 q1 q2 q3 q4) → Go p e below OWE (T45.setTop (mkF m 217 #[.val (.long q0), .second, .val (.int q1), .val (.long q2), .second, .val (.int q3), .val (.int q4), .val (.long (own_law_x0 q0 q1 q2 q3 q4)), .second, .val (.long (own_law_x1 q0 q1 q2 q3 q4)), .second, .val (.int (own_law_v44_1_S0 q0 q1 q2 q3 q4)), .val (.long (own_law_v56_2_S0 q0 q1 q2 q3 q4)), .second, .val (.int (own_law_v69_3_S0 q0 q1 q2 q3 q4)), .val (.long (own_law_v81_4_S0 q0 q1 q2 q3 q4)), .second, .val (.int (own_law_v94_5_S0 q0 q1 q2 q3 q4)), .val (.ref b6), .val (.ref b14), .val (.ref b22), .val (.int (own_law_x2 q0 q1 q2 q3 q4)), .val (.ref b22), .val (.long (own_law_x3 q0 q1 q2 q3 q4)), .second, .unset, .unset, .unset] [.int z0])) := by
                  intro z0 yy0
                  subst yy0
                  refine o_istore X45 hx (hb hby at_217) (pc' := 219) rfl (L' := #[.val (.long q0), .second, .val (.int q1), .val (.long q2), .second, .val (.int q3), .val (.int q4), .val (.long (own_law_x0 q0 q1 q2 q3 q4)), .second, .val (.long (own_law_x1 q0 q1 q2 q3 q4)), .second, .val (.int (own_law_v44_1_S0 q0 q1 q2 q3 q4)), .val (.long (own_law_v56_2_S0 q0 q1 q2 q3 q4)), .second, .val (.int (own_law_v69_3_S0 q0 q1 q2 q3 q4)), .val (.long (own_law_v81_4_S0 q0 q1 q2 q3 q4)), .second, .val (.int (own_law_v94_5_S0 q0 q1 q2 q3 q4)), .val (.ref b6), .val (.ref b14), .val (.ref b22), .val (.int (own_law_x2 q0 q1 q2 q3 q4)), .val (.ref b22), .val (.long (own_law_x3 q0 q1 q2 q3 q4)), .second, .val (.int (own_law_v217_6_S0 q0 q1 q2 q3 q4)), .unset, .unset]) rfl ?_
                  refine o_iload X45 hx (hb hby at_219) (pc' := 221) rfl rfl ?_
                  refine o_iload X45 hx (hb hby at_221) (pc' := 223) rfl rfl ?_
                  refine o_isub X45 hx (hb hby at_223) (pc' := 224) rfl ?_
                  refine o_iload X45 hx (hb hby at_224) (pc' := 226) rfl rfl ?_
                  refine o_isub X45 hx (hb hby at_226) (pc' := 227) rfl ?_
                  refine o_istore (x := (own_law_x4 q0 q1 q2 q3 q4)) X45 hx (hb hby at_227) (pc' := 229) rfl (L' := #[.val (.long q0), .second, .val (.int q1), .val (.long q2), .second, .val (.int q3), .val (.int q4), .val (.long (own_law_x0 q0 q1 q2 q3 q4)), .second, .val (.long (own_law_x1 q0 q1 q2 q3 q4)), .second, .val (.int (own_law_v44_1_S0 q0 q1 q2 q3 q4)), .val (.long (own_law_v56_2_S0 q0 q1 q2 q3 q4)), .second, .val (.int (own_law_v69_3_S0 q0 q1 q2 q3 q4)), .val (.long (own_law_v81_4_S0 q0 q1 q2 q3 q4)), .second, .val (.int (own_law_v94_5_S0 q0 q1 q2 q3 q4)), .val (.ref b6), .val (.ref b14), .val (.ref b22), .val (.int (own_law_x2 q0 q1 q2 q3 q4)), .val (.ref b22), .val (.long (own_law_x3 q0 q1 q2 q3 q4)), .second, .val (.int (own_law_v217_6_S0 q0 q1 q2 q3 q4)), .val (.int (own_law_x4 q0 q1 q2 q3 q4)), .unset]) rfl ?_
                  refine o_aload X45 hx (hb hby at_229) (pc' := 231) rfl rfl rfl ?_
                  refine o_iconst X45 hx (0 : Int32) (hb hby at_231) (pc' := 232) rfl (by decide) ?_
                  refine o_iaload X45 hx hZ (.int (own_f1a_A_cc_0 ((own_law_v56_2_S0 q0 q1 q2 q3 q4).toInt32) ((uL (own_law_v56_2_S0 q0 q1 q2 q3 q4) (32 : Int32)).toInt32) (own_law_v69_3_S0 q0 q1 q2 q3 q4) ((own_law_v81_4_S0 q0 q1 q2 q3 q4).toInt32) ((uL (own_law_v81_4_S0 q0 q1 q2 q3 q4) (32 : Int32)).toInt32) (own_law_v94_5_S0 q0 q1 q2 q3 q4))) e45 P43_0 (by decide) (by rfl) (hb hby at_232) (pc' := 233) rfl ?_
                  refine o_lload X45 hx (hb hby at_233) (pc' := 235) rfl rfl ?_
                  refine o_l2i X45 hx (hb hby at_235) (pc' := 236) rfl ?_
                  have J266_15 : ∀ (z0 : Int32), z0 = (own_law_v266_15_S0 q0 q1 q2 q3 q4) → Go p e below OWE (T45.setTop (mkF m 266 #[.val (.long q0), .second, .val (.int q1), .val (.long q2), .second, .val (.int q3), .val (.int q4), .val (.long (own_law_x0 q0 q1 q2 q3 q4)), .second, .val (.long (own_law_x1 q0 q1 q2 q3 q4)), .second, .val (.int (own_law_v44_1_S0 q0 q1 q2 q3 q4)), .val (.long (own_law_v56_2_S0 q0 q1 q2 q3 q4)), .second, .val (.int (own_law_v69_3_S0 q0 q1 q2 q3 q4)), .val (.long (own_law_v81_4_S0 q0 q1 q2 q3 q4)), .second, .val (.int (own_law_v94_5_S0 q0 q1 q2 q3 q4)), .val (.ref b6), .val (.ref b14), .val (.ref b22), .val (.int (own_law_x2 q0 q1 q2 q3 q4)), .val (.ref b22), .val (.long (own_law_x3 q0 q1 q2 q3 q4)), .second, .val (.int (own_law_v217_6_S0 q0 q1 q2 q3 q4)), .val (.int (own_law_x4 q0 q1 q2 q3 q4)), .unset] [.int z0])) := by
                    intro z0 yy0
                    subst yy0
                    refine o_istore X45 hx (hb hby at_266) (pc' := 268) rfl (L' := #[.val (.long q0), .second, .val (.int q1), .val (.long q2), .second, .val (.int q3), .val (.int q4), .val (.long (own_law_x0 q0 q1 q2 q3 q4)), .second, .val (.long (own_law_x1 q0 q1 q2 q3 q4)), .second, .val (.int (own_law_v44_1_S0 q0 q1 q2 q3 q4)), .val (.long (own_law_v56_2_S0 q0 q1 q2 q3 q4)), .second, .val (.int (own_law_v69_3_S0 q0 q1 q2 q3 q4)), .val (.long (own_law_v81_4_S0 q0 q1 q2 q3 q4)), .second, .val (.int (own_law_v94_5_S0 q0 q1 q2 q3 q4)), .val (.ref b6), .val (.ref b14), .val (.ref b22), .val (.int (own_law_x2 q0 q1 q2 q3 q4)), .val (.ref b22), .val (.long (own_law_x3 q0 q1 q2 q3 q4)), .second, .val (.int (own_law_v217_6_S0 q0 q1 q2 q3 q4)), .val (.int (own_law_x4 q0 q1 q2 q3 q4)), .val (.int (own_law_v266_15_S0 q0 q1 q2 q3 q4))]) rfl ?_
                    refine o_iload X45 hx (hb hby at_268) (pc' := 270) rfl rfl ?_
                    refine o_iconst X45 hx (1 : Int32) (hb hby at_270) (pc' := 271) rfl (by decide) ?_
                    refine o_cmpN X45 hx (hb hby at_271) (feq hc163_24).1 (pc' := 274) rfl ?_
                    refine o_iload X45 hx (hb hby at_274) (pc' := 276) rfl rfl ?_
                    have J316_16 : ∀ (z0 : Int32), z0 = (own_law_v316_16_S0 q0 q1 q2 q3 q4) → Go p e below OWE (T45.setTop (mkF m 316 #[.val (.long q0), .second, .val (.int q1), .val (.long q2), .second, .val (.int q3), .val (.int q4), .val (.long (own_law_x0 q0 q1 q2 q3 q4)), .second, .val (.long (own_law_x1 q0 q1 q2 q3 q4)), .second, .val (.int (own_law_v44_1_S0 q0 q1 q2 q3 q4)), .val (.long (own_law_v56_2_S0 q0 q1 q2 q3 q4)), .second, .val (.int (own_law_v69_3_S0 q0 q1 q2 q3 q4)), .val (.long (own_law_v81_4_S0 q0 q1 q2 q3 q4)), .second, .val (.int (own_law_v94_5_S0 q0 q1 q2 q3 q4)), .val (.ref b6), .val (.ref b14), .val (.ref b22), .val (.int (own_law_x2 q0 q1 q2 q3 q4)), .val (.ref b22), .val (.long (own_law_x3 q0 q1 q2 q3 q4)), .second, .val (.int (own_law_v217_6_S0 q0 q1 q2 q3 q4)), .val (.int (own_law_x4 q0 q1 q2 q3 q4)), .val (.int (own_law_v266_15_S0 q0 q1 q2 q3 q4))] [.int z0])) := by
                      intro z0 yy0
                      subst yy0
                      refine o_istore X45 hx (hb hby at_316) (pc' := 318) rfl (L' := #[.val (.long q0), .second, .val (.int q1), .val (.long q2), .second, .val (.int q3), .val (.int q4), .val (.long (own_law_x0 q0 q1 q2 q3 q4)), .second, .val (.long (own_law_x1 q0 q1 q2 q3 q4)), .second, .val (.int (own_law_v44_1_S0 q0 q1 q2 q3 q4)), .val (.long (own_law_v56_2_S0 q0 q1 q2 q3 q4)), .second, .val (.int (own_law_v69_3_S0 q0 q1 q2 q3 q4)), .val (.long (own_law_v81_4_S0 q0 q1 q2 q3 q4)), .second, .val (.int (own_law_v94_5_S0 q0 q1 q2 q3 q4)), .val (.ref b6), .val (.ref b14), .val (.ref b22), .val (.int (own_law_x2 q0 q1 q2 q3 q4)), .val (.ref b22), .val (.long (own_law_x3 q0 q1 q2 q3 q4)), .second, .val (.int (own_law_v217_6_S0 q0 q1 q2 q3 q4)), .val (.int (own_law_x4 q0 q1 q2 q3 q4)), .val (.int (own_law_v316_16_S0 q0 q1 q2 q3 q4))]) rfl ?_
                      refine o_iload X45 hx (hb hby at_318) (pc' := 320) rfl rfl ?_
                      refine o_iconst X45 hx (2 : Int32) (hb hby at_320) (pc' := 321) rfl (by decide) ?_
                      refine o_cmpN X45 hx (hb hby at_321) (feq hc174_34).1 (pc' := 324) rfl ?_
                      refine o_iload X45 hx (hb hby at_324) (pc' := 326) rfl rfl ?_
                      have J366_17 : ∀ (z0 : Int32), z0 = (own_law_v366_17_S0 q0 q1 q2 q3 q4) → Go p e below OWE (T45.setTop (mkF m 366 #[.val (.long q0), .second, .val (.int q1), .val (.long q2), .second, .val (.int q3), .val (.int q4), .val (.long (own_law_x0 q0 q1 q2 q3 q4)), .second, .val (.long (own_law_x1 q0 q1 q2 q3 q4)), .second, .val (.int (own_law_v44_1_S0 q0 q1 q2 q3 q4)), .val (.long (own_law_v56_2_S0 q0 q1 q2 q3 q4)), .second, .val (.int (own_law_v69_3_S0 q0 q1 q2 q3 q4)), .val (.long (own_law_v81_4_S0 q0 q1 q2 q3 q4)), .second, .val (.int (own_law_v94_5_S0 q0 q1 q2 q3 q4)), .val (.ref b6), .val (.ref b14), .val (.ref b22), .val (.int (own_law_x2 q0 q1 q2 q3 q4)), .val (.ref b22), .val (.long (own_law_x3 q0 q1 q2 q3 q4)), .second, .val (.int (own_law_v217_6_S0 q0 q1 q2 q3 q4)), .val (.int (own_law_x4 q0 q1 q2 q3 q4)), .val (.int (own_law_v316_16_S0 q0 q1 q2 q3 q4))] [.int z0])) := by
                        intro z0 yy0
                        subst yy0
                        refine o_istore X45 hx (hb hby at_366) (pc' := 368) rfl (L' := #[.val (.long q0), .second, .val (.int q1), .val (.long q2), .second, .val (.int q3), .val (.int q4), .val (.long (own_law_x0 q0 q1 q2 q3 q4)), .second, .val (.long (own_law_x1 q0 q1 q2 q3 q4)), .second, .val (.int (own_law_v44_1_S0 q0 q1 q2 q3 q4)), .val (.long (own_law_v56_2_S0 q0 q1 q2 q3 q4)), .second, .val (.int (own_law_v69_3_S0 q0 q1 q2 q3 q4)), .val (.long (own_law_v81_4_S0 q0 q1 q2 q3 q4)), .second, .val (.int (own_law_v94_5_S0 q0 q1 q2 q3 q4)), .val (.ref b6), .val (.ref b14), .val (.ref b22), .val (.int (own_law_x2 q0 q1 q2 q3 q4)), .val (.ref b22), .val (.long (own_law_x3 q0 q1 q2 q3 q4)), .second, .val (.int (own_law_v217_6_S0 q0 q1 q2 q3 q4)), .val (.int (own_law_x4 q0 q1 q2 q3 q4)), .val (.int (own_law_v366_17_S0 q0 q1 q2 q3 q4))]) rfl ?_
                        refine o_iload X45 hx (hb hby at_368) (pc' := 370) rfl rfl ?_
                        rw [← hOWE]
                        exact o_retZ X45 hx (own_narZ (own_law_v366_17_S0_01 q0 q1 q2 q3 q4)) hlk hrt (hb hby at_370) (by decide) (by decide) (by rw [e45]; exact ⟨(by rw [own_law_ret, own_law_ret_j44_1, own_law_ret_j56_2, own_law_ret_j69_3, own_law_ret_j81_4, own_law_ret_j94_5, if_neg hc163_24, if_neg hc174_34, own_law_ret_j217_14, own_law_ret_j266_15, own_law_ret_j316_16, own_law_ret_j366_17]), N45⟩)
                      by_cases hc326_49 : (own_law_v316_16_S0 q0 q1 q2 q3 q4) = (0 : Int32)
                      · refine o_ifY X45 hx (hb hby at_326) (teq hc326_49).1 (by decide) (pc' := 365) (by decide) ?_
                        refine o_iconst X45 hx (0 : Int32) (hb hby at_365) (pc' := 366) rfl (by decide) ?_
                        exact J366_17 ((0 : Int32)) (by rw [own_law_v366_17_S0, if_pos hc326_49])
                      · refine o_ifN X45 hx (hb hby at_326) (feq hc326_49).1 (pc' := 329) rfl ?_
                        refine o_aload X45 hx (hb hby at_329) (pc' := 331) rfl rfl rfl ?_
                        refine o_iconst X45 hx (0 : Int32) (hb hby at_331) (pc' := 332) rfl (by decide) ?_
                        refine o_iaload X45 hx hZ (.int ((own_law_v81_4_S0 q0 q1 q2 q3 q4).toInt32)) e45 V44_b14 (by decide) (by rfl) (hb hby at_332) (pc' := 333) rfl ?_
                        refine o_lload X45 hx (hb hby at_333) (pc' := 335) rfl rfl ?_
                        refine o_l2i X45 hx (hb hby at_335) (pc' := 336) rfl ?_
                        refine o_cmpN X45 hx (hb hby at_336) (teq (rfl : ((own_law_v81_4_S0 q0 q1 q2 q3 q4).toInt32) = ((own_law_v81_4_S0 q0 q1 q2 q3 q4).toInt32))).2 (pc' := 339) rfl ?_
                        refine o_aload X45 hx (hb hby at_339) (pc' := 341) rfl rfl rfl ?_
                        refine o_iconst X45 hx (1 : Int32) (hb hby at_341) (pc' := 342) rfl (by decide) ?_
                        refine o_iaload X45 hx hZ (.int ((uL (own_law_v81_4_S0 q0 q1 q2 q3 q4) (32 : Int32)).toInt32)) e45 V44_b14 (by decide) (by rfl) (hb hby at_342) (pc' := 343) rfl ?_
                        refine o_lload X45 hx (hb hby at_343) (pc' := 345) rfl rfl ?_
                        refine o_bipush X45 hx (32 : Int32) (hb hby at_345) (pc' := 347) rfl (by decide) ?_
                        refine o_lushr X45 hx (hb hby at_347) (pc' := 348) rfl ?_
                        refine o_l2i X45 hx (hb hby at_348) (pc' := 349) rfl ?_
                        refine o_cmpN X45 hx (hb hby at_349) (teq (rfl : ((uL (own_law_v81_4_S0 q0 q1 q2 q3 q4) (32 : Int32)).toInt32) = ((uL (own_law_v81_4_S0 q0 q1 q2 q3 q4) (32 : Int32)).toInt32))).2 (pc' := 352) rfl ?_
                        refine o_aload X45 hx (hb hby at_352) (pc' := 354) rfl rfl rfl ?_
                        refine o_iconst X45 hx (2 : Int32) (hb hby at_354) (pc' := 355) rfl (by decide) ?_
                        refine o_iaload X45 hx hZ (.int (own_law_v94_5_S0 q0 q1 q2 q3 q4)) e45 V44_b14 (by decide) (by rfl) (hb hby at_355) (pc' := 356) rfl ?_
                        refine o_iload X45 hx (hb hby at_356) (pc' := 358) rfl rfl ?_
                        refine o_cmpN X45 hx (hb hby at_358) (teq (rfl : (own_law_v94_5_S0 q0 q1 q2 q3 q4) = (own_law_v94_5_S0 q0 q1 q2 q3 q4))).2 (pc' := 361) rfl ?_
                        refine o_iconst X45 hx (1 : Int32) (hb hby at_361) (pc' := 362) rfl (by decide) ?_
                        refine o_goto X45 hx (hb hby at_362) (by decide) (pc' := 366) (by decide) ?_
                        exact J366_17 ((1 : Int32)) (by rw [own_law_v366_17_S0, if_neg hc326_49])
                    by_cases hc276_48 : (own_law_v266_15_S0 q0 q1 q2 q3 q4) = (0 : Int32)
                    · refine o_ifY X45 hx (hb hby at_276) (teq hc276_48).1 (by decide) (pc' := 315) (by decide) ?_
                      refine o_iconst X45 hx (0 : Int32) (hb hby at_315) (pc' := 316) rfl (by decide) ?_
                      exact J316_16 ((0 : Int32)) (by rw [own_law_v316_16_S0, if_pos hc276_48])
                    · refine o_ifN X45 hx (hb hby at_276) (feq hc276_48).1 (pc' := 279) rfl ?_
                      refine o_aload X45 hx (hb hby at_279) (pc' := 281) rfl rfl rfl ?_
                      refine o_iconst X45 hx (0 : Int32) (hb hby at_281) (pc' := 282) rfl (by decide) ?_
                      refine o_iaload X45 hx hZ (.int ((own_law_v56_2_S0 q0 q1 q2 q3 q4).toInt32)) e45 V44_b6 (by decide) (by rfl) (hb hby at_282) (pc' := 283) rfl ?_
                      refine o_lload X45 hx (hb hby at_283) (pc' := 285) rfl rfl ?_
                      refine o_l2i X45 hx (hb hby at_285) (pc' := 286) rfl ?_
                      refine o_cmpN X45 hx (hb hby at_286) (teq (rfl : ((own_law_v56_2_S0 q0 q1 q2 q3 q4).toInt32) = ((own_law_v56_2_S0 q0 q1 q2 q3 q4).toInt32))).2 (pc' := 289) rfl ?_
                      refine o_aload X45 hx (hb hby at_289) (pc' := 291) rfl rfl rfl ?_
                      refine o_iconst X45 hx (1 : Int32) (hb hby at_291) (pc' := 292) rfl (by decide) ?_
                      refine o_iaload X45 hx hZ (.int ((uL (own_law_v56_2_S0 q0 q1 q2 q3 q4) (32 : Int32)).toInt32)) e45 V44_b6 (by decide) (by rfl) (hb hby at_292) (pc' := 293) rfl ?_
                      refine o_lload X45 hx (hb hby at_293) (pc' := 295) rfl rfl ?_
                      refine o_bipush X45 hx (32 : Int32) (hb hby at_295) (pc' := 297) rfl (by decide) ?_
                      refine o_lushr X45 hx (hb hby at_297) (pc' := 298) rfl ?_
                      refine o_l2i X45 hx (hb hby at_298) (pc' := 299) rfl ?_
                      refine o_cmpN X45 hx (hb hby at_299) (teq (rfl : ((uL (own_law_v56_2_S0 q0 q1 q2 q3 q4) (32 : Int32)).toInt32) = ((uL (own_law_v56_2_S0 q0 q1 q2 q3 q4) (32 : Int32)).toInt32))).2 (pc' := 302) rfl ?_
                      refine o_aload X45 hx (hb hby at_302) (pc' := 304) rfl rfl rfl ?_
                      refine o_iconst X45 hx (2 : Int32) (hb hby at_304) (pc' := 305) rfl (by decide) ?_
                      refine o_iaload X45 hx hZ (.int (own_law_v69_3_S0 q0 q1 q2 q3 q4)) e45 V44_b6 (by decide) (by rfl) (hb hby at_305) (pc' := 306) rfl ?_
                      refine o_iload X45 hx (hb hby at_306) (pc' := 308) rfl rfl ?_
                      refine o_cmpN X45 hx (hb hby at_308) (teq (rfl : (own_law_v69_3_S0 q0 q1 q2 q3 q4) = (own_law_v69_3_S0 q0 q1 q2 q3 q4))).2 (pc' := 311) rfl ?_
                      refine o_iconst X45 hx (1 : Int32) (hb hby at_311) (pc' := 312) rfl (by decide) ?_
                      refine o_goto X45 hx (hb hby at_312) (by decide) (pc' := 316) (by decide) ?_
                      exact J316_16 ((1 : Int32)) (by rw [own_law_v316_16_S0, if_neg hc276_48])
                  by_cases hc236_47 : (own_f1a_A_cc_0 ((own_law_v56_2_S0 q0 q1 q2 q3 q4).toInt32) ((uL (own_law_v56_2_S0 q0 q1 q2 q3 q4) (32 : Int32)).toInt32) (own_law_v69_3_S0 q0 q1 q2 q3 q4) ((own_law_v81_4_S0 q0 q1 q2 q3 q4).toInt32) ((uL (own_law_v81_4_S0 q0 q1 q2 q3 q4) (32 : Int32)).toInt32) (own_law_v94_5_S0 q0 q1 q2 q3 q4)) = ((own_law_x3 q0 q1 q2 q3 q4).toInt32)
                  · refine o_cmpN X45 hx (hb hby at_236) (teq hc236_47).2 (pc' := 239) rfl ?_
                    refine o_aload X45 hx (hb hby at_239) (pc' := 241) rfl rfl rfl ?_
                    refine o_iconst X45 hx (1 : Int32) (hb hby at_241) (pc' := 242) rfl (by decide) ?_
                    refine o_iaload X45 hx hZ (.int (own_f1a_A_cc_1 ((own_law_v56_2_S0 q0 q1 q2 q3 q4).toInt32) ((uL (own_law_v56_2_S0 q0 q1 q2 q3 q4) (32 : Int32)).toInt32) (own_law_v69_3_S0 q0 q1 q2 q3 q4) ((own_law_v81_4_S0 q0 q1 q2 q3 q4).toInt32) ((uL (own_law_v81_4_S0 q0 q1 q2 q3 q4) (32 : Int32)).toInt32) (own_law_v94_5_S0 q0 q1 q2 q3 q4))) e45 P43_0 (by decide) (by rfl) (hb hby at_242) (pc' := 243) rfl ?_
                    refine o_lload X45 hx (hb hby at_243) (pc' := 245) rfl rfl ?_
                    refine o_bipush X45 hx (32 : Int32) (hb hby at_245) (pc' := 247) rfl (by decide) ?_
                    refine o_lushr X45 hx (hb hby at_247) (pc' := 248) rfl ?_
                    refine o_l2i X45 hx (hb hby at_248) (pc' := 249) rfl ?_
                    by_cases hc249_50 : (own_f1a_A_cc_1 ((own_law_v56_2_S0 q0 q1 q2 q3 q4).toInt32) ((uL (own_law_v56_2_S0 q0 q1 q2 q3 q4) (32 : Int32)).toInt32) (own_law_v69_3_S0 q0 q1 q2 q3 q4) ((own_law_v81_4_S0 q0 q1 q2 q3 q4).toInt32) ((uL (own_law_v81_4_S0 q0 q1 q2 q3 q4) (32 : Int32)).toInt32) (own_law_v94_5_S0 q0 q1 q2 q3 q4)) = ((uL (own_law_x3 q0 q1 q2 q3 q4) (32 : Int32)).toInt32)
                    · refine o_cmpN X45 hx (hb hby at_249) (teq hc249_50).2 (pc' := 252) rfl ?_
                      refine o_aload X45 hx (hb hby at_252) (pc' := 254) rfl rfl rfl ?_
                      refine o_iconst X45 hx (2 : Int32) (hb hby at_254) (pc' := 255) rfl (by decide) ?_
                      refine o_iaload X45 hx hZ (.int (own_f1a_A_cc_2 ((own_law_v56_2_S0 q0 q1 q2 q3 q4).toInt32) ((uL (own_law_v56_2_S0 q0 q1 q2 q3 q4) (32 : Int32)).toInt32) (own_law_v69_3_S0 q0 q1 q2 q3 q4) ((own_law_v81_4_S0 q0 q1 q2 q3 q4).toInt32) ((uL (own_law_v81_4_S0 q0 q1 q2 q3 q4) (32 : Int32)).toInt32) (own_law_v94_5_S0 q0 q1 q2 q3 q4))) e45 P43_0 (by decide) (by rfl) (hb hby at_255) (pc' := 256) rfl ?_
                      refine o_iload X45 hx (hb hby at_256) (pc' := 258) rfl rfl ?_
                      by_cases hc258_51 : (own_f1a_A_cc_2 ((own_law_v56_2_S0 q0 q1 q2 q3 q4).toInt32) ((uL (own_law_v56_2_S0 q0 q1 q2 q3 q4) (32 : Int32)).toInt32) (own_law_v69_3_S0 q0 q1 q2 q3 q4) ((own_law_v81_4_S0 q0 q1 q2 q3 q4).toInt32) ((uL (own_law_v81_4_S0 q0 q1 q2 q3 q4) (32 : Int32)).toInt32) (own_law_v94_5_S0 q0 q1 q2 q3 q4)) = (own_law_x4 q0 q1 q2 q3 q4)
                      · refine o_cmpN X45 hx (hb hby at_258) (teq hc258_51).2 (pc' := 261) rfl ?_
                        refine o_iconst X45 hx (1 : Int32) (hb hby at_261) (pc' := 262) rfl (by decide) ?_
                        refine o_goto X45 hx (hb hby at_262) (by decide) (pc' := 266) (by decide) ?_
                        exact J266_15 ((1 : Int32)) (by rw [own_law_v266_15_S0, if_pos hc236_47, if_pos hc249_50, if_pos hc258_51])
                      · refine o_cmpY X45 hx (hb hby at_258) (feq hc258_51).2 (by decide) (pc' := 265) (by decide) ?_
                        refine o_iconst X45 hx (0 : Int32) (hb hby at_265) (pc' := 266) rfl (by decide) ?_
                        exact J266_15 ((0 : Int32)) (by rw [own_law_v266_15_S0, if_pos hc236_47, if_pos hc249_50, if_neg hc258_51])
                    · refine o_cmpY X45 hx (hb hby at_249) (feq hc249_50).2 (by decide) (pc' := 265) (by decide) ?_
                      refine o_iconst X45 hx (0 : Int32) (hb hby at_265) (pc' := 266) rfl (by decide) ?_
                      exact J266_15 ((0 : Int32)) (by rw [own_law_v266_15_S0, if_pos hc236_47, if_neg hc249_50])
                  · refine o_cmpY X45 hx (hb hby at_236) (feq hc236_47).2 (by decide) (pc' := 265) (by decide) ?_
                    refine o_iconst X45 hx (0 : Int32) (hb hby at_265) (pc' := 266) rfl (by decide) ?_
                    exact J266_15 ((0 : Int32)) (by rw [own_law_v266_15_S0, if_neg hc236_47])
                by_cases hc209_46 : (own_f2_ret (own_law_v56_2_S0 q0 q1 q2 q3 q4) (own_law_v81_4_S0 q0 q1 q2 q3 q4)) = (0 : Int32)
                · refine o_ifY X45 hx (hb hby at_209) (teq hc209_46).1 (by decide) (pc' := 216) (by decide) ?_
                  refine o_iconst X45 hx (0 : Int32) (hb hby at_216) (pc' := 217) rfl (by decide) ?_
                  exact J217_14 ((0 : Int32)) (by rw [own_law_v217_6_S0, if_pos hc209_46])
                · refine o_ifN X45 hx (hb hby at_209) (feq hc209_46).1 (pc' := 212) rfl ?_
                  refine o_iconst X45 hx (1 : Int32) (hb hby at_212) (pc' := 213) rfl (by decide) ?_
                  refine o_goto X45 hx (hb hby at_213) (by decide) (pc' := 217) (by decide) ?_
                  exact J217_14 ((1 : Int32)) (by rw [own_law_v217_6_S0, if_neg hc209_46])
          by_cases hc85_5 : (own_law_v44_1_S0 q0 q1 q2 q3 q4) = (0 : Int32)
          · refine o_ifY Xj44_1 hx (hb hby at_85) (teq hc85_5).1 (by decide) (pc' := 92) (by decide) ?_
            refine o_iload Xj44_1 hx (hb hby at_92) (pc' := 94) rfl rfl ?_
            exact J94_5 (q3) (by rw [own_law_v94_5_S0, if_pos hc85_5])
          · refine o_ifN Xj44_1 hx (hb hby at_85) (feq hc85_5).1 (pc' := 88) rfl ?_
            refine o_iloadN Xj44_1 hx (hb hby at_88) (pc' := 89) rfl rfl ?_
            refine o_goto Xj44_1 hx (hb hby at_89) (by decide) (pc' := 94) (by decide) ?_
            exact J94_5 (q1) (by rw [own_law_v94_5_S0, if_neg hc85_5])
        by_cases hc73_4 : (own_law_v44_1_S0 q0 q1 q2 q3 q4) = (0 : Int32)
        · refine o_ifY Xj44_1 hx (hb hby at_73) (teq hc73_4).1 (by decide) (pc' := 80) (by decide) ?_
          refine o_lloadN Xj44_1 hx (hb hby at_80) (pc' := 81) rfl rfl ?_
          exact J81_4 (q2) (by rw [own_law_v81_4_S0, if_pos hc73_4])
        · refine o_ifN Xj44_1 hx (hb hby at_73) (feq hc73_4).1 (pc' := 76) rfl ?_
          refine o_lloadN Xj44_1 hx (hb hby at_76) (pc' := 77) rfl rfl ?_
          refine o_goto Xj44_1 hx (hb hby at_77) (by decide) (pc' := 81) (by decide) ?_
          exact J81_4 (q0) (by rw [own_law_v81_4_S0, if_neg hc73_4])
      by_cases hc60_3 : (own_law_v44_1_S0 q0 q1 q2 q3 q4) = (0 : Int32)
      · refine o_ifY Xj44_1 hx (hb hby at_60) (teq hc60_3).1 (by decide) (pc' := 68) (by decide) ?_
        refine o_iloadN Xj44_1 hx (hb hby at_68) (pc' := 69) rfl rfl ?_
        exact J69_3 (q1) (by rw [own_law_v69_3_S0, if_pos hc60_3])
      · refine o_ifN Xj44_1 hx (hb hby at_60) (feq hc60_3).1 (pc' := 63) rfl ?_
        refine o_iload Xj44_1 hx (hb hby at_63) (pc' := 65) rfl rfl ?_
        refine o_goto Xj44_1 hx (hb hby at_65) (by decide) (pc' := 69) (by decide) ?_
        exact J69_3 (q3) (by rw [own_law_v69_3_S0, if_neg hc60_3])
    by_cases hc48_2 : (own_law_v44_1_S0 q0 q1 q2 q3 q4) = (0 : Int32)
    · refine o_ifY Xj44_1 hx (hb hby at_48) (teq hc48_2).1 (by decide) (pc' := 55) (by decide) ?_
      refine o_lloadN Xj44_1 hx (hb hby at_55) (pc' := 56) rfl rfl ?_
      exact J56_2 (q0) (by rw [own_law_v56_2_S0, if_pos hc48_2])
    · refine o_ifN Xj44_1 hx (hb hby at_48) (feq hc48_2).1 (pc' := 51) rfl ?_
      refine o_lloadN Xj44_1 hx (hb hby at_51) (pc' := 52) rfl rfl ?_
      refine o_goto Xj44_1 hx (hb hby at_52) (by decide) (pc' := 56) (by decide) ?_
      exact J56_2 (q2) (by rw [own_law_v56_2_S0, if_neg hc48_2])
  by_cases hc22_1 : (own_law_x0 q0 q1 q2 q3 q4) < (own_law_x1 q0 q1 q2 q3 q4)
  · refine o_ifY X0 hx (hb hby at_22) (tltL hc22_1).1 (by decide) (pc' := 39) (by decide) ?_
    refine o_iconst X0 hx (1 : Int32) (hb hby at_39) (pc' := 40) rfl (by decide) ?_
    refine o_goto X0 hx (hb hby at_40) (by decide) (pc' := 44) (by decide) ?_
    exact J44_1 _ _ X0 e0 N0 ((1 : Int32)) (by rw [own_law_v44_1_S0, if_pos hc22_1])
  · refine o_ifN X0 hx (hb hby at_22) (fltL hc22_1).1 (pc' := 25) rfl ?_
    refine o_iloadN X0 hx (hb hby at_25) (pc' := 26) rfl rfl ?_
    refine o_iload X0 hx (hb hby at_26) (pc' := 28) rfl rfl ?_
    by_cases hc28_52 : q1 = q3
    · refine o_cmpN X0 hx (hb hby at_28) (teq hc28_52).2 (pc' := 31) rfl ?_
      refine o_lloadN X0 hx (hb hby at_31) (pc' := 32) rfl rfl ?_
      refine o_lloadN X0 hx (hb hby at_32) (pc' := 33) rfl rfl ?_
      refine o_callS X0 hx hZ 0 (argsL := [.long q0, .long q2]) (rest := []) hown (w 8 _ rfl) (w 9 _ rfl) (w 10 _ rfl) (w 11 _ rfl) (by decide) (rm2 l Z a0 hw [] q0 q2 h0 n0 Z0 ) (by decide) (by decide) (cells' := 0) rfl (slots' := 0) rfl (by decide) (by decide) e0 (by rw [hml]; rfl) (lenOf pd_0 rfl) rfl rfl (hb hby at_33) (pc' := 36) rfl ?_
      intro T53 v53 L53 X53 hQ53
      obtain ⟨rfl, Nq53, e53⟩ := hQ53
      have N53 := Fr.app N0 Nq53
      show Go p e below _ (T53.setTop (mkF m 36 _ [.int (own_f2_ret q0 q2)]))
      by_cases hc36_54 : (own_f2_ret q0 q2) = (0 : Int32)
      · refine o_ifY X53 hx (hb hby at_36) (teq hc36_54).1 (by decide) (pc' := 43) (by decide) ?_
        refine o_iconst X53 hx (0 : Int32) (hb hby at_43) (pc' := 44) rfl (by decide) ?_
        exact J44_1 _ _ X53 e53 N53 ((0 : Int32)) (by rw [own_law_v44_1_S0, if_neg hc22_1, if_pos hc28_52, if_pos hc36_54])
      · refine o_ifN X53 hx (hb hby at_36) (feq hc36_54).1 (pc' := 39) rfl ?_
        refine o_iconst X53 hx (1 : Int32) (hb hby at_39) (pc' := 40) rfl (by decide) ?_
        refine o_goto X53 hx (hb hby at_40) (by decide) (pc' := 44) (by decide) ?_
        exact J44_1 _ _ X53 e53 N53 ((1 : Int32)) (by rw [own_law_v44_1_S0, if_neg hc22_1, if_pos hc28_52, if_neg hc36_54])
    · refine o_cmpY X0 hx (hb hby at_28) (feq hc28_52).2 (by decide) (pc' := 43) (by decide) ?_
      refine o_iconst X0 hx (0 : Int32) (hb hby at_43) (pc' := 44) rfl (by decide) ?_
      exact J44_1 _ _ X0 e0 N0 ((0 : Int32)) (by rw [own_law_v44_1_S0, if_neg hc22_1, if_neg hc28_52])
theorem own_uLn (x : Int64) (y : Int32) : (uL x y).toBitVec.toNat = x.toBitVec.toNat >>> ((y &&& 0x3f).toInt64.toUInt64.toNat % 64) := UInt64.toNat_shiftRight _ _
theorem own_i64 (x : Int64) : x.toInt = if 2 * x.toBitVec.toNat < 2 ^ 64 then (x.toBitVec.toNat : Int) else (x.toBitVec.toNat : Int) - 2 ^ 64 := BitVec.toInt_eq_toNat_cond _
theorem own_uL_nn (x : Int64) (y : Int32) (h : 0 ≤ x.toInt) : 0 ≤ (uL x y).toInt ∧ (uL x y).toInt ≤ x.toInt := by
  have h1 := own_i64 x
  have h2 := own_i64 (uL x y)
  rw [own_uLn] at h2
  have h3 : x.toBitVec.toNat >>> ((y &&& 0x3f).toInt64.toUInt64.toNat % 64) ≤ x.toBitVec.toNat := Nat.shiftRight_le _ _
  have h4 := x.toBitVec.isLt
  generalize x.toBitVec.toNat >>> ((y &&& 0x3f).toInt64.toUInt64.toNat % 64) = M at *
  generalize x.toBitVec.toNat = N at *
  split at h1 <;> split at h2 <;> omega
theorem own_mx (x : Int64) : 0 ≤ (x &&& (9223372036854775807 : Int64)).toInt := by
  rw [c_maskL x 9223372036854775807 63 (by decide) (by decide)]
  omega
theorem own_uL_mx (x : Int64) (y : Int32) : 0 ≤ (uL (x &&& (9223372036854775807 : Int64)) y).toInt := (own_uL_nn _ _ (own_mx x)).1
theorem own_xorN (n : Nat) (h : n < 18446744073709551616) : n ^^^ 9223372036854775808 = (n + 9223372036854775808) % 18446744073709551616 := by
  have h1 : (n ^^^ 2 ^ 63) % 2 ^ 63 = n % 2 ^ 63 ^^^ 2 ^ 63 % 2 ^ 63 := Nat.xor_mod_two_pow
  have h2 : (n ^^^ 2 ^ 63) / 2 ^ 63 = n / 2 ^ 63 ^^^ 2 ^ 63 / 2 ^ 63 := Nat.xor_div_two_pow
  rw [Nat.mod_self, Nat.xor_zero] at h1
  rw [Nat.div_self (by decide)] at h2
  have h3 : n / 2 ^ 63 = 0 ∨ n / 2 ^ 63 = 1 := by omega
  rw [show (9223372036854775808 : Nat) = 2 ^ 63 from rfl, show (18446744073709551616 : Nat) = 2 ^ 64 from rfl]
  rcases h3 with h3 | h3 <;> rw [h3] at h2
  · rw [show 0 ^^^ 1 = 1 from rfl] at h2
    omega
  · rw [show 1 ^^^ 1 = 0 from rfl] at h2
    omega
theorem own_flip (x : Int64) : (x ^^^ (-9223372036854775808 : Int64)).toInt % 18446744073709551616 = (x.toInt + 9223372036854775808) % 18446744073709551616 := by
  have h1 := own_i64 (x ^^^ (-9223372036854775808 : Int64))
  have h2 := own_i64 x
  have h3 : (x ^^^ (-9223372036854775808 : Int64)).toBitVec.toNat = x.toBitVec.toNat ^^^ 9223372036854775808 := by
    rw [Int64.toBitVec_xor, BitVec.toNat_xor]
    rfl
  have h4 := x.toBitVec.isLt
  rw [own_xorN _ h4] at h3
  generalize (x ^^^ (-9223372036854775808 : Int64)).toBitVec.toNat = M at *
  generalize x.toBitVec.toNat = N at *
  split at h1 <;> split at h2 <;> omega
/-- the order of the flipped is the unsigned order -/
theorem own_ult (x y : Int64) : (x ^^^ (-9223372036854775808 : Int64)) < (y ^^^ (-9223372036854775808 : Int64)) ↔ x.toInt % 18446744073709551616 < y.toInt % 18446744073709551616 := by
  have h1 := own_flip x
  have h2 := own_flip y
  have h3 := rng64 (x ^^^ (-9223372036854775808 : Int64))
  have h4 := rng64 (y ^^^ (-9223372036854775808 : Int64))
  have h5 := rng64 x
  have h6 := rng64 y
  rw [Int64.lt_iff_toInt_lt]
  omega
theorem own_uL32 (x : Int64) : (uL x (32 : Int32)).toInt = (x.toInt % 18446744073709551616) / 4294967296 := by
  have h1 := own_i64 (uL x (32 : Int32))
  have h2 := own_i64 x
  have h3 := own_uLn x (32 : Int32)
  rw [show (((32 : Int32) &&& 0x3f).toInt64.toUInt64.toNat % 64) = 32 from by decide, Nat.shiftRight_eq_div_pow] at h3
  have h4 := x.toBitVec.isLt
  rw [h3] at h1
  generalize x.toBitVec.toNat = N at *
  split at h1 <;> split at h2 <;> omega
theorem own_m32 (x : Int32) : (x.toInt64 &&& (4294967295 : Int64)).toInt = x.toInt % 4294967296 := by
  rw [c_maskL x.toInt64 4294967295 32 (by decide) (by decide), c_i2l]
  rfl
theorem own_eq32 (x : Int64) (y : Int32) (h : (x.toInt - y.toInt) % 4294967296 = 0) : x.toInt32 = y := by
  apply Int32.toInt_inj.mp
  have a := c_l2i x
  have b := rng32 x.toInt32
  have c := rng32 y
  omega
theorem own_y0 (A B low li : Int) (h1 : (low - (A - B)) % 18446744073709551616 = 0) (h2 : (li - low) % 4294967296 = 0) : (A % 4294967296 - B % 4294967296 - li) % 4294967296 = 0 := by omega
theorem own_submod (A B low : Int) (h : (low - (A - B)) % 18446744073709551616 = 0) : low % 18446744073709551616 = (A % 18446744073709551616 - B % 18446744073709551616) % 18446744073709551616 := by omega
theorem own_y1 (a0 a1 b0 b1 : Int) (h1 : 0 ≤ a0) (h2 : a0 < 4294967296) (h3 : 0 ≤ a1) (h4 : a1 < 4294967296) (g1 : 0 ≤ b0) (g2 : b0 < 4294967296) (g3 : 0 ≤ b1) (g4 : b1 < 4294967296) :
    ∃ k0 k1 : Int, 0 ≤ k0 ∧ k0 ≤ 1 ∧ 0 ≤ k1 ∧ k1 ≤ 1 ∧ (a0 - b0 < 0 ↔ k0 = 1) ∧ (a1 - b1 - k0 < 0 ↔ k1 = 1) ∧ (4294967296 * a1 + a0 < 4294967296 * b1 + b0 ↔ k1 = 1) ∧ (4294967296 * a1 + a0 - (4294967296 * b1 + b0)) % 18446744073709551616 / 4294967296 = a1 - b1 - k0 + 4294967296 * k1 := by
  obtain ⟨k0, e0, e1, e2⟩ : ∃ k0 : Int, 0 ≤ k0 ∧ k0 ≤ 1 ∧ (a0 - b0 < 0 ↔ k0 = 1) := by
    by_cases h : a0 - b0 < 0
    · exact ⟨1, by decide, by decide, fun _ => rfl, fun _ => h⟩
    · exact ⟨0, by decide, by decide, fun q => absurd q h, fun q => absurd q (by decide)⟩
  obtain ⟨k1, f0, f1, f2⟩ : ∃ k1 : Int, 0 ≤ k1 ∧ k1 ≤ 1 ∧ (a1 - b1 - k0 < 0 ↔ k1 = 1) := by
    by_cases h : a1 - b1 - k0 < 0
    · exact ⟨1, by decide, by decide, fun _ => rfl, fun _ => h⟩
    · exact ⟨0, by decide, by decide, fun q => absurd q h, fun q => absurd q (by decide)⟩
  refine ⟨k0, k1, e0, e1, f0, f1, e2, f2, ?_, ?_⟩
  · rcases (show k0 = 0 ∨ k0 = 1 by omega) with rfl | rfl <;> rcases (show k1 = 0 ∨ k1 = 1 by omega) with rfl | rfl <;> omega
  · rcases (show k0 = 0 ∨ k0 = 1 by omega) with rfl | rfl <;> rcases (show k1 = 0 ∨ k1 = 1 by omega) with rfl | rfl <;> omega
theorem own_sp (A : Int) : ∃ k a1 a0 : Int, A = 18446744073709551616 * k + 4294967296 * a1 + a0 ∧ 0 ≤ a0 ∧ a0 < 4294967296 ∧ 0 ≤ a1 ∧ a1 < 4294967296 ∧ A % 4294967296 = a0 ∧ A % 18446744073709551616 = 4294967296 * a1 + a0 ∧ A % 18446744073709551616 / 4294967296 = a1 := by
  refine ⟨A / 18446744073709551616, A % 18446744073709551616 / 4294967296, A % 4294967296, ?_⟩
  omega
theorem own_lo (q : Int64) : q.toInt32.toInt % 4294967296 = q.toInt % 4294967296 := by
  have h := c_l2i q
  omega
theorem own_hi (q : Int64) : (uL q 32).toInt32.toInt % 4294967296 = q.toInt % 18446744073709551616 / 4294967296 := by
  rw [own_lo, own_uL32]
  omega
theorem own_nb (x : Int64) (k : Int) (h : x.toInt < 0 ↔ k = 1) (k0 : 0 ≤ k) (k1 : k ≤ 1) : (if x < (0 : Int64) then (1 : Int64) else (0 : Int64)).toInt = k := by
  by_cases q : x < (0 : Int64)
  · rw [if_pos q]
    rw [Int64.lt_iff_toInt_lt, show (0 : Int64).toInt = 0 from rfl] at q
    rw [h.mp q]
    rfl
  · rw [if_neg q]
    rw [Int64.lt_iff_toInt_lt, show (0 : Int64).toInt = 0 from rfl] at q
    have : ¬ k = 1 := fun z => q (h.mpr z)
    rw [show (0 : Int64).toInt = 0 from rfl]
    omega
theorem own_d (x y : Int32) (w : Int64) (k : Int) (hk : w.toInt = k) (k0 : 0 ≤ k) (k1 : k ≤ 1) : (((x.toInt64 &&& (4294967295 : Int64)) - (y.toInt64 &&& (4294967295 : Int64))) - w).toInt = x.toInt % 4294967296 - y.toInt % 4294967296 - k := by
  have p1 := c_lsub (x.toInt64 &&& 4294967295) (y.toInt64 &&& 4294967295)
  have p2 := rng64 ((x.toInt64 &&& 4294967295) - (y.toInt64 &&& 4294967295))
  have p3 := c_lsub ((x.toInt64 &&& 4294967295) - (y.toInt64 &&& 4294967295)) w
  have p4 := rng64 (((x.toInt64 &&& 4294967295) - (y.toInt64 &&& 4294967295)) - w)
  rw [own_m32, own_m32] at p1
  rw [hk] at p3
  have h1 := Int.emod_nonneg x.toInt (show (4294967296 : Int) ≠ 0 by decide)
  have h2 := Int.emod_lt_of_pos x.toInt (show (0 : Int) < 4294967296 by decide)
  have h3 := Int.emod_nonneg y.toInt (show (4294967296 : Int) ≠ 0 by decide)
  have h4 := Int.emod_lt_of_pos y.toInt (show (0 : Int) < 4294967296 by decide)
  generalize (((x.toInt64 &&& (4294967295 : Int64)) - (y.toInt64 &&& (4294967295 : Int64))) - w).toInt = s at *
  generalize ((x.toInt64 &&& (4294967295 : Int64)) - (y.toInt64 &&& (4294967295 : Int64))).toInt = t at *
  generalize x.toInt % 4294967296 = a at *
  generalize y.toInt % 4294967296 = b at *
  have et : t = a - b := by clear p3 p4; omega
  subst et
  omega
theorem own_sub (a b : Int64) (t u : Int32) : own_f1a_A_cc_0 a.toInt32 (uL a 32).toInt32 t b.toInt32 (uL b 32).toInt32 u = (a - b).toInt32 ∧ own_f1a_A_cc_1 a.toInt32 (uL a 32).toInt32 t b.toInt32 (uL b 32).toInt32 u = (uL (a - b) 32).toInt32 ∧ own_f1a_A_cc_2 a.toInt32 (uL a 32).toInt32 t b.toInt32 (uL b 32).toInt32 u = t - u - (if own_f2_ret a b = (0 : Int32) then (0 : Int32) else (1 : Int32)) := by
  have low := c_lsub a b
  have lm := own_submod _ _ _ low
  obtain ⟨ka, a1, a0, ea, ha1, ha2, ha3, ha4, ha5, ha6, ha7⟩ := own_sp a.toInt
  obtain ⟨kb, b1, b0, eb, hb1, hb2, hb3, hb4, hb5, hb6, hb7⟩ := own_sp b.toInt
  obtain ⟨k0, k1, e1, e2, e3, e4, e5, e6, e7, e8⟩ := own_y1 a0 a1 b0 b1 ha1 ha2 ha3 ha4 hb1 hb2 hb3 hb4
  rw [ha6, hb6] at lm
  have s0 : (own_f1a_x0 a.toInt32 (uL a 32).toInt32 t b.toInt32 (uL b 32).toInt32 u).toInt = a0 - b0 := by
    have h := own_d a.toInt32 b.toInt32 0 0 rfl (by decide) (by decide)
    rw [own_lo, own_lo, ha5, hb5, Int.sub_zero] at h
    exact h
  have w0 : (own_f1a_v54_1_S0 a.toInt32 (uL a 32).toInt32 t b.toInt32 (uL b 32).toInt32 u).toInt = k0 := own_nb _ k0 (by rw [s0]; exact e5) e1 e2
  have s1 : (own_f1a_x1 a.toInt32 (uL a 32).toInt32 t b.toInt32 (uL b 32).toInt32 u).toInt = a1 - b1 - k0 := by
    have h := own_d (uL a 32).toInt32 (uL b 32).toInt32 _ k0 w0 e1 e2
    rw [own_hi, own_hi, ha7, hb7] at h
    exact h
  have w1 : (own_f1a_v54_2_S0 a.toInt32 (uL a 32).toInt32 t b.toInt32 (uL b 32).toInt32 u).toInt = k1 := own_nb _ k1 (by rw [s1]; exact e6) e3 e4
  have s2 : (own_f1a_x2 a.toInt32 (uL a 32).toInt32 t b.toInt32 (uL b 32).toInt32 u).toInt = t.toInt % 4294967296 - u.toInt % 4294967296 - k1 := own_d t u _ k1 w1 e3 e4
  have bor : (if own_f2_ret a b = (0 : Int32) then (0 : Int32) else (1 : Int32)).toInt = k1 := by
    have u3 := own_ult a b
    rw [ha6, hb6, e7] at u3
    unfold own_f2_ret
    by_cases h : k1 = 1
    · rw [if_pos (u3.mpr h), h]
      rfl
    · rw [if_neg (mt u3.mp h)]
      rw [show (if (0 : Int32) = 0 then (0 : Int32) else 1).toInt = 0 from rfl]
      clear e5 e6 e7 e8 u3 lm low
      omega
  refine ⟨?_, ?_, ?_⟩
  · show (own_f1a_x0 a.toInt32 (uL a 32).toInt32 t b.toInt32 (uL b 32).toInt32 u).toInt32 = _
    apply own_eq32
    rw [s0, ← ha5, ← hb5]
    exact own_y0 _ _ _ _ low (c_l2i _)
  · show (own_f1a_x1 a.toInt32 (uL a 32).toInt32 t b.toInt32 (uL b 32).toInt32 u).toInt32 = _
    apply own_eq32
    have l := c_l2i (uL (a - b) 32)
    rw [own_uL32, lm, e8] at l
    rw [s1]
    generalize (uL (a - b) 32).toInt32.toInt = z at *
    clear low lm ea eb ha5 ha6 ha7 hb5 hb6 hb7 e5 e6 e7 e8 s0 s1 s2 w0 w1 bor
    omega
  · show (own_f1a_x2 a.toInt32 (uL a 32).toInt32 t b.toInt32 (uL b 32).toInt32 u).toInt32 = _
    apply own_eq32
    rw [s2]
    generalize (if own_f2_ret a b = (0 : Int32) then (0 : Int32) else (1 : Int32)) = w at *
    have c1 := c_isub t u
    have c2 := c_isub (t - u) w
    rw [bor] at c2
    generalize (t - u - w).toInt = z at *
    generalize (t - u).toInt = y at *
    clear low lm ea eb ha5 ha6 ha7 hb5 hb6 hb7 e5 e6 e7 e8 s0 s1 s2 w0 w1 bor
    omega
theorem own_main (q0 : Int64) (q1 : Int32) (q2 : Int64) (q3 q4 : Int32) : own_law_ret q0 q1 q2 q3 q4 = 1 := by
  have h := own_sub (own_law_v56_2_S0 q0 q1 q2 q3 q4) (own_law_v81_4_S0 q0 q1 q2 q3 q4) (own_law_v69_3_S0 q0 q1 q2 q3 q4) (own_law_v94_5_S0 q0 q1 q2 q3 q4)
  have va : own_law_v266_15_S0 q0 q1 q2 q3 q4 = 1 := by
    unfold own_law_v266_15_S0 own_law_x3 own_law_x4 own_law_v217_6_S0
    rw [if_pos h.1, if_pos h.2.1, if_pos h.2.2]
  have vb : own_law_v266_7_S0 q0 q1 q2 q3 q4 = 1 := va
  have vc : own_law_v266_12_S0 q0 q1 q2 q3 q4 = 1 := va
  unfold own_law_ret own_law_ret_j44_1 own_law_ret_j56_2 own_law_ret_j69_3 own_law_ret_j81_4 own_law_ret_j94_5
  have ra : own_law_ret_j217_14 q0 q1 q2 q3 q4 = 1 := by
    show own_law_v366_17_S0 q0 q1 q2 q3 q4 = 1
    unfold own_law_v366_17_S0 own_law_v316_16_S0
    rw [va]
    decide
  have rc : own_law_ret_j217_11 q0 q1 q2 q3 q4 = 1 := by
    show own_law_v316_13_S0 q0 q1 q2 q3 q4 = 1
    unfold own_law_v316_13_S0
    rw [vc]
    decide
  have rb : own_law_ret_j217_6 q0 q1 q2 q3 q4 = 1 := by
    show own_law_v368_9_L27 q0 q1 q2 q3 q4 = 1
    unfold own_law_v368_9_L27 own_law_v366_8_S0
    rw [vb]
    simp +decide
  rw [ra, rb, rc]
  simp only [ite_self]
set_option maxRecDepth 65536 in
set_option maxHeartbeats 40000000 in
theorem comes_1 {Post : Tables → Env → Array Value → State → Outcome → State → Prop} (hpost : ∀ tb e args s v u, (limb_1_1.after args s (.returned v) u = true ∧ limb_1_2.after args s (.returned v) u = true ∧ True) → FrameEnd s (.returned v) u (Jvm.fieldLocs frame_1_writes args s ++ Jvm.arrayLocs frame_1_arrays args s ++ Jvm.staticLocs frame_1_statics s) 16 128 → Post tb e args s (.returned v) u) :
    ArmFor flags0 classFile x code maxLocals ret World_1 tables_1 room_1 Calls_1 rest_1 Pre_1 Post := by
  intro l hfl _ _ p e ha hc hk s m args below hf hA hF happ hP
  obtain ⟨hcalls, hrest, hpre⟩ := hP
  obtain ⟨-, -, -, hnamed, -, -, -, hat⟩ := (Spec.applies_iff hf).mp happ
  obtain ⟨hg, hn⟩ := and_e (Cond.before_iff.mp (show (Jvm.Cond.and given_1 narrow_1).before args s = true from hpre))
  obtain ⟨hcnt, r0⟩ := and_e hg
  obtain ⟨a0, r1⟩ := and_e r0
  obtain ⟨a1, r2⟩ := and_e r1
  obtain ⟨a2, r3⟩ := and_e r2
  obtain ⟨a3, r4⟩ := and_e r3
  obtain ⟨w0, w1, w2, w3, w4, rfl⟩ : ∃ w0 w1 w2 w3 w4 : Value, args = #[w0, w1, w2, w3, w4] := by
    have hs : args.size = 5 := by simpa [Cond.value, given_1] using hcnt
    obtain ⟨L⟩ := args
    match L, hs with
    | [w0, w1, w2, w3, w4], _ => exact ⟨w0, w1, w2, w3, w4, rfl⟩
  have hw := fun d (hd : d ∈ tables_1) => atoms_spec (ws := Jvm.Cond.code x code maxLocals ret :: tables_1) hat d (List.mem_cons_of_mem _ hd)
  obtain ⟨q0, y0⟩ := isL_v a0
  obtain rfl : w0 = (.long q0) := Option.some.inj y0
  obtain ⟨q1, y1⟩ := is_v a1
  obtain rfl : w1 = (.int q1) := Option.some.inj y1
  obtain ⟨q2, y2⟩ := isL_v a2
  obtain rfl : w2 = (.long q2) := Option.some.inj y2
  obtain ⟨q3, y3⟩ := is_v a3
  obtain rfl : w3 = (.int q3) := Option.some.inj y3
  obtain ⟨q4, y4⟩ := is_v r4
  obtain rfl : w4 = (.int q4) := Option.some.inj y4
  obtain ⟨n, o, h1, h2, h3, _, L, rfl, ⟨rfl, N⟩, hq⟩ := rm0 l s _ hw tables_1 q0 q1 q2 q3 q4 s.heap s.heap.size (Nat.le_refl _) p e ha hc hk s m _ below hf ((Spec.applies_iff_loose hf).mp happ).1 ⟨rfl, State.Warmed39.refl s, rfl⟩ trivial
  refine ⟨n, _, h1, h2, h3, hpost _ _ _ _ _ _ ⟨Cond.after_iff.mpr rfl, Cond.after_iff.mpr (eq_i res_at (Term.int_eval (1)) (congrArg Value.int (own_main q0 q1 q2 q3 q4))), trivial⟩ ⟨hq.1, hq.2.1, (hq.2.2.sift fun y hy => Or.inr (N y hy)).mono (by decide) (by decide)⟩⟩
theorem main_1_1 : Claimed_1_1 := comes_1 fun _ _ _ _ _ _ h hF => ⟨h.1, hF⟩
theorem main_1_2 : Claimed_1_2 := comes_1 fun _ _ _ _ _ _ h hF => ⟨h.2.1, hF⟩
end Jvm.Pilot.@@N@@
namespace Jvm.Pilot.@@N@@
open Jvm Jvm.ClassFile Sem Op Lib Jvm.Free Jvm.Stand Jvm.Pilot.@@N@@.Jvm.D
/-! MADE BY PROGRAM (witnessworld.py) out of the Statement's table words and the real class files: 9 classes; the members and pool entries that the words name. The judged class is class 1, her method 2. -/
namespace start1
open Jvm.ClassFile
def u (s : String) : CpInfo := .utf8 (stringToUtf16 s)
/-- a pool by its gaps: so many unusable entries, then the entry; so many at the end -/
def gap : Nat → List CpInfo → List CpInfo
  | 0, r => r
  | n + 1, r => .unusable :: gap n r
def poolList (es : List (Nat × CpInfo)) (last : Nat) : List CpInfo := es.foldr (fun e r => gap e.1 (e.2 :: r)) (gap last [])
def pool (es : List (Nat × CpInfo)) (last : Nat) : Array CpInfo := ⟨poolList es last⟩
def fileOf (pool : Array CpInfo) (this : Nat) (attrs : Array Attribute := #[]) (ms : Array MethodInfo := #[]) (fl : Nat := 33) (sup : Nat := 0) (ifs : Array Nat := #[]) (fds : Array FieldInfo := #[]) : ClassFile where
  minorVersion := 0
  majorVersion := 65
  constantPool := pool
  accessFlags := fl
  thisClass := this
  superClass := sup
  interfaces := ifs
  fields := fds
  methods := ms
  attributes := attrs
def plain (name : String) (sup : Option ClassId) : Class where
  name := name
  kind := .ordinary
  loader := none
  accessFlags := 33
  super := sup
  interfaces := #[]
  cf := none
  fields := #[]
  methods := #[]
  instanceTypes := #[]
  staticTypes := #[]
  resolved := #[]
  callSites := []
  init := .initialized
  statics := none
  mirror := none

def pool0 : Array CpInfo := pool [(5, u "<init>"), (0, u "()V"), (1, .class_ 10), (1, u "java/lang/Object")] 113

def k0m0 : Method := { name := "<init>", desc := "()V", sig := { parameters := [], returnType := none }, accessFlags := 1, code := none }
/-- java/lang/Object -/
def k0 : Class := { plain "java/lang/Object" none with
  accessFlags := 33
  interfaces := #[]
  cf := some (fileOf pool0 8 #[] #[{ accessFlags := 1, nameIndex := 5, descriptorIndex := 6, attributes := #[] }] 33 0 #[] #[])
  fields := #[]
  methods := #[k0m0]
  instanceTypes := #[]
  staticTypes := #[]
  resolved := Array.replicate 124 none
  statics := none }

def pool1 : Array CpInfo := pool [(2, .class_ 4), (1, u "java/lang/Object"), (0, u "<init>"), (0, u "()V"), (0, .long 9223372036854775808), (1, .long 4294967295), (1, .methodref 12 13), (0, .class_ 14), (0, .nameAndType 15 16), (0, u "com/example/tideway/tideway/engine/LimbsSubtractPinLaw"), (0, u "ltU"), (0, u "(JJ)Z"), (0, .integer 2147483647), (0, .methodref 19 20), (0, .class_ 21), (0, .nameAndType 22 23), (0, u "com/example/tideway/tideway/engine/Limbs"), (0, u "subtract"), (0, u "([I[I[I)V"), (3, u "law"), (0, u "(JIJII)Z")] 4

def k1m0 : Method := { name := "<init>", desc := "()V", sig := { parameters := [], returnType := none }, accessFlags := 1, code := none }
def k1c1 : Code := { maxStack := 6, maxLocals := 4, code := method_2_code, exceptionTable := #[], attributes := #[] }
def k1m1 : Method := { name := "ltU", desc := "(JJ)Z", sig := { parameters := [.long, .long], returnType := some .boolean }, accessFlags := 10, code := some k1c1 }
def k1c2 : Code := { maxStack := 6, maxLocals := 28, code := code, exceptionTable := #[], attributes := #[] }
def k1m2 : Method := { name := "law", desc := "(JIJII)Z", sig := { parameters := [.long, .int, .long, .int, .int], returnType := some .boolean }, accessFlags := 9, code := some k1c2 }
/-- com/example/tideway/tideway/engine/LimbsSubtractPinLaw -/
def k1 : Class := { plain "com/example/tideway/tideway/engine/LimbsSubtractPinLaw" (some 0) with
  accessFlags := 49
  interfaces := #[]
  cf := some (fileOf pool1 12 #[] #[{ accessFlags := 1, nameIndex := 5, descriptorIndex := 6, attributes := #[] }, { accessFlags := 10, nameIndex := 15, descriptorIndex := 16, attributes := #[] }, { accessFlags := 9, nameIndex := 27, descriptorIndex := 28, attributes := #[] }] 49 2 #[] #[])
  fields := #[]
  methods := #[k1m0, k1m1, k1m2]
  instanceTypes := #[]
  staticTypes := #[]
  resolved := Array.replicate 33 none
  statics := none }

def pool2 : Array CpInfo := pool [(2, .class_ 4), (1, u "java/lang/Object"), (0, u "<init>"), (0, u "()V"), (36, .class_ 44), (0, u "com/example/tideway/tideway/engine/Limbs"), (0, .long 4294967295), (35, u "MASK"), (0, u "J"), (14, u "subtract"), (0, u "([I[I[I)V")] 28

def k2m0 : Method := { name := "<init>", desc := "()V", sig := { parameters := [], returnType := none }, accessFlags := 2, code := none }
def k2c1 : Code := { maxStack := 6, maxLocals := 8, code := prog_43_method_5_code, exceptionTable := #[], attributes := #[] }
def k2m1 : Method := { name := "subtract", desc := "([I[I[I)V", sig := { parameters := [(.array .int), (.array .int), (.array .int)], returnType := none }, accessFlags := 8, code := some k2c1 }
/-- com/example/tideway/tideway/engine/Limbs -/
def k2 : Class := { plain "com/example/tideway/tideway/engine/Limbs" (some 0) with
  accessFlags := 48
  interfaces := #[]
  cf := some (fileOf pool2 43 #[] #[{ accessFlags := 2, nameIndex := 5, descriptorIndex := 6, attributes := #[] }, { accessFlags := 8, nameIndex := 97, descriptorIndex := 98, attributes := #[] }] 48 2 #[] #[{ accessFlags := 26, nameIndex := 81, descriptorIndex := 82, attributes := #[] }])
  fields := #[{ name := "MASK", type := .long, accessFlags := 26, slot := 0, constantValue := 0 }]
  methods := #[k2m0, k2m1]
  instanceTypes := #[]
  staticTypes := #[.long]
  resolved := Array.replicate 127 none
  statics := none }

def pool3 : Array CpInfo := pool [(1, u "java/lang/Cloneable"), (0, .class_ 1), (0, u "java/lang/Object"), (0, .class_ 3)] 3

/-- java/lang/Cloneable -/
def k3 : Class := { plain "java/lang/Cloneable" (some 0) with
  accessFlags := 1537
  interfaces := #[]
  cf := some (fileOf pool3 2 #[] #[] 1537 4 #[] #[])
  fields := #[]
  methods := #[]
  instanceTypes := #[]
  staticTypes := #[]
  resolved := Array.replicate 8 none
  statics := none }

def pool4 : Array CpInfo := pool [(1, u "java/io/Serializable"), (0, .class_ 1), (0, u "java/lang/Object"), (0, .class_ 3)] 3

/-- java/io/Serializable -/
def k4 : Class := { plain "java/io/Serializable" (some 0) with
  accessFlags := 1537
  interfaces := #[]
  cf := some (fileOf pool4 2 #[] #[] 1537 4 #[] #[])
  fields := #[]
  methods := #[]
  instanceTypes := #[]
  staticTypes := #[]
  resolved := Array.replicate 8 none
  statics := none }

/-- the primitive byte -/
def k5 : Class := { plain "byte" none with kind := .primitive 'B', accessFlags := 0x411 }
/-- [B -/
def k6 : Class := { plain "[B" (some 0) with kind := .array 5 .byte, interfaces := #[3, 4], accessFlags := 1041 }

/-- the primitive int -/
def k7 : Class := { plain "int" none with kind := .primitive 'I', accessFlags := 0x411 }
/-- [I -/
def k8 : Class := { plain "[I" (some 0) with kind := .array 7 .int, interfaces := #[3, 4], accessFlags := 1041 }

def heap : Heap := #[]
def classes : Array Class := #[k0, k1, k2, k3, k4, k5, k6, k7, k8]
def interned : List (Array UInt16 × Addr) := []
def slotsUsed : Nat := 0
def theMethod : MethodId := ⟨1, 2⟩
def args0 : Array Value := #[.long 5, .int 7, .long 9, .int 8, .int 3]
def aboutOver (below : List Frame) : State where
  vm := { classes := classes, interned := interned.toArray }
  heap := heap
  slotsUsed := slotsUsed
  threads := #[{ frames := .invoking theMethod args0 :: below }]
def below0 : List Frame := [.native { method := ⟨0, 0⟩, args := #[] }]
def about1 : State := aboutOver below0
def p0 : Program := .bare "" "" ""
def e0 : Env := launch0.env 0 0 0
theorem w_frames : about1.frames = Frame.invoking theMethod args0 :: below0 := rfl
set_option maxRecDepth 65536 in
theorem w_args : argsFit about1.vm theMethod args0 = true := by decide +kernel
set_option maxRecDepth 65536 in
theorem w_heap : heapFits about1 = true := by decide +kernel
set_option maxRecDepth 65536 in
theorem w_runnable : about1.curStatus? = some .runnable := by decide +kernel
set_option maxRecDepth 65536 in
theorem w_alone : about1.alone = true := by decide +kernel
set_option maxRecDepth 65536 in
theorem w_named : about1.methodNamed? x = some theMethod := by decide +kernel
set_option maxRecDepth 65536 in
theorem w_hears : about1.hears theMethod below0 = true := by decide +kernel
set_option maxRecDepth 65536 in
theorem w_ripe : about1.ripe theMethod args0 below0 = true := by decide +kernel
theorem w_running : about1.status = .running := rfl
set_option maxRecDepth 65536 in
theorem w_room : about1.hasRoom e0.platform room_1 = true :=
  launch0.hasRoom_least _ room_1 (by decide +kernel) (by decide +kernel) (by decide +kernel) (by decide +kernel) (by decide +kernel) (by decide +kernel)
theorem allAtoms_all (ts : List Jvm.Cond) (a : Array Jvm.Value) (st : Jvm.State) : (allAtoms ts).before a st = ts.all (fun c => c.before a st) := by
  induction ts with
  | nil => rfl
  | cons c t ih =>
    show (Jvm.Cond.and c (allAtoms t)).before a st = _
    rw [Jvm.Cond.before_and, ih, List.all_cons]
def words1 : List Jvm.Cond := Jvm.Cond.code x code maxLocals ret :: tables_1
/-- a 'code' word, met by the world's own term for the bytes: nothing is compared byte by byte -/
theorem code_word {y : MethodName} {bytes : ByteArray} {mx : Nat} {rt : Option FieldType} {a : Array Value} {s : State} {m : MethodId} {meth : Method} {c : Code} (h1 : s.methodNamed? y = some m) (h2 : s.vm.method? m = some meth) (h3 : meth.code = some c) (h4 : c.code = bytes)
    (h5 : (c.maxLocals == mx && c.exceptionTable.isEmpty && decide (c.maxStack ≤ mostOperands) && decide (meth.sig.returnType = rt) && !meth.locks && decide (parseMethodDescriptor y.desc = some meth.sig)) = true) : (Jvm.Cond.code y bytes mx rt).before a s = true := by
  simp only [Bool.and_eq_true, beq_iff_eq, Bool.not_eq_true', decide_eq_true_eq] at h5
  obtain ⟨⟨⟨⟨⟨g1, g2⟩, g3⟩, g4⟩, g5⟩, g6⟩ := h5
  simp [Cond.before, Cond.holds, Cond.value, h1, h2, h3, h4, g1, g2, g3, g4, g5, g6]
def isCode : Jvm.Cond → Bool
  | .code _ _ _ _ => true
  | _ => false
theorem all_split {L : List Jvm.Cond} {P : Jvm.Cond → Bool} (h1 : L.all (fun c => isCode c || P c) = true) (h2 : ∀ c ∈ L.filter isCode, P c = true) : L.all P = true := by
  refine List.all_eq_true.mpr fun c hc => ?_
  have h := List.all_eq_true.mp h1 c hc
  rcases Bool.eq_false_or_eq_true (isCode c) with hi | hi
  · exact h2 c (List.mem_filter.mpr ⟨hc, hi⟩)
  · simpa [hi] using h
set_option maxRecDepth 65536 in
theorem w_c0 : (Jvm.Cond.code x code maxLocals ret).before args0 about1 = true := code_word (m := ⟨1, 2⟩) (meth := k1m2) (c := k1c2) (by decide +kernel) rfl rfl rfl (by decide +kernel)
set_option maxRecDepth 65536 in
theorem w_c1 : (Jvm.Cond.code ({ cls := "com/example/tideway/tideway/engine/Limbs", name := "subtract", desc := "([I[I[I)V" } : Jvm.MethodName) prog_43_method_5_code (8 : Nat) (Option.none : Option Jvm.ClassFile.FieldType)).before args0 about1 = true := code_word (m := ⟨2, 1⟩) (meth := k2m1) (c := k2c1) (by decide +kernel) rfl rfl rfl (by decide +kernel)
set_option maxRecDepth 65536 in
theorem w_c2 : (Jvm.Cond.code ({ cls := "com/example/tideway/tideway/engine/LimbsSubtractPinLaw", name := "ltU", desc := "(JJ)Z" } : Jvm.MethodName) method_2_code (4 : Nat) (Option.some Jvm.ClassFile.FieldType.boolean)).before args0 about1 = true := code_word (m := ⟨1, 1⟩) (meth := k1m1) (c := k1c1) (by decide +kernel) rfl rfl rfl (by decide +kernel)
def codes1 : List Jvm.Cond := [Jvm.Cond.code x code maxLocals ret, Jvm.Cond.code ({ cls := "com/example/tideway/tideway/engine/Limbs", name := "subtract", desc := "([I[I[I)V" } : Jvm.MethodName) prog_43_method_5_code (8 : Nat) (Option.none : Option Jvm.ClassFile.FieldType), Jvm.Cond.code ({ cls := "com/example/tideway/tideway/engine/LimbsSubtractPinLaw", name := "ltU", desc := "(JJ)Z" } : Jvm.MethodName) method_2_code (4 : Nat) (Option.some Jvm.ClassFile.FieldType.boolean)]
set_option maxRecDepth 65536 in
theorem codes_eq : words1.filter isCode = codes1 := rfl
theorem w_codes : ∀ c ∈ words1.filter isCode, c.before args0 about1 = true := by
  rw [codes_eq]
  intro c hc
  simp only [codes1, List.mem_cons, List.not_mem_nil, or_false] at hc
  rcases hc with rfl | rfl | rfl
  · exact w_c0
  · exact w_c1
  · exact w_c2
set_option maxRecDepth 65536 in
theorem w_t1 : words1.all (fun c => isCode c || c.before args0 about1) = true := by decide +kernel
theorem w_tables : (allAtoms (Jvm.Cond.code x code maxLocals ret :: tables_1)).before args0 about1 = true := by
  rw [allAtoms_all]
  show words1.all (fun c => c.before args0 about1) = true
  refine all_split ?_ w_codes
  rw [w_t1]
set_option maxRecDepth 65536 in
theorem w_case : (Jvm.Cond.and given_1 narrow_1).before args0 about1 = true := by decide +kernel
theorem w_applies : (headSpec (Jvm.Cond.code x code maxLocals ret :: tables_1) room_1).applies x e0.platform about1 = true :=
  (Spec.applies_iff w_frames).mpr ⟨w_running, w_runnable, w_alone, w_named, w_hears, w_ripe, w_room, w_tables⟩
theorem atStart : AtStart classFile x code maxLocals ret World_1 tables_1 room_1 Calls_1 rest_1 Pre_1 launch0 p0 e0 about1 theMethod args0 below0 :=
  ⟨lists_1, trivial, launch0.admits_env _ _ _, launch0.least_env, fairChoices_fair.cas, fairChoices_fair.clock, w_frames, w_args, w_heap, w_applies, trivial, trivial, w_case⟩
end start1
theorem witness_1 : WitnessClaimed_1 := ⟨start1.p0, start1.e0, start1.about1, start1.theMethod, start1.args0, start1.below0, start1.atStart⟩
end Jvm.Pilot.@@N@@
