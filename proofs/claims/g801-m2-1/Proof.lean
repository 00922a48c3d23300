import JvmDerived
import JvmDerived.Pilot.@@N@@Statement
import JvmDerived.Pilot.@@N@@Code
set_option linter.unusedVariables false
set_option linter.unusedSimpArgs false
namespace Jvm.Pilot.@@N@@
open Jvm Jvm.ClassFile Sem Op Lib Jvm.Free Jvm.Stand Jvm.LawKit Jvm.RoadKit Bundle Jvm.Pilot.@@N@@.Jvm.D
/-- the body's goal from a state on -/
def Go (p : Program) (e : Env) (below : List Frame) (P : Outcome → State → Prop) (U : State) : Prop :=
  ∃ s₂ o, Steps p.tables e below U s₂ ∧ s₂.status = .running ∧ Ended s₂ below o ∧ P o s₂
/-- the unsigned shifts, the remainders -/
def uI (x y : Int32) : Int32 := (x.toUInt32 >>> (y &&& 31).toUInt32).toInt32
def uL (x : Int64) (y : Int32) : Int64 := (x.toUInt64 >>> (y &&& 0x3f).toInt64.toUInt64).toInt64
def sL (x : Int64) (y : Int32) : Int64 := x >>> (y &&& 0x3f).toInt64
def lL (x : Int64) (y : Int32) : Int64 := x <<< (y &&& 0x3f).toInt64
section Own
variable {p : Program} {l : Launch} {e : Env} {R : Room} {s : State} {m : MethodId} {args : Array Value} {below : List Frame} {meth : Method} {c : Code} {T : State} {locs : List Loc} {cells slots : Nat} {P : Outcome → State → Prop} {pc pc' : Nat} {L L' : Array Slot} {S : List Value} {Z : State} {a0 : Array Value} {h : Heap}
theorem Go.via {U U' : State} (q : ∀ t, Steps p.tables e below U' t → Steps p.tables e below U t) (k : Go p e below P U') : Go p e below P U := by
  obtain ⟨s₂, o, h1, h2⟩ := k
  exact ⟨s₂, o, q _ h1, h2⟩
theorem Go.tr {U U' : State} (q : Steps p.tables e below U U') (k : Go p e below P U') : Go p e below P U := k.via fun _ h => q.trans h
theorem o_iload (X : Stand p l e R s m args below meth c T locs cells slots) (hx : p.tables.exec = Jvm.exec) {k : Nat} {v : Int32} (hd : decode c.code pc = .ok (.iload k, 2)) (hp : pc + 2 = pc') (hl : L[k]? = some (.val (.int v))) (K : Go p e below P (T.setTop (mkF m pc' L (.int v :: S)))) : Go p e below P (T.setTop (mkF m pc L (S))) := by
  subst hp; exact K.via fun t k => XS.iload X.here hx rfl hd hl k
theorem o_iloadN (X : Stand p l e R s m args below meth c T locs cells slots) (hx : p.tables.exec = Jvm.exec) {k : Fin 4} {v : Int32} (hd : decode c.code pc = .ok (.iload_n k, 1)) (hp : pc + 1 = pc') (hl : L[k.val]? = some (.val (.int v))) (K : Go p e below P (T.setTop (mkF m pc' L (.int v :: S)))) : Go p e below P (T.setTop (mkF m pc L (S))) := by
  subst hp; exact K.via fun t k => XS.iloadN X.here hx rfl hd hl k
theorem o_lload (X : Stand p l e R s m args below meth c T locs cells slots) (hx : p.tables.exec = Jvm.exec) {k : Nat} {v : Int64} (hd : decode c.code pc = .ok (.lload k, 2)) (hp : pc + 2 = pc') (hl : L[k]? = some (.val (.long v))) (K : Go p e below P (T.setTop (mkF m pc' L (.long v :: S)))) : Go p e below P (T.setTop (mkF m pc L (S))) := by
  subst hp; exact K.via fun t k => XS.lload X.here hx rfl hd hl k
theorem o_lloadN (X : Stand p l e R s m args below meth c T locs cells slots) (hx : p.tables.exec = Jvm.exec) {k : Fin 4} {v : Int64} (hd : decode c.code pc = .ok (.lload_n k, 1)) (hp : pc + 1 = pc') (hl : L[k.val]? = some (.val (.long v))) (K : Go p e below P (T.setTop (mkF m pc' L (.long v :: S)))) : Go p e below P (T.setTop (mkF m pc L (S))) := by
  subst hp; exact K.via fun t k => XS.lloadN X.here hx rfl hd hl k
theorem o_aload (X : Stand p l e R s m args below meth c T locs cells slots) (hx : p.tables.exec = Jvm.exec) {k : Nat} {v : Value} (hd : decode c.code pc = .ok (.aload k, 2)) (hp : pc + 2 = pc') (hl : L[k]? = some (.val v)) (hv : v.isRef = true) (K : Go p e below P (T.setTop (mkF m pc' L (v :: S)))) : Go p e below P (T.setTop (mkF m pc L (S))) := by
  subst hp; exact K.via fun t k => XS.aload X.here hx rfl hd hl hv k
theorem o_aloadN (X : Stand p l e R s m args below meth c T locs cells slots) (hx : p.tables.exec = Jvm.exec) {k : Fin 4} {v : Value} (hd : decode c.code pc = .ok (.aload_n k, 1)) (hp : pc + 1 = pc') (hl : L[k.val]? = some (.val v)) (hv : v.isRef = true) (K : Go p e below P (T.setTop (mkF m pc' L (v :: S)))) : Go p e below P (T.setTop (mkF m pc L (S))) := by
  subst hp; exact K.via fun t k => XS.aloadN X.here hx rfl hd hl hv k
theorem o_istore (X : Stand p l e R s m args below meth c T locs cells slots) (hx : p.tables.exec = Jvm.exec) {k : Nat} {x : Int32} (hd : decode c.code pc = .ok (.istore k, 2)) (hp : pc + 2 = pc') (hl : storeLocals L k (.int x) = some L') (K : Go p e below P (T.setTop (mkF m pc' L' (S)))) : Go p e below P (T.setTop (mkF m pc L (.int x :: S))) := by
  subst hp; exact K.via fun t k => XS.istore X.here hx rfl hd rfl hl k
theorem o_lstore (X : Stand p l e R s m args below meth c T locs cells slots) (hx : p.tables.exec = Jvm.exec) {k : Nat} {x : Int64} (hd : decode c.code pc = .ok (.lstore k, 2)) (hp : pc + 2 = pc') (hl : storeLocals L k (.long x) = some L') (K : Go p e below P (T.setTop (mkF m pc' L' (S)))) : Go p e below P (T.setTop (mkF m pc L (.long x :: S))) := by
  subst hp; exact K.via fun t k => XS.lstore X.here hx rfl hd rfl hl k
theorem o_lstoreN (X : Stand p l e R s m args below meth c T locs cells slots) (hx : p.tables.exec = Jvm.exec) {k : Fin 4} {x : Int64} (hd : decode c.code pc = .ok (.lstore_n k, 1)) (hp : pc + 1 = pc') (hl : storeLocals L k.val (.long x) = some L') (K : Go p e below P (T.setTop (mkF m pc' L' (S)))) : Go p e below P (T.setTop (mkF m pc L (.long x :: S))) := by
  subst hp; exact K.via fun t k => XS.lstoreN X.here hx rfl hd rfl hl k
theorem o_astore (X : Stand p l e R s m args below meth c T locs cells slots) (hx : p.tables.exec = Jvm.exec) {k : Nat} {x : Value} (hd : decode c.code pc = .ok (.astore k, 2)) (hp : pc + 2 = pc') (hv : x.isRef = true) (hl : storeLocals L k x = some L') (K : Go p e below P (T.setTop (mkF m pc' L' (S)))) : Go p e below P (T.setTop (mkF m pc L (x :: S))) := by
  subst hp; exact K.via fun t k => XS.astore X.here hx rfl hd rfl hv hl k
theorem o_iconst (X : Stand p l e R s m args below meth c T locs cells slots) (hx : p.tables.exec = Jvm.exec) {i : Int} (v : Int32) (hd : decode c.code pc = .ok (.iconst i, 1)) (hp : pc + 1 = pc') (hv : Int32.ofInt i = v) (K : Go p e below P (T.setTop (mkF m pc' L (.int v :: S)))) : Go p e below P (T.setTop (mkF m pc L (S))) := by
  subst hp; exact K.via fun t k => XS.iconst X.here hx rfl hd (hv ▸ k)
theorem o_bipush (X : Stand p l e R s m args below meth c T locs cells slots) (hx : p.tables.exec = Jvm.exec) {i : Int} (v : Int32) (hd : decode c.code pc = .ok (.bipush i, 2)) (hp : pc + 2 = pc') (hv : (Int8.ofInt i).toInt32 = v) (K : Go p e below P (T.setTop (mkF m pc' L (.int v :: S)))) : Go p e below P (T.setTop (mkF m pc L (S))) := by
  subst hp; exact K.via fun t k => XS.bipush X.here hx rfl hd (hv ▸ k)
theorem o_lconst (X : Stand p l e R s m args below meth c T locs cells slots) (hx : p.tables.exec = Jvm.exec) {i : Fin 2} (v : Int64) (hd : decode c.code pc = .ok (.lconst i, 1)) (hp : pc + 1 = pc') (hv : Int64.ofNat i = v) (K : Go p e below P (T.setTop (mkF m pc' L (.long v :: S)))) : Go p e below P (T.setTop (mkF m pc L (S))) := by
  subst hp; exact K.via fun t k => XS.lconst X.here hx rfl hd (hv ▸ k)
theorem o_iadd (X : Stand p l e R s m args below meth c T locs cells slots) (hx : p.tables.exec = Jvm.exec) {x y : Int32} (hd : decode c.code pc = .ok (.iadd, 1)) (hp : pc + 1 = pc')  (K : Go p e below P (T.setTop (mkF m pc' L (.int (x + y) :: S)))) : Go p e below P (T.setTop (mkF m pc L (.int y :: .int x :: S))) := by
  subst hp; exact K.via fun t k => XS.iadd X.here hx rfl hd rfl k
theorem o_iand (X : Stand p l e R s m args below meth c T locs cells slots) (hx : p.tables.exec = Jvm.exec) {x y : Int32} (hd : decode c.code pc = .ok (.iand, 1)) (hp : pc + 1 = pc')  (K : Go p e below P (T.setTop (mkF m pc' L (.int (x &&& y) :: S)))) : Go p e below P (T.setTop (mkF m pc L (.int y :: .int x :: S))) := by
  subst hp; exact K.via fun t k => XS.iand X.here hx rfl hd rfl k
theorem o_ladd (X : Stand p l e R s m args below meth c T locs cells slots) (hx : p.tables.exec = Jvm.exec) {x y : Int64} (hd : decode c.code pc = .ok (.ladd, 1)) (hp : pc + 1 = pc')  (K : Go p e below P (T.setTop (mkF m pc' L (.long (x + y) :: S)))) : Go p e below P (T.setTop (mkF m pc L (.long y :: .long x :: S))) := by
  subst hp; exact K.via fun t k => XS.ladd X.here hx rfl hd rfl k
theorem o_land (X : Stand p l e R s m args below meth c T locs cells slots) (hx : p.tables.exec = Jvm.exec) {x y : Int64} (hd : decode c.code pc = .ok (.land, 1)) (hp : pc + 1 = pc')  (K : Go p e below P (T.setTop (mkF m pc' L (.long (x &&& y) :: S)))) : Go p e below P (T.setTop (mkF m pc L (.long y :: .long x :: S))) := by
  subst hp; exact K.via fun t k => XS.land X.here hx rfl hd rfl k
theorem o_lxor (X : Stand p l e R s m args below meth c T locs cells slots) (hx : p.tables.exec = Jvm.exec) {x y : Int64} (hd : decode c.code pc = .ok (.lxor, 1)) (hp : pc + 1 = pc')  (K : Go p e below P (T.setTop (mkF m pc' L (.long (x ^^^ y) :: S)))) : Go p e below P (T.setTop (mkF m pc L (.long y :: .long x :: S))) := by
  subst hp; exact K.via fun t k => XS.lxor X.here hx rfl hd rfl k
theorem o_lushr (X : Stand p l e R s m args below meth c T locs cells slots) (hx : p.tables.exec = Jvm.exec) {x : Int64} {y : Int32} (hd : decode c.code pc = .ok (.lushr, 1)) (hp : pc + 1 = pc')  (K : Go p e below P (T.setTop (mkF m pc' L (.long (uL x y) :: S)))) : Go p e below P (T.setTop (mkF m pc L (.int y :: .long x :: S))) := by
  subst hp; exact K.via fun t k => XS.lushr X.here hx rfl hd rfl k
theorem o_i2l (X : Stand p l e R s m args below meth c T locs cells slots) (hx : p.tables.exec = Jvm.exec) {x : Int32} (hd : decode c.code pc = .ok (.i2l, 1)) (hp : pc + 1 = pc')  (K : Go p e below P (T.setTop (mkF m pc' L (.long x.toInt64 :: S)))) : Go p e below P (T.setTop (mkF m pc L (.int x :: S))) := by
  subst hp; exact K.via fun t k => XS.i2l X.here hx rfl hd rfl k
theorem o_l2i (X : Stand p l e R s m args below meth c T locs cells slots) (hx : p.tables.exec = Jvm.exec) {x : Int64} (hd : decode c.code pc = .ok (.l2i, 1)) (hp : pc + 1 = pc')  (K : Go p e below P (T.setTop (mkF m pc' L (.int x.toInt32 :: S)))) : Go p e below P (T.setTop (mkF m pc L (.long x :: S))) := by
  subst hp; exact K.via fun t k => XS.l2i X.here hx rfl hd rfl k
theorem o_dup (X : Stand p l e R s m args below meth c T locs cells slots) (hx : p.tables.exec = Jvm.exec) {x : Value} (hd : decode c.code pc = .ok (.dup, 1)) (hp : pc + 1 = pc') (hc : x.category = 1) (K : Go p e below P (T.setTop (mkF m pc' L (x :: x :: S)))) : Go p e below P (T.setTop (mkF m pc L (x :: S))) := by
  subst hp; exact K.via fun t k => XS.dup X.here hx rfl hd rfl hc k
theorem o_iinc (X : Stand p l e R s m args below meth c T locs cells slots) (hx : p.tables.exec = Jvm.exec) {k : Nat} {i : Int} {v v' : Int32} (hd : decode c.code pc = .ok (.iinc k i, 3)) (hp : pc + 3 = pc') (hl : L[k]? = some (.val (.int v))) (hv : v + Int32.ofInt i = v') (hs : storeLocals L k (.int v') = some L') (K : Go p e below P (T.setTop (mkF m pc' L' S))) : Go p e below P (T.setTop (mkF m pc L S)) := by
  subst hp hv; exact K.via fun t k => XS.iinc X.here hx rfl hd hl hs k
theorem o_goto (X : Stand p l e R s m args below meth c T locs cells slots) (hx : p.tables.exec = Jvm.exec) {o : Int} (hd : decode c.code pc = .ok (.goto o, 3)) (ho : 0 ≤ (pc : Int) + o) (hp : ((pc : Int) + o).toNat = pc') (K : Go p e below P (T.setTop (mkF m pc' L S))) : Go p e below P (T.setTop (mkF m pc L S)) :=
  K.via fun t k => XS.goto X.here hx rfl rfl hd ho hp k
theorem o_ifY (X : Stand p l e R s m args below meth c T locs cells slots) (hx : p.tables.exec = Jvm.exec) {cd : ClassFile.Cond} {x : Int32} {o : Int} (hd : decode c.code pc = .ok (.ifCond cd o, 3)) (hc : if_icmp.holds cd x 0 = true) (ho : 0 ≤ (pc : Int) + o) (hp : ((pc : Int) + o).toNat = pc') (K : Go p e below P (T.setTop (mkF m pc' L S))) : Go p e below P (T.setTop (mkF m pc L (.int x :: S))) :=
  K.via fun t k => XS.ifYes X.here hx rfl rfl hd rfl ((if0 _ _).trans hc) ho hp k
theorem o_ifN (X : Stand p l e R s m args below meth c T locs cells slots) (hx : p.tables.exec = Jvm.exec) {cd : ClassFile.Cond} {x : Int32} {o : Int} (hd : decode c.code pc = .ok (.ifCond cd o, 3)) (hc : if_icmp.holds cd x 0 = false) (hp : pc + 3 = pc') (K : Go p e below P (T.setTop (mkF m pc' L S))) : Go p e below P (T.setTop (mkF m pc L (.int x :: S))) := by
  subst hp; exact K.via fun t k => XS.ifNo X.here hx rfl hd rfl ((if0 _ _).trans hc) k
theorem o_cmpY (X : Stand p l e R s m args below meth c T locs cells slots) (hx : p.tables.exec = Jvm.exec) {cd : ClassFile.Cond} {x y : Int32} {o : Int} (hd : decode c.code pc = .ok (.if_icmp cd o, 3)) (hc : if_icmp.holds cd x y = true) (ho : 0 ≤ (pc : Int) + o) (hp : ((pc : Int) + o).toNat = pc') (K : Go p e below P (T.setTop (mkF m pc' L S))) : Go p e below P (T.setTop (mkF m pc L (.int y :: .int x :: S))) :=
  K.via fun t k => XS.icmpYes X.here hx rfl rfl hd rfl hc ho hp k
theorem o_cmpN (X : Stand p l e R s m args below meth c T locs cells slots) (hx : p.tables.exec = Jvm.exec) {cd : ClassFile.Cond} {x y : Int32} {o : Int} (hd : decode c.code pc = .ok (.if_icmp cd o, 3)) (hc : if_icmp.holds cd x y = false) (hp : pc + 3 = pc') (K : Go p e below P (T.setTop (mkF m pc' L S))) : Go p e below P (T.setTop (mkF m pc L (.int y :: .int x :: S))) := by
  subst hp; exact K.via fun t k => XS.icmpNo X.here hx rfl hd rfl hc k
theorem o_lcmp (X : Stand p l e R s m args below meth c T locs cells slots) (hx : p.tables.exec = Jvm.exec) {x y : Int64} (hd : decode c.code pc = .ok (.lcmp, 1)) (hp : pc + 1 = pc') (K : Go p e below P (T.setTop (mkF m pc' L (.int (lcmpW x y) :: S)))) : Go p e below P (T.setTop (mkF m pc L (.long y :: .long x :: S))) := by
  subst hp; exact K.via fun t k => XS.lcmp X.here hx rfl hd rfl k
theorem tltL {x y : Int64} (q : x < y) : if_icmp.holds .lt (lcmpW x y) 0 = true ∧ if_icmp.holds .ge (lcmpW x y) 0 = false ∧ if_icmp.holds .gt (lcmpW y x) 0 = true ∧ if_icmp.holds .le (lcmpW y x) 0 = false :=
  ⟨(tlt ((lw_lt x y).mpr q)).1, (tlt ((lw_lt x y).mpr q)).2.1, (tlt ((lw_gt y x).mpr q)).2.2.1, (tlt ((lw_gt y x).mpr q)).2.2.2⟩
theorem fltL {x y : Int64} (q : ¬ x < y) : if_icmp.holds .lt (lcmpW x y) 0 = false ∧ if_icmp.holds .ge (lcmpW x y) 0 = true ∧ if_icmp.holds .gt (lcmpW y x) 0 = false ∧ if_icmp.holds .le (lcmpW y x) 0 = true :=
  ⟨(flt (mt (lw_lt x y).mp q)).1, (flt (mt (lw_lt x y).mp q)).2.1, (flt (mt (lw_gt y x).mp q)).2.2.1, (flt (mt (lw_gt y x).mp q)).2.2.2⟩
theorem teqL {x y : Int64} (q : x = y) : if_icmp.holds .eq (lcmpW x y) 0 = true ∧ if_icmp.holds .ne (lcmpW x y) 0 = false := teq ((lw_eq x y).mpr q)
theorem feqL {x y : Int64} (q : ¬ x = y) : if_icmp.holds .eq (lcmpW x y) 0 = false ∧ if_icmp.holds .ne (lcmpW x y) 0 = true := feq (mt (lw_eq x y).mp q)
theorem o_ldcI (X : Stand p l e R s m args below meth c T locs cells slots) (hx : p.tables.exec = Jvm.exec) (hZ : Z.Warmed39 s.vm) {own : String} {index : Nat} (v : Int32) (hown : s.vm.findClass own = some m.cls) (w : (Cond.constant own index v).before a0 Z = true) (hd : decode c.code pc = .ok (.ldc index, 2)) (hp : pc + 2 = pc') (K : Go p e below P (T.setTop (mkF m pc' L (.int v :: S)))) : Go p e below P (T.setTop (mkF m pc L S)) := by
  subst hp; exact K.via (X.ldcInt hx hown (mvT hZ w) (g := mkF m pc L S) rfl hd)
theorem o_ldcJ (X : Stand p l e R s m args below meth c T locs cells slots) (hx : p.tables.exec = Jvm.exec) (hZ : Z.Warmed39 s.vm) {own : String} {index : Nat} (v : Int64) (hown : s.vm.findClass own = some m.cls) (w : (Cond.constantLong own index v).before a0 Z = true) (hd : decode c.code pc = .ok (.ldc2_w index, 3)) (hp : pc + 3 = pc') (K : Go p e below P (T.setTop (mkF m pc' L (.long v :: S)))) : Go p e below P (T.setTop (mkF m pc L S)) := by
  subst hp; exact K.via (X.ldc2Long hx hown (mvT hZ w) (g := mkF m pc L S) rfl hd)
/-- what a body's end owes -/
abbrev Owe (s : State) (Q : Option Value → Heap → List Loc → Prop) (C D : Nat) : Outcome → State → Prop := fun o U' => ∃ v L, o = .returned v ∧ Q v U'.heap L ∧ FrameEnd s o U' L C D
/-- a body's contract -/
abbrev Con (l : Launch) (y : MethodName) (bytes : ByteArray) (ml : Nat) (ret : Option FieldType) (ws : List Jvm.Cond) (rm : Room) (as' : Array Value) (Z : State) (h0 : Heap) (Q : Option Value → Heap → List Loc → Prop) (C D : Nat) : Prop :=
  MetFree l y (head1 (Jvm.Cond.code y bytes ml ret :: ws) rm) (fun b U => b = as' ∧ Z.Warmed39 U.vm ∧ U.heap = h0) (fun _ _ _ _ _ => True) (fun _ U o U' => ∃ v L, o = .returned v ∧ Q v U'.heap L ∧ FrameEnd U o U' L C D)
theorem own_body {y : MethodName} {bytes : ByteArray} {ml : Nat} {ret : Option FieldType} {ws : List Jvm.Cond} {rm : Room} {as' : Array Value} {h0 : Heap} {Q : Option Value → Heap → List Loc → Prop} {C D : Nat} (hpl : plainFor y = true)
    (K : ∀ (p : Program) (e : Env) (s : State) (m : MethodId) (below : List Frame) (meth : Method) (c : Code) (s₁ : State), p.tables.exec = Jvm.exec → c.code = bytes → meth.locks = false → c.maxLocals = ml → s.vm.findClass y.cls = some m.cls → meth.name = y.name → meth.sig.returnType = ret → Z.Warmed39 s.vm →
      Stand p l e rm s m as' below meth c s₁ [] 0 0 → s₁.heap = h0 → Go p e below (Owe s Q C D) (s₁.setTop (entryFrame m as' ml))) : Con l y bytes ml ret ws rm as' Z h0 Q C D := by
  refine MetFree.of_bodySF hpl hisR ?_
  intro p e s m args below meth c s₁ Bd hml0 hP hK
  obtain ⟨rfl, hZ, hh⟩ := hP
  exact K p e s m below meth c s₁ Bd.exec Bd.bytes (BodyLoose.notSynchronized Bd) hml0 (findClass_of_methodNamed Bd.named) (name_of_methodNamed Bd.named Bd.method).1 Bd.returns hZ (Stand.of_body Bd) (by rw [← hh, Bd.state]; rfl)
theorem o_ret (X : Stand p l e R s m args below meth c T locs cells slots) (hx : p.tables.exec = Jvm.exec) {Q : Option Value → Heap → List Loc → Prop} {C D : Nat} {w : Value} {t : FieldType} {i : Instr} (hlocks : meth.locks = false) (hret : meth.sig.returnType = some t) (hn : narrow t w = w)
    (hi : (i = .ireturn ∧ (t = .int ∨ t = .boolean ∨ t = .byte ∨ t = .char ∨ t = .short) ∧ ∃ z, w = .int z) ∨ (i = .lreturn ∧ t = .long ∧ ∃ z, w = .long z) ∨ (i = .dreturn ∧ t = .double ∧ ∃ z, w = .double z) ∨ (i = .freturn ∧ t = .float ∧ ∃ z, w = .float z) ∨ (i = .areturn ∧ t.isReference = true ∧ w.isRef = true))
    (hd : decode c.code pc = .ok (i, 1)) (hc : cells ≤ C) (hs : slots ≤ D) (hq : Q (some w) T.heap locs) : Go p e below (Owe s Q C D) (T.setTop (mkF m pc L (w :: S))) := by
  obtain ⟨fs, hr, hrun, hended, hW, hsame⟩ := X.leave (v := some w) (fun h => by rw [hret] at h; cases h) hlocks
  exact ⟨_, _, retOut X hx hret hn hi hd hr, hrun, hended, _, _, rfl, hq, ⟨_, rfl⟩, hW, hsame.mono hc hs⟩
theorem o_retZ (X : Stand p l e R s m args below meth c T locs cells slots) (hx : p.tables.exec = Jvm.exec) {Q : Option Value → Heap → List Loc → Prop} {C D : Nat} {z : Int32} (hz : narrow .boolean (.int z) = .int z) (hlocks : meth.locks = false) (hret : meth.sig.returnType = some .boolean) (hd : decode c.code pc = .ok (.ireturn, 1)) (hc : cells ≤ C) (hs : slots ≤ D) (hq : Q (some (.int z)) T.heap locs) : Go p e below (Owe s Q C D) (T.setTop (mkF m pc L (.int z :: S))) :=
  o_ret X hx hlocks hret hz (Or.inl ⟨rfl, Or.inr (Or.inl rfl), z, rfl⟩) hd hc hs hq
theorem o_retV (X : Stand p l e R s m args below meth c T locs cells slots) (hx : p.tables.exec = Jvm.exec) {Q : Option Value → Heap → List Loc → Prop} {C D : Nat} (hlocks : meth.locks = false) (hret : meth.sig.returnType = none) (hd : decode c.code pc = .ok (.return_, 1)) (hc : cells ≤ C) (hs : slots ≤ D) (hq : Q none T.heap locs) : Go p e below (Owe s Q C D) (T.setTop (mkF m pc L [])) := by
  obtain ⟨fs, hr, hrun, hended, hW, hsame⟩ := X.leave (v := none) (fun _ => rfl) hlocks
  exact ⟨_, _, X.returnOut hx hret hd hr, hrun, hended, _, _, rfl, hq, ⟨_, rfl⟩, hW, hsame.mono hc hs⟩
theorem o_callS (X : Stand p l e R s m args below meth c T locs cells slots) (hx : p.tables.exec = Jvm.exec) (hZ : Z.Warmed39 s.vm) {own : String} {index : Nat} {y : MethodName} {bytes : ByteArray} {maxL : Nat} {ret : Option FieldType} {rm : Room} (W : Nat) {argsL rest : List Value} {Q : Option Value → Heap → List Loc → Prop} {cells' slots' : Nat}
    (hown : s.vm.findClass own = some m.cls) (w1 : (Cond.methodLink own index y).before a0 Z = true) (w2 : (Cond.static y).before a0 Z = true) (w3 : (Cond.initialized y.cls).before a0 Z = true) (w4 : (Cond.code y bytes maxL ret).before a0 Z = true) (hy : y.cls ≠ "java/lang/invoke/MethodHandle" ∧ y.cls ≠ "java/lang/invoke/VarHandle")
    (hM : MetFree l y (head1 [Cond.code y bytes maxL ret] rm) (fun a U => a = argsL.toArray ∧ Z.Warmed39 U.vm ∧ U.heap = h) (fun _ _ _ _ _ => True) (fun _ U o U' => ∃ v L, o = .returned v ∧ Q v U'.heap L ∧ FrameEnd U o U' L rm.cells rm.slots))
    (hf : rm.frames + 1 ≤ R.frames) (hl : W + (maxL + 11) + rm.locals ≤ R.locals) (hcc : cells + rm.cells = cells') (hss : slots + rm.slots = slots') (hc : cells' ≤ R.cells) (hs : slots' ≤ R.slots) (eT : T.heap = h) (hsize : L.size = c.maxLocals) (hlen : ∀ sig, parseMethodDescriptor y.desc = some sig → argsL.length = sig.parameters.length) (hstk : S = argsL.reverse ++ rest)
    (hW : (rest.map fun v => v.category).sum = W) (hd : decode c.code pc = .ok (.invokestatic index, 3)) (hp : pc + 3 = pc') (K : ∀ T' v Lc, Stand p l e R s m args below meth c T' (locs ++ Lc) cells' slots' → Q v T'.heap Lc → Go p e below P (T'.setTop (mkF m pc' L (v.toList ++ rest)))) : Go p e below P (T.setTop (mkF m pc L S)) := by
  subst hp hcc hss
  obtain ⟨v, _, ⟨T', L', k', n'⟩, -, X', ⟨Lc, hQ, l', y', z'⟩, st⟩ := Jvm.LawKit.callS X hx hown (mvT hZ w1) (mvT hZ w2) (mvT hZ w3) (mvT hZ w4) hy (backOf (W := W) hM hZ w4 w3 hf hl) (g := mkF m pc L S) rfl hsize (argsL := argsL) (rest := rest) hlen hstk (by show 2 * 0 + _ ≤ _; rw [hW]; exact Nat.le_of_eq (by simp)) hd (fun _ _ => ⟨rfl, eT, hc, hs⟩)
  dsimp only [Pt.U, Pt.locs, Pt.cells, Pt.slots] at X' l' y' z' st hQ
  subst l' y' z'
  exact (K T' v Lc X' hQ).via st
theorem o_newP (X : Stand p l e R s m args below meth c T locs cells slots) (hx : p.tables.exec = Jvm.exec) (hZ : Z.Warmed39 s.vm) {aty : ArrayType} {n : Int32} {cells' slots' : Nat} (cap : Nat) (w : (Cond.arrayClass (newarray.typeOf aty)).before a0 Z = true) (eT : T.heap = h) (hd : decode c.code pc = .ok (.newarray aty, 2)) (hp : pc + 2 = pc') (hn : ¬ n < 0) (hcap : n.toNatClampNeg ≤ cap) (hb : cap * 8 ≤ 536870912) (hcc : cells + 1 = cells') (hss : slots + cap = slots') (hc : cells' ≤ R.cells) (hs : slots' ≤ R.slots)
    (K : ∀ T' h' a k, a = h.size → Stand p l e R s m args below meth c T' locs cells' slots' → T'.heap = h' → Ext h h' → Arv Z h' a k (newarray.typeOf aty) n [] (defaultValue (newarray.typeOf aty)) → Go p e below P (T'.setTop (mkF m pc' L (.ref a :: S)))) : Go p e below P (T.setTop (mkF m pc L (.int n :: S))) := by
  subst hp hcc hss
  obtain ⟨T', h', cA, X', e', E', A', st⟩ := newP X hx hZ w eT (g := mkF m pc L (.int n :: S)) rfl hd rfl hn hcap hb hc hs
  exact (K T' h' h.size cA rfl X' e' E' (Arv.new A' hn)).via st
theorem own_inb {Zx : State} {hh : Heap} {a : Addr} {k : ClassId} {ty : FieldType} {n j : Int32} {vs : List Value} {d : Value} (hj : ¬ j < 0 ∧ j < n) (V : Arv Zx hh a k ty n vs d) : ∃ cl : Cell, Arr Zx hh a cl ty ∧ cl.cls = k ∧ cl.slots.size = n.toNatClampNeg ∧ ¬ n < 0 ∧ Has cl vs d ∧ (∀ i, i < cl.slots.size → fits ty (vs.getD i d) = true) ∧ ¬ (j < 0 ∨ cl.slots.size ≤ j.toNatClampNeg) ∧ cl.slots[j.toNatClampNeg]? = some (vs.getD j.toNatClampNeg d) := by
  obtain ⟨cl, h1, h2, h3, h4, h5, h6⟩ := V
  have hin := inb_of h3 hj
  exact ⟨cl, h1, h2, h3, h4, h5, h6, hin, h5.at hin rfl⟩
theorem o_iaload (X : Stand p l e R s m args below meth c T locs cells slots) (hx : p.tables.exec = Jvm.exec) (hZ : Z.Warmed39 s.vm) {a : Addr} {k : ClassId} {n j : Int32} {vs : List Value} {d : Value} (v : Value) (eT : T.heap = h) (V : Arv Z h a k .int n vs d) (hj : ¬ j < 0 ∧ j < n) (hv : vs.getD j.toNatClampNeg d = v) (hd : decode c.code pc = .ok (.iaload, 1)) (hp : pc + 1 = pc') (K : Go p e below P (T.setTop (mkF m pc' L (v :: S)))) : Go p e below P (T.setTop (mkF m pc L (.int j :: .ref a :: S))) := by
  subst hp hv
  obtain ⟨cl, A, -, -, -, -, -, hin, hat⟩ := own_inb hj V
  exact K.via fun t k => X.iaload hx (j := j) (by rw [eT]; exact A.1) (State.isArrayOf_alike hZ.alike A.2.1) A.2.2 hin hat (g := mkF m pc L (.int j :: .ref a :: S)) rfl rfl hd t k
theorem o_iastore (X : Stand p l e R s m args below meth c T locs cells slots) (hx : p.tables.exec = Jvm.exec) (hZ : Z.Warmed39 s.vm) {a : Addr} {k : ClassId} {n j : Int32} {x : Int32} {vs vs' : List Value} {d : Value} (i : Nat) (eT : T.heap = h) (V : Arv Z h a k .int n vs d) (hj : ¬ j < 0 ∧ j < n) (hji : j.toNatClampNeg = i) (hi : i < vs.length) (hvs : vs.set i (.int x) = vs') (hd : decode c.code pc = .ok (.iastore, 1)) (hp : pc + 1 = pc')
    (K : ∀ T' h', Stand p l e R s m args below meth c T' (locs ++ [⟨a, i⟩]) cells slots → T'.heap = h' → Wr h h' a i (.int x) → Arv Z h' a k .int n vs' d → Go p e below P (T'.setTop (mkF m pc' L S))) : Go p e below P (T.setTop (mkF m pc L (.int x :: .int j :: .ref a :: S))) := by
  subst hp hvs hji
  obtain ⟨cl, A, q1, q2, q3, q4, q5, hin, hat⟩ := own_inb hj V
  obtain ⟨T', h', X', e', W', st⟩ := stI X hx hZ eT A hin (g := mkF m pc L (.int x :: .int j :: .ref a :: S)) rfl rfl hd
  exact (K T' h' X' e' W' (Arv.set A q1 q2 q3 q4 q5 rfl W' _ rfl hi)).via st
theorem o_arraylength (X : Stand p l e R s m args below meth c T locs cells slots) (hx : p.tables.exec = Jvm.exec) (hZ : Z.Warmed39 s.vm) {a : Addr} {k : ClassId} {n : Int32} {ty : FieldType} {vs : List Value} {d : Value} (eT : T.heap = h) (V : Arv Z h a k ty n vs d) (hd : decode c.code pc = .ok (.arraylength, 1)) (hp : pc + 1 = pc') (K : Go p e below P (T.setTop (mkF m pc' L (.int n :: S)))) : Go p e below P (T.setTop (mkF m pc L (.ref a :: S))) := by
  subst hp
  obtain ⟨cl, A, q1, q2, q3, q4, q5⟩ := V
  rw [← len_of q2 q3] at K
  exact K.via fun t k => X.arraylength hx (by rw [eT]; exact A.1) (State.isArrayOf_alike hZ.alike A.2.1) (g := mkF m pc L (.ref a :: S)) rfl rfl hd t k
/-- a longer list said of an array: the rest holds its first value -/
theorem own_fill {Zx : State} {hh : Heap} {a : Addr} {k : ClassId} {ty : FieldType} {n : Int32} {d : Value} (i : Nat) (V : Arv Zx hh a k ty n [] d) : Arv Zx hh a k ty n (List.replicate i d) d := V.pad (pad_rep [] d i)
end Own
theorem pd_0 : parseMethodDescriptor "([I[I)V" = some ⟨[(.array .int), (.array .int)], none⟩ := by decide +kernel
theorem d1_0 : decode prog_43_method_4_code 0 = .ok (.lconst 0, 1) := by decide +kernel
theorem d1_1 : decode prog_43_method_4_code 1 = .ok (.lstore_n 2, 1) := by decide +kernel
theorem d1_2 : decode prog_43_method_4_code 2 = .ok (.iconst 0, 1) := by decide +kernel
theorem d1_3 : decode prog_43_method_4_code 3 = .ok (.istore 4, 2) := by decide +kernel
theorem d1_5 : decode prog_43_method_4_code 5 = .ok (.iload 4, 2) := by decide +kernel
theorem d1_7 : decode prog_43_method_4_code 7 = .ok (.aload_n 0, 1) := by decide +kernel
theorem d1_8 : decode prog_43_method_4_code 8 = .ok (.arraylength, 1) := by decide +kernel
theorem d1_9 : decode prog_43_method_4_code 9 = .ok (.if_icmp .ge 42, 3) := by decide +kernel
theorem d1_12 : decode prog_43_method_4_code 12 = .ok (.lload_n 2, 1) := by decide +kernel
theorem d1_13 : decode prog_43_method_4_code 13 = .ok (.aload_n 0, 1) := by decide +kernel
theorem d1_14 : decode prog_43_method_4_code 14 = .ok (.iload 4, 2) := by decide +kernel
theorem d1_16 : decode prog_43_method_4_code 16 = .ok (.iaload, 1) := by decide +kernel
theorem d1_17 : decode prog_43_method_4_code 17 = .ok (.i2l, 1) := by decide +kernel
theorem d1_18 : decode prog_43_method_4_code 18 = .ok (.ldc2_w 45, 3) := by decide +kernel
theorem d1_21 : decode prog_43_method_4_code 21 = .ok (.land, 1) := by decide +kernel
theorem d1_22 : decode prog_43_method_4_code 22 = .ok (.aload_n 1, 1) := by decide +kernel
theorem d1_23 : decode prog_43_method_4_code 23 = .ok (.iload 4, 2) := by decide +kernel
theorem d1_25 : decode prog_43_method_4_code 25 = .ok (.iaload, 1) := by decide +kernel
theorem d1_26 : decode prog_43_method_4_code 26 = .ok (.i2l, 1) := by decide +kernel
theorem d1_27 : decode prog_43_method_4_code 27 = .ok (.ldc2_w 45, 3) := by decide +kernel
theorem d1_30 : decode prog_43_method_4_code 30 = .ok (.land, 1) := by decide +kernel
theorem d1_31 : decode prog_43_method_4_code 31 = .ok (.ladd, 1) := by decide +kernel
theorem d1_32 : decode prog_43_method_4_code 32 = .ok (.ladd, 1) := by decide +kernel
theorem d1_33 : decode prog_43_method_4_code 33 = .ok (.lstore_n 2, 1) := by decide +kernel
theorem d1_34 : decode prog_43_method_4_code 34 = .ok (.aload_n 0, 1) := by decide +kernel
theorem d1_35 : decode prog_43_method_4_code 35 = .ok (.iload 4, 2) := by decide +kernel
theorem d1_37 : decode prog_43_method_4_code 37 = .ok (.lload_n 2, 1) := by decide +kernel
theorem d1_38 : decode prog_43_method_4_code 38 = .ok (.l2i, 1) := by decide +kernel
theorem d1_39 : decode prog_43_method_4_code 39 = .ok (.iastore, 1) := by decide +kernel
theorem d1_40 : decode prog_43_method_4_code 40 = .ok (.lload_n 2, 1) := by decide +kernel
theorem d1_41 : decode prog_43_method_4_code 41 = .ok (.bipush 32, 2) := by decide +kernel
theorem d1_43 : decode prog_43_method_4_code 43 = .ok (.lushr, 1) := by decide +kernel
theorem d1_44 : decode prog_43_method_4_code 44 = .ok (.lstore_n 2, 1) := by decide +kernel
theorem d1_45 : decode prog_43_method_4_code 45 = .ok (.iinc 4 1, 3) := by decide +kernel
theorem d1_48 : decode prog_43_method_4_code 48 = .ok (.goto (-43), 3) := by decide +kernel
theorem d1_51 : decode prog_43_method_4_code 51 = .ok (.return_, 1) := by decide +kernel
theorem pn_1 : plainName "com/example/tideway/tideway/engine/Limbs" = true := by first | (simp [plainName, overriddenIn]; done) | decide +kernel
theorem ef_1 (m : MethodId) (x0 : Addr) (x1 : Addr) : entryFrame m #[(.ref x0), (.ref x1)] 5 = mkF m 0 #[.val (.ref x0), .val (.ref x1), .unset, .unset, .unset] [] := by first | (simp [entryFrame, mkF, argsToLocals, Value.category]; done) | rfl
def own_f1_x0 (i0 : Int32) (i1 : Int32) (i2 : Int32) (j0 : Int32) (j1 : Int32) (j2 : Int32) : Int64 := ((0 : Int64) + (((i0.toInt64) &&& (4294967295 : Int64)) + ((j0.toInt64) &&& (4294967295 : Int64))))
def own_f1_x1 (i0 : Int32) (i1 : Int32) (i2 : Int32) (j0 : Int32) (j1 : Int32) (j2 : Int32) : Int64 := (uL (own_f1_x0 i0 i1 i2 j0 j1 j2) (32 : Int32))
def own_f1_x2 (i0 : Int32) (i1 : Int32) (i2 : Int32) (j0 : Int32) (j1 : Int32) (j2 : Int32) : Int64 := ((own_f1_x1 i0 i1 i2 j0 j1 j2) + (((i1.toInt64) &&& (4294967295 : Int64)) + ((j1.toInt64) &&& (4294967295 : Int64))))
def own_f1_x3 (i0 : Int32) (i1 : Int32) (i2 : Int32) (j0 : Int32) (j1 : Int32) (j2 : Int32) : Int64 := (uL (own_f1_x2 i0 i1 i2 j0 j1 j2) (32 : Int32))
def own_f1_x4 (i0 : Int32) (i1 : Int32) (i2 : Int32) (j0 : Int32) (j1 : Int32) (j2 : Int32) : Int64 := ((own_f1_x3 i0 i1 i2 j0 j1 j2) + (((i2.toInt64) &&& (4294967295 : Int64)) + ((j2.toInt64) &&& (4294967295 : Int64))))
def own_f1_x5 (i0 : Int32) (i1 : Int32) (i2 : Int32) (j0 : Int32) (j1 : Int32) (j2 : Int32) : Int64 := (uL (own_f1_x4 i0 i1 i2 j0 j1 j2) (32 : Int32))
def own_f1_A_aa_0 (i0 : Int32) (i1 : Int32) (i2 : Int32) (j0 : Int32) (j1 : Int32) (j2 : Int32) : Int32 := ((own_f1_x0 i0 i1 i2 j0 j1 j2).toInt32)
def own_f1_A_aa_1 (i0 : Int32) (i1 : Int32) (i2 : Int32) (j0 : Int32) (j1 : Int32) (j2 : Int32) : Int32 := ((own_f1_x2 i0 i1 i2 j0 j1 j2).toInt32)
def own_f1_A_aa_2 (i0 : Int32) (i1 : Int32) (i2 : Int32) (j0 : Int32) (j1 : Int32) (j2 : Int32) : Int32 := ((own_f1_x4 i0 i1 i2 j0 j1 j2).toInt32)
def Q1 (Z : State) (aa : Addr) (bb : Addr) (i0 : Int32) (i1 : Int32) (i2 : Int32) (j0 : Int32) (j1 : Int32) (j2 : Int32) (k_aa : ClassId) (k_bb : ClassId) (h0 : Heap) (n0 : Nat) (v : Option Value) (h : Heap) (L : List Loc) : Prop := v = none ∧ Fr n0 L ∧ Keep h0 h [aa] ∧ Arv Z h aa k_aa .int (3 : Int32) [.int (own_f1_A_aa_0 i0 i1 i2 j0 j1 j2), .int (own_f1_A_aa_1 i0 i1 i2 j0 j1 j2), .int (own_f1_A_aa_2 i0 i1 i2 j0 j1 j2)] (.int (0 : Int32))
set_option maxRecDepth 65536 in
set_option maxHeartbeats 40000000 in
theorem rm1 (l : Launch) (Z : State) (a0 : Array Value) (hw : ∀ d ∈ tables_1, d.before a0 Z = true) (ws : List Jvm.Cond) (aa : Addr) (bb : Addr) (i0 : Int32) (i1 : Int32) (i2 : Int32) (j0 : Int32) (j1 : Int32) (j2 : Int32) (k_aa : ClassId) (k_bb : ClassId) (h0 : Heap) (n0 : Nat) (Z0 : n0 ≤ h0.size) (V_aa : Arv Z h0 aa k_aa .int (3 : Int32) [.int i0, .int i1, .int i2] (.int (0 : Int32))) (g_aa : n0 ≤ aa) (V_bb : Arv Z h0 bb k_bb .int (3 : Int32) [.int j0, .int j1, .int j2] (.int (0 : Int32))) (ne_bb_aa : bb ≠ aa) :
    Con l (⟨"com/example/tideway/tideway/engine/Limbs", "add", "([I[I)V"⟩ : MethodName) prog_43_method_4_code 5 none ws ({ frames := 0, cells := 0, slots := 0, locals := 0 } : Room) #[(.ref aa), (.ref bb)] Z h0 (Q1 Z aa bb i0 i1 i2 j0 j1 j2 k_aa k_bb h0 n0) ({ frames := 0, cells := 0, slots := 0, locals := 0 } : Room).cells ({ frames := 0, cells := 0, slots := 0, locals := 0 } : Room).slots := by
  refine own_body (plainFor_of_name pn_1) ?_
  intro p e s m below meth c s₁ hx hby hlk hml hown hnm hrt hZ X0 e0
  have w : ∀ (k : Nat) (d : Jvm.Cond), tables_1[k]? = some d → d.before a0 Z = true := fun k d h => hw d (List.mem_of_getElem? h)
  have N0 := Fr.nil n0
  have K0 := Keep.refl h0 [aa]
  rw [ef_1]
  generalize hOWE : Owe s _ _ _ = OWE
  refine o_lconst X0 hx (0 : Int64) (hb hby d1_0) (pc' := 1) rfl (by decide) ?_
  refine o_lstoreN X0 hx (hb hby d1_1) (pc' := 2) rfl (L' := #[.val (.ref aa), .val (.ref bb), .val (.long (0 : Int64)), .second, .unset]) rfl ?_
  refine o_iconst X0 hx (0 : Int32) (hb hby d1_2) (pc' := 3) rfl (by decide) ?_
  refine o_istore X0 hx (hb hby d1_3) (pc' := 5) rfl (L' := #[.val (.ref aa), .val (.ref bb), .val (.long (0 : Int64)), .second, .val (.int (0 : Int32))]) rfl ?_
  refine o_iload X0 hx (hb hby d1_5) (pc' := 7) rfl rfl ?_
  refine o_aloadN X0 hx (hb hby d1_7) (pc' := 8) rfl rfl rfl ?_
  refine o_arraylength X0 hx hZ e0 V_aa (hb hby d1_8) (pc' := 9) rfl ?_
  refine o_cmpN X0 hx (hb hby d1_9) (tlt (by decide : (0 : Int32) < (3 : Int32))).2.1 (pc' := 12) rfl ?_
  refine o_lloadN X0 hx (hb hby d1_12) (pc' := 13) rfl rfl ?_
  refine o_aloadN X0 hx (hb hby d1_13) (pc' := 14) rfl rfl rfl ?_
  refine o_iload X0 hx (hb hby d1_14) (pc' := 16) rfl rfl ?_
  refine o_iaload X0 hx hZ (.int i0) e0 V_aa (by decide) (by rfl) (hb hby d1_16) (pc' := 17) rfl ?_
  refine o_i2l X0 hx (hb hby d1_17) (pc' := 18) rfl ?_
  refine o_ldcJ X0 hx hZ (4294967295 : Int64) hown (w 6 _ rfl) (hb hby d1_18) (pc' := 21) rfl ?_
  refine o_land X0 hx (hb hby d1_21) (pc' := 22) rfl ?_
  refine o_aloadN X0 hx (hb hby d1_22) (pc' := 23) rfl rfl rfl ?_
  refine o_iload X0 hx (hb hby d1_23) (pc' := 25) rfl rfl ?_
  refine o_iaload X0 hx hZ (.int j0) e0 V_bb (by decide) (by rfl) (hb hby d1_25) (pc' := 26) rfl ?_
  refine o_i2l X0 hx (hb hby d1_26) (pc' := 27) rfl ?_
  refine o_ldcJ X0 hx hZ (4294967295 : Int64) hown (w 6 _ rfl) (hb hby d1_27) (pc' := 30) rfl ?_
  refine o_land X0 hx (hb hby d1_30) (pc' := 31) rfl ?_
  refine o_ladd X0 hx (hb hby d1_31) (pc' := 32) rfl ?_
  refine o_ladd X0 hx (hb hby d1_32) (pc' := 33) rfl ?_
  refine o_lstoreN (x := (own_f1_x0 i0 i1 i2 j0 j1 j2)) X0 hx (hb hby d1_33) (pc' := 34) rfl (L' := #[.val (.ref aa), .val (.ref bb), .val (.long (own_f1_x0 i0 i1 i2 j0 j1 j2)), .second, .val (.int (0 : Int32))]) rfl ?_
  refine o_aloadN X0 hx (hb hby d1_34) (pc' := 35) rfl rfl rfl ?_
  refine o_iload X0 hx (hb hby d1_35) (pc' := 37) rfl rfl ?_
  refine o_lloadN X0 hx (hb hby d1_37) (pc' := 38) rfl rfl ?_
  refine o_l2i X0 hx (hb hby d1_38) (pc' := 39) rfl ?_
  refine o_iastore X0 hx hZ 0 e0 V_aa (by decide) (by decide) (by exact (by decide : 0 < 3)) (vs' := [.int ((own_f1_x0 i0 i1 i2 j0 j1 j2).toInt32), .int i1, .int i2]) rfl (hb hby d1_39) (pc' := 40) rfl ?_
  intro T1 h1 X1 e1 W1 V1_
  have V2_bb := Arv.other V_bb W1 ne_bb_aa
  have N1 := Fr.snoc X1 N0 g_aa
  have Z1 : n0 ≤ h1.size := by rw [W1.size]; exact Z0
  have K1 := Keep.wr K0 W1 (Or.inl (List.mem_of_getElem? (i := 0) rfl))
  refine o_lloadN X1 hx (hb hby d1_40) (pc' := 41) rfl rfl ?_
  refine o_bipush X1 hx (32 : Int32) (hb hby d1_41) (pc' := 43) rfl (by decide) ?_
  refine o_lushr X1 hx (hb hby d1_43) (pc' := 44) rfl ?_
  refine o_lstoreN (x := (own_f1_x1 i0 i1 i2 j0 j1 j2)) X1 hx (hb hby d1_44) (pc' := 45) rfl (L' := #[.val (.ref aa), .val (.ref bb), .val (.long (own_f1_x1 i0 i1 i2 j0 j1 j2)), .second, .val (.int (0 : Int32))]) rfl ?_
  refine o_iinc X1 hx (hb hby d1_45) (pc' := 48) rfl rfl (v' := (1 : Int32)) (by first | rfl | decide) (L' := #[.val (.ref aa), .val (.ref bb), .val (.long (own_f1_x1 i0 i1 i2 j0 j1 j2)), .second, .val (.int (1 : Int32))]) rfl ?_
  refine o_goto X1 hx (hb hby d1_48) (by decide) (pc' := 5) (by decide) ?_
  refine o_iload X1 hx (hb hby d1_5) (pc' := 7) rfl rfl ?_
  refine o_aloadN X1 hx (hb hby d1_7) (pc' := 8) rfl rfl rfl ?_
  refine o_arraylength X1 hx hZ e1 V1_ (hb hby d1_8) (pc' := 9) rfl ?_
  refine o_cmpN X1 hx (hb hby d1_9) (tlt (by decide : (1 : Int32) < (3 : Int32))).2.1 (pc' := 12) rfl ?_
  refine o_lloadN X1 hx (hb hby d1_12) (pc' := 13) rfl rfl ?_
  refine o_aloadN X1 hx (hb hby d1_13) (pc' := 14) rfl rfl rfl ?_
  refine o_iload X1 hx (hb hby d1_14) (pc' := 16) rfl rfl ?_
  refine o_iaload X1 hx hZ (.int i1) e1 V1_ (by decide) (by rfl) (hb hby d1_16) (pc' := 17) rfl ?_
  refine o_i2l X1 hx (hb hby d1_17) (pc' := 18) rfl ?_
  refine o_ldcJ X1 hx hZ (4294967295 : Int64) hown (w 6 _ rfl) (hb hby d1_18) (pc' := 21) rfl ?_
  refine o_land X1 hx (hb hby d1_21) (pc' := 22) rfl ?_
  refine o_aloadN X1 hx (hb hby d1_22) (pc' := 23) rfl rfl rfl ?_
  refine o_iload X1 hx (hb hby d1_23) (pc' := 25) rfl rfl ?_
  refine o_iaload X1 hx hZ (.int j1) e1 V2_bb (by decide) (by rfl) (hb hby d1_25) (pc' := 26) rfl ?_
  refine o_i2l X1 hx (hb hby d1_26) (pc' := 27) rfl ?_
  refine o_ldcJ X1 hx hZ (4294967295 : Int64) hown (w 6 _ rfl) (hb hby d1_27) (pc' := 30) rfl ?_
  refine o_land X1 hx (hb hby d1_30) (pc' := 31) rfl ?_
  refine o_ladd X1 hx (hb hby d1_31) (pc' := 32) rfl ?_
  refine o_ladd X1 hx (hb hby d1_32) (pc' := 33) rfl ?_
  refine o_lstoreN (x := (own_f1_x2 i0 i1 i2 j0 j1 j2)) X1 hx (hb hby d1_33) (pc' := 34) rfl (L' := #[.val (.ref aa), .val (.ref bb), .val (.long (own_f1_x2 i0 i1 i2 j0 j1 j2)), .second, .val (.int (1 : Int32))]) rfl ?_
  refine o_aloadN X1 hx (hb hby d1_34) (pc' := 35) rfl rfl rfl ?_
  refine o_iload X1 hx (hb hby d1_35) (pc' := 37) rfl rfl ?_
  refine o_lloadN X1 hx (hb hby d1_37) (pc' := 38) rfl rfl ?_
  refine o_l2i X1 hx (hb hby d1_38) (pc' := 39) rfl ?_
  refine o_iastore X1 hx hZ 1 e1 V1_ (by decide) (by decide) (by exact (by decide : 1 < 3)) (vs' := [.int ((own_f1_x0 i0 i1 i2 j0 j1 j2).toInt32), .int ((own_f1_x2 i0 i1 i2 j0 j1 j2).toInt32), .int i2]) rfl (hb hby d1_39) (pc' := 40) rfl ?_
  intro T3 h3 X3 e3 W3 V3_
  have V4_bb := Arv.other V2_bb W3 ne_bb_aa
  have N3 := Fr.snoc X3 N1 g_aa
  have Z3 : n0 ≤ h3.size := by rw [W3.size]; exact Z1
  have K3 := Keep.wr K1 W3 (Or.inl (List.mem_of_getElem? (i := 0) rfl))
  refine o_lloadN X3 hx (hb hby d1_40) (pc' := 41) rfl rfl ?_
  refine o_bipush X3 hx (32 : Int32) (hb hby d1_41) (pc' := 43) rfl (by decide) ?_
  refine o_lushr X3 hx (hb hby d1_43) (pc' := 44) rfl ?_
  refine o_lstoreN (x := (own_f1_x3 i0 i1 i2 j0 j1 j2)) X3 hx (hb hby d1_44) (pc' := 45) rfl (L' := #[.val (.ref aa), .val (.ref bb), .val (.long (own_f1_x3 i0 i1 i2 j0 j1 j2)), .second, .val (.int (1 : Int32))]) rfl ?_
  refine o_iinc X3 hx (hb hby d1_45) (pc' := 48) rfl rfl (v' := (2 : Int32)) (by first | rfl | decide) (L' := #[.val (.ref aa), .val (.ref bb), .val (.long (own_f1_x3 i0 i1 i2 j0 j1 j2)), .second, .val (.int (2 : Int32))]) rfl ?_
  refine o_goto X3 hx (hb hby d1_48) (by decide) (pc' := 5) (by decide) ?_
  refine o_iload X3 hx (hb hby d1_5) (pc' := 7) rfl rfl ?_
  refine o_aloadN X3 hx (hb hby d1_7) (pc' := 8) rfl rfl rfl ?_
  refine o_arraylength X3 hx hZ e3 V3_ (hb hby d1_8) (pc' := 9) rfl ?_
  refine o_cmpN X3 hx (hb hby d1_9) (tlt (by decide : (2 : Int32) < (3 : Int32))).2.1 (pc' := 12) rfl ?_
  refine o_lloadN X3 hx (hb hby d1_12) (pc' := 13) rfl rfl ?_
  refine o_aloadN X3 hx (hb hby d1_13) (pc' := 14) rfl rfl rfl ?_
  refine o_iload X3 hx (hb hby d1_14) (pc' := 16) rfl rfl ?_
  refine o_iaload X3 hx hZ (.int i2) e3 V3_ (by decide) (by rfl) (hb hby d1_16) (pc' := 17) rfl ?_
  refine o_i2l X3 hx (hb hby d1_17) (pc' := 18) rfl ?_
  refine o_ldcJ X3 hx hZ (4294967295 : Int64) hown (w 6 _ rfl) (hb hby d1_18) (pc' := 21) rfl ?_
  refine o_land X3 hx (hb hby d1_21) (pc' := 22) rfl ?_
  refine o_aloadN X3 hx (hb hby d1_22) (pc' := 23) rfl rfl rfl ?_
  refine o_iload X3 hx (hb hby d1_23) (pc' := 25) rfl rfl ?_
  refine o_iaload X3 hx hZ (.int j2) e3 V4_bb (by decide) (by rfl) (hb hby d1_25) (pc' := 26) rfl ?_
  refine o_i2l X3 hx (hb hby d1_26) (pc' := 27) rfl ?_
  refine o_ldcJ X3 hx hZ (4294967295 : Int64) hown (w 6 _ rfl) (hb hby d1_27) (pc' := 30) rfl ?_
  refine o_land X3 hx (hb hby d1_30) (pc' := 31) rfl ?_
  refine o_ladd X3 hx (hb hby d1_31) (pc' := 32) rfl ?_
  refine o_ladd X3 hx (hb hby d1_32) (pc' := 33) rfl ?_
  refine o_lstoreN (x := (own_f1_x4 i0 i1 i2 j0 j1 j2)) X3 hx (hb hby d1_33) (pc' := 34) rfl (L' := #[.val (.ref aa), .val (.ref bb), .val (.long (own_f1_x4 i0 i1 i2 j0 j1 j2)), .second, .val (.int (2 : Int32))]) rfl ?_
  refine o_aloadN X3 hx (hb hby d1_34) (pc' := 35) rfl rfl rfl ?_
  refine o_iload X3 hx (hb hby d1_35) (pc' := 37) rfl rfl ?_
  refine o_lloadN X3 hx (hb hby d1_37) (pc' := 38) rfl rfl ?_
  refine o_l2i X3 hx (hb hby d1_38) (pc' := 39) rfl ?_
  refine o_iastore X3 hx hZ 2 e3 V3_ (by decide) (by decide) (by exact (by decide : 2 < 3)) (vs' := [.int ((own_f1_x0 i0 i1 i2 j0 j1 j2).toInt32), .int ((own_f1_x2 i0 i1 i2 j0 j1 j2).toInt32), .int ((own_f1_x4 i0 i1 i2 j0 j1 j2).toInt32)]) rfl (hb hby d1_39) (pc' := 40) rfl ?_
  intro T5 h5 X5 e5 W5 V5_
  have V6_bb := Arv.other V4_bb W5 ne_bb_aa
  have N5 := Fr.snoc X5 N3 g_aa
  have Z5 : n0 ≤ h5.size := by rw [W5.size]; exact Z3
  have K5 := Keep.wr K3 W5 (Or.inl (List.mem_of_getElem? (i := 0) rfl))
  refine o_lloadN X5 hx (hb hby d1_40) (pc' := 41) rfl rfl ?_
  refine o_bipush X5 hx (32 : Int32) (hb hby d1_41) (pc' := 43) rfl (by decide) ?_
  refine o_lushr X5 hx (hb hby d1_43) (pc' := 44) rfl ?_
  refine o_lstoreN (x := (own_f1_x5 i0 i1 i2 j0 j1 j2)) X5 hx (hb hby d1_44) (pc' := 45) rfl (L' := #[.val (.ref aa), .val (.ref bb), .val (.long (own_f1_x5 i0 i1 i2 j0 j1 j2)), .second, .val (.int (2 : Int32))]) rfl ?_
  refine o_iinc X5 hx (hb hby d1_45) (pc' := 48) rfl rfl (v' := (3 : Int32)) (by first | rfl | decide) (L' := #[.val (.ref aa), .val (.ref bb), .val (.long (own_f1_x5 i0 i1 i2 j0 j1 j2)), .second, .val (.int (3 : Int32))]) rfl ?_
  refine o_goto X5 hx (hb hby d1_48) (by decide) (pc' := 5) (by decide) ?_
  refine o_iload X5 hx (hb hby d1_5) (pc' := 7) rfl rfl ?_
  refine o_aloadN X5 hx (hb hby d1_7) (pc' := 8) rfl rfl rfl ?_
  refine o_arraylength X5 hx hZ e5 V5_ (hb hby d1_8) (pc' := 9) rfl ?_
  refine o_cmpY X5 hx (hb hby d1_9) (flt (by decide : ¬ ((3 : Int32) < (3 : Int32)))).2.1 (by decide) (pc' := 51) (by decide) ?_
  rw [← hOWE]
  exact o_retV X5 hx hlk hrt (hb hby d1_51) (by decide) (by decide) (by rw [e5]; exact ⟨rfl, N5, K5, (by rw [own_f1_A_aa_0, own_f1_A_aa_1, own_f1_A_aa_2]; exact V5_)⟩)
theorem pn_0 : plainName "com/example/tideway/tideway/engine/LimbsAddPinLaw" = true := by first | (simp [plainName, overriddenIn]; done) | decide +kernel
theorem ef_0 (m : MethodId) (x0 : Int64) (x1 : Int32) (x2 : Int64) (x3 : Int32) : entryFrame m #[(.long x0), (.int x1), (.long x2), (.int x3)] maxLocals = mkF m 0 #[.val (.long x0), .second, .val (.int x1), .val (.long x2), .second, .val (.int x3), .unset, .unset, .unset, .unset, .unset, .unset, .unset, .unset] [] := by first | (simp [entryFrame, mkF, argsToLocals, Value.category, maxLocals]; done) | rfl
def own_law_v91_1_S0 (q0 : Int64) (q1 : Int32) (q2 : Int64) (q3 : Int32) : Int32 := (if ((q0 + q2) ^^^ (-9223372036854775808 : Int64)) < (q0 ^^^ (-9223372036854775808 : Int64)) then (1 : Int32) else (0 : Int32))
theorem own_law_v91_1_S0_01 (q0 : Int64) (q1 : Int32) (q2 : Int64) (q3 : Int32) : (own_law_v91_1_S0 q0 q1 q2 q3) = 0 ∨ (own_law_v91_1_S0 q0 q1 q2 q3) = 1 := by
  unfold own_law_v91_1_S0
  repeat' split
  all_goals first | exact Or.inl rfl | exact Or.inr rfl
def own_law_x0 (q0 : Int64) (q1 : Int32) (q2 : Int64) (q3 : Int32) : Int32 := (((q1 &&& (2147483647 : Int32)) + (q3 &&& (2147483647 : Int32))) + (own_law_v91_1_S0 q0 q1 q2 q3))
def own_law_ret_j91_1 (q0 : Int64) (q1 : Int32) (q2 : Int64) (q3 : Int32) : Int32 := (if (own_f1_A_aa_0 (q0.toInt32) ((uL q0 (32 : Int32)).toInt32) (q1 &&& (2147483647 : Int32)) (q2.toInt32) ((uL q2 (32 : Int32)).toInt32) (q3 &&& (2147483647 : Int32))) = ((q0 + q2).toInt32) then (if (own_f1_A_aa_1 (q0.toInt32) ((uL q0 (32 : Int32)).toInt32) (q1 &&& (2147483647 : Int32)) (q2.toInt32) ((uL q2 (32 : Int32)).toInt32) (q3 &&& (2147483647 : Int32))) = ((uL (q0 + q2) (32 : Int32)).toInt32) then (if (own_f1_A_aa_2 (q0.toInt32) ((uL q0 (32 : Int32)).toInt32) (q1 &&& (2147483647 : Int32)) (q2.toInt32) ((uL q2 (32 : Int32)).toInt32) (q3 &&& (2147483647 : Int32))) = (own_law_x0 q0 q1 q2 q3) then (1 : Int32) else (0 : Int32)) else (0 : Int32)) else (0 : Int32))
def own_law_ret (q0 : Int64) (q1 : Int32) (q2 : Int64) (q3 : Int32) : Int32 := (own_law_ret_j91_1 q0 q1 q2 q3)
def Q0 (Z : State) (q0 : Int64) (q1 : Int32) (q2 : Int64) (q3 : Int32) (h0 : Heap) (n0 : Nat) (v : Option Value) (h : Heap) (L : List Loc) : Prop := v = some (.int (own_law_ret q0 q1 q2 q3)) ∧ Fr n0 L
set_option maxRecDepth 65536 in
set_option maxHeartbeats 40000000 in
theorem rm0 (l : Launch) (Z : State) (a0 : Array Value) (hw : ∀ d ∈ tables_1, d.before a0 Z = true) (ws : List Jvm.Cond) (q0 : Int64) (q1 : Int32) (q2 : Int64) (q3 : Int32) (h0 : Heap) (n0 : Nat) (Z0 : n0 ≤ h0.size)  :
    Con l x code maxLocals ret ws room_1 #[(.long q0), (.int q1), (.long q2), (.int q3)] Z h0 (Q0 Z q0 q1 q2 q3 h0 n0) 2 6 := by
  refine own_body (plainFor_of_name pn_0) ?_
  intro p e s m below meth c s₁ hx hby hlk hml hown hnm hrt hZ X0 e0
  have w : ∀ (k : Nat) (d : Jvm.Cond), tables_1[k]? = some d → d.before a0 Z = true := fun k d h => hw d (List.mem_of_getElem? h)
  have N0 := Fr.nil n0
  have hml : c.maxLocals = 14 := hml
  rw [ef_0]
  generalize hOWE : Owe s _ _ _ = OWE
  refine o_iloadN X0 hx (hb hby at_0) (pc' := 1) rfl rfl ?_
  refine o_ldcI X0 hx hZ (2147483647 : Int32) hown (w 0 _ rfl) (hb hby at_1) (pc' := 3) rfl ?_
  refine o_iand X0 hx (hb hby at_3) (pc' := 4) rfl ?_
  refine o_istore X0 hx (hb hby at_4) (pc' := 6) rfl (L' := #[.val (.long q0), .second, .val (.int q1), .val (.long q2), .second, .val (.int q3), .val (.int (q1 &&& (2147483647 : Int32))), .unset, .unset, .unset, .unset, .unset, .unset, .unset]) rfl ?_
  refine o_iload X0 hx (hb hby at_6) (pc' := 8) rfl rfl ?_
  refine o_ldcI X0 hx hZ (2147483647 : Int32) hown (w 0 _ rfl) (hb hby at_8) (pc' := 10) rfl ?_
  refine o_iand X0 hx (hb hby at_10) (pc' := 11) rfl ?_
  refine o_istore X0 hx (hb hby at_11) (pc' := 13) rfl (L' := #[.val (.long q0), .second, .val (.int q1), .val (.long q2), .second, .val (.int q3), .val (.int (q1 &&& (2147483647 : Int32))), .val (.int (q3 &&& (2147483647 : Int32))), .unset, .unset, .unset, .unset, .unset, .unset]) rfl ?_
  refine o_iconst X0 hx (3 : Int32) (hb hby at_13) (pc' := 14) rfl (by decide) ?_
  refine o_newP X0 hx hZ 3 (w 1 _ rfl) e0 (hb hby at_14) (pc' := 16) rfl (by decide) (by decide) (by decide) (cells' := 1) rfl (slots' := 3) rfl (by decide) (by decide) ?_
  intro T1 h1 b1 k1 qa1 X1 e1 Ex1 A1
  have g_b1 : n0 ≤ b1 := by rw [qa1]; exact Z0
  have Z1 : n0 ≤ h1.size := Nat.le_trans Z0 Ex1.1
  have V1_ : Arv Z h1 b1 k1 .int (3 : Int32) [.int (0 : Int32), .int (0 : Int32), .int (0 : Int32)] (.int (0 : Int32)) := own_fill 3 A1
  refine o_dup X1 hx (hb hby at_16) (pc' := 17) rfl rfl ?_
  refine o_iconst X1 hx (0 : Int32) (hb hby at_17) (pc' := 18) rfl (by decide) ?_
  refine o_lloadN X1 hx (hb hby at_18) (pc' := 19) rfl rfl ?_
  refine o_l2i X1 hx (hb hby at_19) (pc' := 20) rfl ?_
  refine o_iastore X1 hx hZ 0 e1 V1_ (by decide) (by decide) (by exact (by decide : 0 < 3)) (vs' := [.int (q0.toInt32), .int (0 : Int32), .int (0 : Int32)]) rfl (hb hby at_20) (pc' := 21) rfl ?_
  intro T3 h3 X3 e3 W3 V3_
  have N3 := Fr.snoc X3 N0 g_b1
  have Z3 : n0 ≤ h3.size := by rw [W3.size]; exact Z1
  refine o_dup X3 hx (hb hby at_21) (pc' := 22) rfl rfl ?_
  refine o_iconst X3 hx (1 : Int32) (hb hby at_22) (pc' := 23) rfl (by decide) ?_
  refine o_lloadN X3 hx (hb hby at_23) (pc' := 24) rfl rfl ?_
  refine o_bipush X3 hx (32 : Int32) (hb hby at_24) (pc' := 26) rfl (by decide) ?_
  refine o_lushr X3 hx (hb hby at_26) (pc' := 27) rfl ?_
  refine o_l2i X3 hx (hb hby at_27) (pc' := 28) rfl ?_
  refine o_iastore X3 hx hZ 1 e3 V3_ (by decide) (by decide) (by exact (by decide : 1 < 3)) (vs' := [.int (q0.toInt32), .int ((uL q0 (32 : Int32)).toInt32), .int (0 : Int32)]) rfl (hb hby at_28) (pc' := 29) rfl ?_
  intro T5 h5 X5 e5 W5 V5_
  have N5 := Fr.snoc X5 N3 g_b1
  have Z5 : n0 ≤ h5.size := by rw [W5.size]; exact Z3
  refine o_dup X5 hx (hb hby at_29) (pc' := 30) rfl rfl ?_
  refine o_iconst X5 hx (2 : Int32) (hb hby at_30) (pc' := 31) rfl (by decide) ?_
  refine o_iload X5 hx (hb hby at_31) (pc' := 33) rfl rfl ?_
  refine o_iastore X5 hx hZ 2 e5 V5_ (by decide) (by decide) (by exact (by decide : 2 < 3)) (vs' := [.int (q0.toInt32), .int ((uL q0 (32 : Int32)).toInt32), .int (q1 &&& (2147483647 : Int32))]) rfl (hb hby at_33) (pc' := 34) rfl ?_
  intro T7 h7 X7 e7 W7 V7_
  have N7 := Fr.snoc X7 N5 g_b1
  have Z7 : n0 ≤ h7.size := by rw [W7.size]; exact Z5
  refine o_astore X7 hx (hb hby at_34) (pc' := 36) rfl (L' := #[.val (.long q0), .second, .val (.int q1), .val (.long q2), .second, .val (.int q3), .val (.int (q1 &&& (2147483647 : Int32))), .val (.int (q3 &&& (2147483647 : Int32))), .val (.ref b1), .unset, .unset, .unset, .unset, .unset]) rfl rfl ?_
  refine o_iconst X7 hx (3 : Int32) (hb hby at_36) (pc' := 37) rfl (by decide) ?_
  refine o_newP X7 hx hZ 3 (w 1 _ rfl) e7 (hb hby at_37) (pc' := 39) rfl (by decide) (by decide) (by decide) (cells' := 2) rfl (slots' := 6) rfl (by decide) (by decide) ?_
  intro T9 h9 b9 k9 qa9 X9 e9 Ex9 A9
  have g_b9 : n0 ≤ b9 := by rw [qa9]; exact Z7
  have ne_b1_b9 : b1 ≠ b9 := by rw [qa9]; exact Nat.ne_of_lt V7_.lt
  have V10_b1 := Arv.ext V7_ Ex9
  have Z9 : n0 ≤ h9.size := Nat.le_trans Z7 Ex9.1
  have V9_ : Arv Z h9 b9 k9 .int (3 : Int32) [.int (0 : Int32), .int (0 : Int32), .int (0 : Int32)] (.int (0 : Int32)) := own_fill 3 A9
  refine o_dup X9 hx (hb hby at_39) (pc' := 40) rfl rfl ?_
  refine o_iconst X9 hx (0 : Int32) (hb hby at_40) (pc' := 41) rfl (by decide) ?_
  refine o_lloadN X9 hx (hb hby at_41) (pc' := 42) rfl rfl ?_
  refine o_l2i X9 hx (hb hby at_42) (pc' := 43) rfl ?_
  refine o_iastore X9 hx hZ 0 e9 V9_ (by decide) (by decide) (by exact (by decide : 0 < 3)) (vs' := [.int (q2.toInt32), .int (0 : Int32), .int (0 : Int32)]) rfl (hb hby at_43) (pc' := 44) rfl ?_
  intro T11 h11 X11 e11 W11 V11_
  have V12_b1 := Arv.other V10_b1 W11 ne_b1_b9
  have N11 := Fr.snoc X11 N7 g_b9
  have Z11 : n0 ≤ h11.size := by rw [W11.size]; exact Z9
  refine o_dup X11 hx (hb hby at_44) (pc' := 45) rfl rfl ?_
  refine o_iconst X11 hx (1 : Int32) (hb hby at_45) (pc' := 46) rfl (by decide) ?_
  refine o_lloadN X11 hx (hb hby at_46) (pc' := 47) rfl rfl ?_
  refine o_bipush X11 hx (32 : Int32) (hb hby at_47) (pc' := 49) rfl (by decide) ?_
  refine o_lushr X11 hx (hb hby at_49) (pc' := 50) rfl ?_
  refine o_l2i X11 hx (hb hby at_50) (pc' := 51) rfl ?_
  refine o_iastore X11 hx hZ 1 e11 V11_ (by decide) (by decide) (by exact (by decide : 1 < 3)) (vs' := [.int (q2.toInt32), .int ((uL q2 (32 : Int32)).toInt32), .int (0 : Int32)]) rfl (hb hby at_51) (pc' := 52) rfl ?_
  intro T13 h13 X13 e13 W13 V13_
  have V14_b1 := Arv.other V12_b1 W13 ne_b1_b9
  have N13 := Fr.snoc X13 N11 g_b9
  have Z13 : n0 ≤ h13.size := by rw [W13.size]; exact Z11
  refine o_dup X13 hx (hb hby at_52) (pc' := 53) rfl rfl ?_
  refine o_iconst X13 hx (2 : Int32) (hb hby at_53) (pc' := 54) rfl (by decide) ?_
  refine o_iload X13 hx (hb hby at_54) (pc' := 56) rfl rfl ?_
  refine o_iastore X13 hx hZ 2 e13 V13_ (by decide) (by decide) (by exact (by decide : 2 < 3)) (vs' := [.int (q2.toInt32), .int ((uL q2 (32 : Int32)).toInt32), .int (q3 &&& (2147483647 : Int32))]) rfl (hb hby at_56) (pc' := 57) rfl ?_
  intro T15 h15 X15 e15 W15 V15_
  have V16_b1 := Arv.other V14_b1 W15 ne_b1_b9
  have N15 := Fr.snoc X15 N13 g_b9
  have Z15 : n0 ≤ h15.size := by rw [W15.size]; exact Z13
  refine o_astore X15 hx (hb hby at_57) (pc' := 59) rfl (L' := #[.val (.long q0), .second, .val (.int q1), .val (.long q2), .second, .val (.int q3), .val (.int (q1 &&& (2147483647 : Int32))), .val (.int (q3 &&& (2147483647 : Int32))), .val (.ref b1), .val (.ref b9), .unset, .unset, .unset, .unset]) rfl rfl ?_
  refine o_aload X15 hx (hb hby at_59) (pc' := 61) rfl rfl rfl ?_
  refine o_aload X15 hx (hb hby at_61) (pc' := 63) rfl rfl rfl ?_
  refine o_callS X15 hx hZ 0 (argsL := [.ref b1, .ref b9]) (rest := []) hown (w 2 _ rfl) (w 3 _ rfl) (w 4 _ rfl) (w 5 _ rfl) (by decide) (rm1 l Z a0 hw [] b1 b9 (q0.toInt32) ((uL q0 (32 : Int32)).toInt32) (q1 &&& (2147483647 : Int32)) (q2.toInt32) ((uL q2 (32 : Int32)).toInt32) (q3 &&& (2147483647 : Int32)) k1 k9 h15 n0 Z15 V16_b1 g_b1 V15_ (Ne.symm ne_b1_b9)) (by decide) (by decide) (cells' := 2) rfl (slots' := 6) rfl (by decide) (by decide) e15 (by rw [hml]; rfl) (lenOf pd_0 rfl) rfl rfl (hb hby at_63) (pc' := 66) rfl ?_
  intro T17 v17 L17 X17 hQ17
  obtain ⟨rfl, Nq17, Kq17, P17_0⟩ := hQ17
  have N17 := Fr.app N15 Nq17
  have V18_b9 := Arv.keep V15_ Kq17 (ninS (Ne.symm ne_b1_b9) nin0)
  have Z17 : n0 ≤ T17.heap.size := Nat.le_trans Z15 Kq17.1
  show Go p e below _ (T17.setTop (mkF m 66 _ []))
  refine o_lloadN X17 hx (hb hby at_66) (pc' := 67) rfl rfl ?_
  refine o_lloadN X17 hx (hb hby at_67) (pc' := 68) rfl rfl ?_
  refine o_ladd X17 hx (hb hby at_68) (pc' := 69) rfl ?_
  refine o_lstore X17 hx (hb hby at_69) (pc' := 71) rfl (L' := #[.val (.long q0), .second, .val (.int q1), .val (.long q2), .second, .val (.int q3), .val (.int (q1 &&& (2147483647 : Int32))), .val (.int (q3 &&& (2147483647 : Int32))), .val (.ref b1), .val (.ref b9), .val (.long (q0 + q2)), .second, .unset, .unset]) rfl ?_
  refine o_lload X17 hx (hb hby at_71) (pc' := 73) rfl rfl ?_
  refine o_ldcJ X17 hx hZ (-9223372036854775808 : Int64) hown (w 7 _ rfl) (hb hby at_73) (pc' := 76) rfl ?_
  refine o_lxor X17 hx (hb hby at_76) (pc' := 77) rfl ?_
  refine o_lloadN X17 hx (hb hby at_77) (pc' := 78) rfl rfl ?_
  refine o_ldcJ X17 hx hZ (-9223372036854775808 : Int64) hown (w 7 _ rfl) (hb hby at_78) (pc' := 81) rfl ?_
  refine o_lxor X17 hx (hb hby at_81) (pc' := 82) rfl ?_
  refine o_lcmp X17 hx (hb hby at_82) (pc' := 83) rfl ?_
  have J91_1 : ∀ (z0 : Int32), z0 = (own_law_v91_1_S0 q0 q1 q2 q3) → Go p e below OWE (T17.setTop (mkF m 91 #[.val (.long q0), .second, .val (.int q1), .val (.long q2), .second, .val (.int q3), .val (.int (q1 &&& (2147483647 : Int32))), .val (.int (q3 &&& (2147483647 : Int32))), .val (.ref b1), .val (.ref b9), .val (.long (q0 + q2)), .second, .unset, .unset] [.int z0])) := by
    intro z0 yy0
    subst yy0
    refine o_istore X17 hx (hb hby at_91) (pc' := 93) rfl (L' := #[.val (.long q0), .second, .val (.int q1), .val (.long q2), .second, .val (.int q3), .val (.int (q1 &&& (2147483647 : Int32))), .val (.int (q3 &&& (2147483647 : Int32))), .val (.ref b1), .val (.ref b9), .val (.long (q0 + q2)), .second, .val (.int (own_law_v91_1_S0 q0 q1 q2 q3)), .unset]) rfl ?_
    refine o_iload X17 hx (hb hby at_93) (pc' := 95) rfl rfl ?_
    refine o_iload X17 hx (hb hby at_95) (pc' := 97) rfl rfl ?_
    refine o_iadd X17 hx (hb hby at_97) (pc' := 98) rfl ?_
    refine o_iload X17 hx (hb hby at_98) (pc' := 100) rfl rfl ?_
    refine o_iadd X17 hx (hb hby at_100) (pc' := 101) rfl ?_
    refine o_istore (x := (own_law_x0 q0 q1 q2 q3)) X17 hx (hb hby at_101) (pc' := 103) rfl (L' := #[.val (.long q0), .second, .val (.int q1), .val (.long q2), .second, .val (.int q3), .val (.int (q1 &&& (2147483647 : Int32))), .val (.int (q3 &&& (2147483647 : Int32))), .val (.ref b1), .val (.ref b9), .val (.long (q0 + q2)), .second, .val (.int (own_law_v91_1_S0 q0 q1 q2 q3)), .val (.int (own_law_x0 q0 q1 q2 q3))]) rfl ?_
    refine o_aload X17 hx (hb hby at_103) (pc' := 105) rfl rfl rfl ?_
    refine o_iconst X17 hx (0 : Int32) (hb hby at_105) (pc' := 106) rfl (by decide) ?_
    refine o_iaload X17 hx hZ (.int (own_f1_A_aa_0 (q0.toInt32) ((uL q0 (32 : Int32)).toInt32) (q1 &&& (2147483647 : Int32)) (q2.toInt32) ((uL q2 (32 : Int32)).toInt32) (q3 &&& (2147483647 : Int32)))) rfl P17_0 (by decide) (by rfl) (hb hby at_106) (pc' := 107) rfl ?_
    refine o_lload X17 hx (hb hby at_107) (pc' := 109) rfl rfl ?_
    refine o_l2i X17 hx (hb hby at_109) (pc' := 110) rfl ?_
    by_cases hc110_20 : (own_f1_A_aa_0 (q0.toInt32) ((uL q0 (32 : Int32)).toInt32) (q1 &&& (2147483647 : Int32)) (q2.toInt32) ((uL q2 (32 : Int32)).toInt32) (q3 &&& (2147483647 : Int32))) = ((q0 + q2).toInt32)
    · refine o_cmpN X17 hx (hb hby at_110) (teq hc110_20).2 (pc' := 113) rfl ?_
      refine o_aload X17 hx (hb hby at_113) (pc' := 115) rfl rfl rfl ?_
      refine o_iconst X17 hx (1 : Int32) (hb hby at_115) (pc' := 116) rfl (by decide) ?_
      refine o_iaload X17 hx hZ (.int (own_f1_A_aa_1 (q0.toInt32) ((uL q0 (32 : Int32)).toInt32) (q1 &&& (2147483647 : Int32)) (q2.toInt32) ((uL q2 (32 : Int32)).toInt32) (q3 &&& (2147483647 : Int32)))) rfl P17_0 (by decide) (by rfl) (hb hby at_116) (pc' := 117) rfl ?_
      refine o_lload X17 hx (hb hby at_117) (pc' := 119) rfl rfl ?_
      refine o_bipush X17 hx (32 : Int32) (hb hby at_119) (pc' := 121) rfl (by decide) ?_
      refine o_lushr X17 hx (hb hby at_121) (pc' := 122) rfl ?_
      refine o_l2i X17 hx (hb hby at_122) (pc' := 123) rfl ?_
      by_cases hc123_21 : (own_f1_A_aa_1 (q0.toInt32) ((uL q0 (32 : Int32)).toInt32) (q1 &&& (2147483647 : Int32)) (q2.toInt32) ((uL q2 (32 : Int32)).toInt32) (q3 &&& (2147483647 : Int32))) = ((uL (q0 + q2) (32 : Int32)).toInt32)
      · refine o_cmpN X17 hx (hb hby at_123) (teq hc123_21).2 (pc' := 126) rfl ?_
        refine o_aload X17 hx (hb hby at_126) (pc' := 128) rfl rfl rfl ?_
        refine o_iconst X17 hx (2 : Int32) (hb hby at_128) (pc' := 129) rfl (by decide) ?_
        refine o_iaload X17 hx hZ (.int (own_f1_A_aa_2 (q0.toInt32) ((uL q0 (32 : Int32)).toInt32) (q1 &&& (2147483647 : Int32)) (q2.toInt32) ((uL q2 (32 : Int32)).toInt32) (q3 &&& (2147483647 : Int32)))) rfl P17_0 (by decide) (by rfl) (hb hby at_129) (pc' := 130) rfl ?_
        refine o_iload X17 hx (hb hby at_130) (pc' := 132) rfl rfl ?_
        by_cases hc132_22 : (own_f1_A_aa_2 (q0.toInt32) ((uL q0 (32 : Int32)).toInt32) (q1 &&& (2147483647 : Int32)) (q2.toInt32) ((uL q2 (32 : Int32)).toInt32) (q3 &&& (2147483647 : Int32))) = (own_law_x0 q0 q1 q2 q3)
        · refine o_cmpN X17 hx (hb hby at_132) (teq hc132_22).2 (pc' := 135) rfl ?_
          refine o_aload X17 hx (hb hby at_135) (pc' := 137) rfl rfl rfl ?_
          refine o_iconst X17 hx (0 : Int32) (hb hby at_137) (pc' := 138) rfl (by decide) ?_
          refine o_iaload X17 hx hZ (.int (q2.toInt32)) rfl V18_b9 (by decide) (by rfl) (hb hby at_138) (pc' := 139) rfl ?_
          refine o_lloadN X17 hx (hb hby at_139) (pc' := 140) rfl rfl ?_
          refine o_l2i X17 hx (hb hby at_140) (pc' := 141) rfl ?_
          refine o_cmpN X17 hx (hb hby at_141) (teq (rfl : (q2.toInt32) = (q2.toInt32))).2 (pc' := 144) rfl ?_
          refine o_aload X17 hx (hb hby at_144) (pc' := 146) rfl rfl rfl ?_
          refine o_iconst X17 hx (1 : Int32) (hb hby at_146) (pc' := 147) rfl (by decide) ?_
          refine o_iaload X17 hx hZ (.int ((uL q2 (32 : Int32)).toInt32)) rfl V18_b9 (by decide) (by rfl) (hb hby at_147) (pc' := 148) rfl ?_
          refine o_lloadN X17 hx (hb hby at_148) (pc' := 149) rfl rfl ?_
          refine o_bipush X17 hx (32 : Int32) (hb hby at_149) (pc' := 151) rfl (by decide) ?_
          refine o_lushr X17 hx (hb hby at_151) (pc' := 152) rfl ?_
          refine o_l2i X17 hx (hb hby at_152) (pc' := 153) rfl ?_
          refine o_cmpN X17 hx (hb hby at_153) (teq (rfl : ((uL q2 (32 : Int32)).toInt32) = ((uL q2 (32 : Int32)).toInt32))).2 (pc' := 156) rfl ?_
          refine o_aload X17 hx (hb hby at_156) (pc' := 158) rfl rfl rfl ?_
          refine o_iconst X17 hx (2 : Int32) (hb hby at_158) (pc' := 159) rfl (by decide) ?_
          refine o_iaload X17 hx hZ (.int (q3 &&& (2147483647 : Int32))) rfl V18_b9 (by decide) (by rfl) (hb hby at_159) (pc' := 160) rfl ?_
          refine o_iload X17 hx (hb hby at_160) (pc' := 162) rfl rfl ?_
          refine o_cmpN X17 hx (hb hby at_162) (teq (rfl : (q3 &&& (2147483647 : Int32)) = (q3 &&& (2147483647 : Int32)))).2 (pc' := 165) rfl ?_
          refine o_iconst X17 hx (1 : Int32) (hb hby at_165) (pc' := 166) rfl (by decide) ?_
          refine o_goto X17 hx (hb hby at_166) (by decide) (pc' := 170) (by decide) ?_
          rw [← hOWE]
          exact o_retZ X17 hx rfl hlk hrt (hb hby at_170) (by decide) (by decide) ⟨(by rw [own_law_ret, own_law_ret_j91_1, if_pos hc110_20, if_pos hc123_21, if_pos hc132_22]), N17⟩
        · refine o_cmpY X17 hx (hb hby at_132) (feq hc132_22).2 (by decide) (pc' := 169) (by decide) ?_
          refine o_iconst X17 hx (0 : Int32) (hb hby at_169) (pc' := 170) rfl (by decide) ?_
          rw [← hOWE]
          exact o_retZ X17 hx rfl hlk hrt (hb hby at_170) (by decide) (by decide) ⟨(by rw [own_law_ret, own_law_ret_j91_1, if_pos hc110_20, if_pos hc123_21, if_neg hc132_22]), N17⟩
      · refine o_cmpY X17 hx (hb hby at_123) (feq hc123_21).2 (by decide) (pc' := 169) (by decide) ?_
        refine o_iconst X17 hx (0 : Int32) (hb hby at_169) (pc' := 170) rfl (by decide) ?_
        rw [← hOWE]
        exact o_retZ X17 hx rfl hlk hrt (hb hby at_170) (by decide) (by decide) ⟨(by rw [own_law_ret, own_law_ret_j91_1, if_pos hc110_20, if_neg hc123_21]), N17⟩
    · refine o_cmpY X17 hx (hb hby at_110) (feq hc110_20).2 (by decide) (pc' := 169) (by decide) ?_
      refine o_iconst X17 hx (0 : Int32) (hb hby at_169) (pc' := 170) rfl (by decide) ?_
      rw [← hOWE]
      exact o_retZ X17 hx rfl hlk hrt (hb hby at_170) (by decide) (by decide) ⟨(by rw [own_law_ret, own_law_ret_j91_1, if_neg hc110_20]), N17⟩
  by_cases hc83_19 : ((q0 + q2) ^^^ (-9223372036854775808 : Int64)) < (q0 ^^^ (-9223372036854775808 : Int64))
  · refine o_ifN X17 hx (hb hby at_83) (tltL hc83_19).2.1 (pc' := 86) rfl ?_
    refine o_iconst X17 hx (1 : Int32) (hb hby at_86) (pc' := 87) rfl (by decide) ?_
    refine o_goto X17 hx (hb hby at_87) (by decide) (pc' := 91) (by decide) ?_
    exact J91_1 ((1 : Int32)) (by rw [own_law_v91_1_S0, if_pos hc83_19])
  · refine o_ifY X17 hx (hb hby at_83) (fltL hc83_19).2.1 (by decide) (pc' := 90) (by decide) ?_
    refine o_iconst X17 hx (0 : Int32) (hb hby at_90) (pc' := 91) rfl (by decide) ?_
    exact J91_1 ((0 : Int32)) (by rw [own_law_v91_1_S0, if_neg hc83_19])
theorem own_uLn (x : Int64) (y : Int32) : (uL x y).toBitVec.toNat = x.toBitVec.toNat >>> ((y &&& 0x3f).toInt64.toUInt64.toNat % 64) := UInt64.toNat_shiftRight _ _
theorem own_i64 (x : Int64) : x.toInt = if 2 * x.toBitVec.toNat < 2 ^ 64 then (x.toBitVec.toNat : Int) else (x.toBitVec.toNat : Int) - 2 ^ 64 := BitVec.toInt_eq_toNat_cond _
theorem own_uL_nn (x : Int64) (y : Int32) (h : 0 ≤ x.toInt) : 0 ≤ (uL x y).toInt ∧ (uL x y).toInt ≤ x.toInt := by
  have h1 := own_i64 x
  have h2 := own_i64 (uL x y)
  rw [own_uLn] at h2
  have h3 : x.toBitVec.toNat >>> ((y &&& 0x3f).toInt64.toUInt64.toNat % 64) ≤ x.toBitVec.toNat := Nat.shiftRight_le _ _
  have h4 := x.toBitVec.isLt
  generalize x.toBitVec.toNat >>> ((y &&& 0x3f).toInt64.toUInt64.toNat % 64) = M at *
  generalize x.toBitVec.toNat = N at *
  split at h1 <;> split at h2 <;> omega
theorem own_mx (x : Int64) : 0 ≤ (x &&& (9223372036854775807 : Int64)).toInt := by
  rw [c_maskL x 9223372036854775807 63 (by decide) (by decide)]
  omega
theorem own_uL_mx (x : Int64) (y : Int32) : 0 ≤ (uL (x &&& (9223372036854775807 : Int64)) y).toInt := (own_uL_nn _ _ (own_mx x)).1
theorem own_xorN (n : Nat) (h : n < 18446744073709551616) : n ^^^ 9223372036854775808 = (n + 9223372036854775808) % 18446744073709551616 := by
  have h1 : (n ^^^ 2 ^ 63) % 2 ^ 63 = n % 2 ^ 63 ^^^ 2 ^ 63 % 2 ^ 63 := Nat.xor_mod_two_pow
  have h2 : (n ^^^ 2 ^ 63) / 2 ^ 63 = n / 2 ^ 63 ^^^ 2 ^ 63 / 2 ^ 63 := Nat.xor_div_two_pow
  rw [Nat.mod_self, Nat.xor_zero] at h1
  rw [Nat.div_self (by decide)] at h2
  have h3 : n / 2 ^ 63 = 0 ∨ n / 2 ^ 63 = 1 := by omega
  rw [show (9223372036854775808 : Nat) = 2 ^ 63 from rfl, show (18446744073709551616 : Nat) = 2 ^ 64 from rfl]
  rcases h3 with h3 | h3 <;> rw [h3] at h2
  · rw [show 0 ^^^ 1 = 1 from rfl] at h2
    omega
  · rw [show 1 ^^^ 1 = 0 from rfl] at h2
    omega
theorem own_flip (x : Int64) : (x ^^^ (-9223372036854775808 : Int64)).toInt % 18446744073709551616 = (x.toInt + 9223372036854775808) % 18446744073709551616 := by
  have h1 := own_i64 (x ^^^ (-9223372036854775808 : Int64))
  have h2 := own_i64 x
  have h3 : (x ^^^ (-9223372036854775808 : Int64)).toBitVec.toNat = x.toBitVec.toNat ^^^ 9223372036854775808 := by
    rw [Int64.toBitVec_xor, BitVec.toNat_xor]
    rfl
  have h4 := x.toBitVec.isLt
  rw [own_xorN _ h4] at h3
  generalize (x ^^^ (-9223372036854775808 : Int64)).toBitVec.toNat = M at *
  generalize x.toBitVec.toNat = N at *
  split at h1 <;> split at h2 <;> omega
/-- the order of the flipped is the unsigned order -/
theorem own_ult (x y : Int64) : (x ^^^ (-9223372036854775808 : Int64)) < (y ^^^ (-9223372036854775808 : Int64)) ↔ x.toInt % 18446744073709551616 < y.toInt % 18446744073709551616 := by
  have h1 := own_flip x
  have h2 := own_flip y
  have h3 := rng64 (x ^^^ (-9223372036854775808 : Int64))
  have h4 := rng64 (y ^^^ (-9223372036854775808 : Int64))
  have h5 := rng64 x
  have h6 := rng64 y
  rw [Int64.lt_iff_toInt_lt]
  omega
theorem own_uL32 (x : Int64) : (uL x (32 : Int32)).toInt = (x.toInt % 18446744073709551616) / 4294967296 := by
  have h1 := own_i64 (uL x (32 : Int32))
  have h2 := own_i64 x
  have h3 := own_uLn x (32 : Int32)
  rw [show (((32 : Int32) &&& 0x3f).toInt64.toUInt64.toNat % 64) = 32 from by decide, Nat.shiftRight_eq_div_pow] at h3
  have h4 := x.toBitVec.isLt
  rw [h3] at h1
  generalize x.toBitVec.toNat = N at *
  split at h1 <;> split at h2 <;> omega
theorem own_m32 (x : Int32) : (x.toInt64 &&& (4294967295 : Int64)).toInt = x.toInt % 4294967296 := by
  rw [c_maskL x.toInt64 4294967295 32 (by decide) (by decide), c_i2l]
  rfl
theorem own_eq32 (x : Int64) (y : Int32) (h : (x.toInt - y.toInt) % 4294967296 = 0) : x.toInt32 = y := by
  apply Int32.toInt_inj.mp
  have a := c_l2i x
  have b := rng32 x.toInt32
  have c := rng32 y
  omega
theorem own_z0 (A B low li : Int) (h1 : (low - (A + B)) % 18446744073709551616 = 0) (h2 : (li - low) % 4294967296 = 0) : (A % 4294967296 + B % 4294967296 - li) % 4294967296 = 0 := by omega
theorem own_sp (A : Int) : ∃ k a1 a0 : Int, A = 18446744073709551616 * k + 4294967296 * a1 + a0 ∧ 0 ≤ a0 ∧ a0 < 4294967296 ∧ 0 ≤ a1 ∧ a1 < 4294967296 ∧ A % 4294967296 = a0 ∧ A % 18446744073709551616 = 4294967296 * a1 + a0 ∧ A % 18446744073709551616 / 4294967296 = a1 := by
  refine ⟨A / 18446744073709551616, A % 18446744073709551616 / 4294967296, A % 4294967296, ?_⟩
  omega
theorem own_z1 (a0 a1 b0 b1 : Int) (h1 : 0 ≤ a0) (h2 : a0 < 4294967296) (h3 : 0 ≤ a1) (h4 : a1 < 4294967296) (g1 : 0 ≤ b0) (g2 : b0 < 4294967296) (g3 : 0 ≤ b1) (g4 : b1 < 4294967296) :
    ∃ c0 c1 : Int, 0 ≤ c0 ∧ c0 ≤ 1 ∧ 0 ≤ c1 ∧ c1 ≤ 1 ∧ (a0 + b0) / 4294967296 = c0 ∧ (c0 + (a1 + b1)) / 4294967296 = c1 ∧ (4294967296 * a1 + a0 + (4294967296 * b1 + b0)) / 18446744073709551616 = c1 ∧ (4294967296 * a1 + a0 + (4294967296 * b1 + b0)) % 18446744073709551616 / 4294967296 = c0 + (a1 + b1) - 4294967296 * c1 := by
  refine ⟨(a0 + b0) / 4294967296, ((a0 + b0) / 4294967296 + (a1 + b1)) / 4294967296, ?_⟩
  generalize hc : (a0 + b0) / 4294967296 = c0
  have e1 : 0 ≤ c0 ∧ c0 ≤ 1 ∧ 4294967296 * c0 ≤ a0 + b0 ∧ a0 + b0 < 4294967296 * c0 + 4294967296 := by omega
  clear hc
  generalize hd : (c0 + (a1 + b1)) / 4294967296 = c1
  have e2 : 0 ≤ c1 ∧ c1 ≤ 1 ∧ 4294967296 * c1 ≤ c0 + (a1 + b1) ∧ c0 + (a1 + b1) < 4294967296 * c1 + 4294967296 := by omega
  clear hd
  have e3 : (4294967296 * a1 + a0 + (4294967296 * b1 + b0)) / 18446744073709551616 = c1 := by
    rcases (show c0 = 0 ∨ c0 = 1 by omega) with rfl | rfl <;> rcases (show c1 = 0 ∨ c1 = 1 by omega) with rfl | rfl <;> omega
  refine ⟨by omega, by omega, by omega, by omega, rfl, rfl, e3, ?_⟩
  rcases (show c0 = 0 ∨ c0 = 1 by omega) with rfl | rfl <;> rcases (show c1 = 0 ∨ c1 = 1 by omega) with rfl | rfl <;> omega
theorem own_lowmod (A B low : Int) (h : (low - (A + B)) % 18446744073709551616 = 0) : low % 18446744073709551616 = (A % 18446744073709551616 + B % 18446744073709551616) % 18446744073709551616 := by omega
theorem own_x0v (A0 A1 T1 B0 B1 T2 : Int32) : (own_f1_x0 A0 A1 T1 B0 B1 T2).toInt = A0.toInt % 4294967296 + B0.toInt % 4294967296 := by
  unfold own_f1_x0
  have p1 := c_ladd (A0.toInt64 &&& 4294967295) (B0.toInt64 &&& 4294967295)
  have p2 := rng64 ((A0.toInt64 &&& 4294967295) + (B0.toInt64 &&& 4294967295))
  rw [own_m32, own_m32] at p1
  rw [Int64.zero_add]
  generalize ((A0.toInt64 &&& 4294967295) + (B0.toInt64 &&& 4294967295)).toInt = s at *
  omega
theorem own_x1v (A0 A1 T1 B0 B1 T2 : Int32) : (own_f1_x1 A0 A1 T1 B0 B1 T2).toInt = (A0.toInt % 4294967296 + B0.toInt % 4294967296) / 4294967296 := by
  unfold own_f1_x1
  rw [own_uL32, own_x0v]
  have h1 := Int.emod_nonneg A0.toInt (show (4294967296 : Int) ≠ 0 by decide)
  have h2 := Int.emod_lt_of_pos A0.toInt (show (0 : Int) < 4294967296 by decide)
  have h3 := Int.emod_nonneg B0.toInt (show (4294967296 : Int) ≠ 0 by decide)
  have h4 := Int.emod_lt_of_pos B0.toInt (show (0 : Int) < 4294967296 by decide)
  generalize A0.toInt % 4294967296 = a at *
  generalize B0.toInt % 4294967296 = b at *
  omega
theorem own_x2v (A0 A1 T1 B0 B1 T2 : Int32) : (own_f1_x2 A0 A1 T1 B0 B1 T2).toInt = (A0.toInt % 4294967296 + B0.toInt % 4294967296) / 4294967296 + (A1.toInt % 4294967296 + B1.toInt % 4294967296) := by
  unfold own_f1_x2
  have p1 := c_ladd (A1.toInt64 &&& 4294967295) (B1.toInt64 &&& 4294967295)
  have p2 := rng64 ((A1.toInt64 &&& 4294967295) + (B1.toInt64 &&& 4294967295))
  have p3 := c_ladd (own_f1_x1 A0 A1 T1 B0 B1 T2) ((A1.toInt64 &&& 4294967295) + (B1.toInt64 &&& 4294967295))
  have p4 := rng64 (own_f1_x1 A0 A1 T1 B0 B1 T2 + ((A1.toInt64 &&& 4294967295) + (B1.toInt64 &&& 4294967295)))
  rw [own_m32, own_m32] at p1
  rw [own_x1v] at p3
  generalize (own_f1_x1 A0 A1 T1 B0 B1 T2 + ((A1.toInt64 &&& 4294967295) + (B1.toInt64 &&& 4294967295))).toInt = s at *
  generalize ((A1.toInt64 &&& 4294967295) + (B1.toInt64 &&& 4294967295)).toInt = t at *
  have h1 := Int.emod_nonneg A0.toInt (show (4294967296 : Int) ≠ 0 by decide)
  have h2 := Int.emod_lt_of_pos A0.toInt (show (0 : Int) < 4294967296 by decide)
  have h3 := Int.emod_nonneg B0.toInt (show (4294967296 : Int) ≠ 0 by decide)
  have h4 := Int.emod_lt_of_pos B0.toInt (show (0 : Int) < 4294967296 by decide)
  have h5 := Int.emod_nonneg A1.toInt (show (4294967296 : Int) ≠ 0 by decide)
  have h6 := Int.emod_lt_of_pos A1.toInt (show (0 : Int) < 4294967296 by decide)
  have h7 := Int.emod_nonneg B1.toInt (show (4294967296 : Int) ≠ 0 by decide)
  have h8 := Int.emod_lt_of_pos B1.toInt (show (0 : Int) < 4294967296 by decide)
  generalize A0.toInt % 4294967296 = a at *
  generalize B0.toInt % 4294967296 = b at *
  generalize A1.toInt % 4294967296 = c at *
  generalize B1.toInt % 4294967296 = d at *
  have e : 0 ≤ (a + b) / 4294967296 ∧ (a + b) / 4294967296 ≤ 1 := by clear p1 p2 p3 p4; omega
  generalize (a + b) / 4294967296 = k at *
  have et : t = c + d := by clear p3 p4; omega
  subst et
  omega
theorem own_x4v (A0 A1 T1 B0 B1 T2 : Int32) (k : Int) (hk : ((A0.toInt % 4294967296 + B0.toInt % 4294967296) / 4294967296 + (A1.toInt % 4294967296 + B1.toInt % 4294967296)) / 4294967296 = k) (k0 : 0 ≤ k) (k1 : k ≤ 1) (t1 : 0 ≤ T1.toInt) (t2 : 0 ≤ T2.toInt) (n0 : 0 ≤ (A0.toInt % 4294967296 + B0.toInt % 4294967296) / 4294967296 + (A1.toInt % 4294967296 + B1.toInt % 4294967296)) (n1 : (A0.toInt % 4294967296 + B0.toInt % 4294967296) / 4294967296 + (A1.toInt % 4294967296 + B1.toInt % 4294967296) < 18446744073709551616) : (own_f1_x4 A0 A1 T1 B0 B1 T2).toInt = k + (T1.toInt + T2.toInt) := by
  have hx3 : (own_f1_x3 A0 A1 T1 B0 B1 T2).toInt = k := by
    unfold own_f1_x3
    rw [own_uL32, own_x2v, Int.emod_eq_of_lt n0 n1, hk]
  unfold own_f1_x4
  have p1 := c_ladd (T1.toInt64 &&& 4294967295) (T2.toInt64 &&& 4294967295)
  have p2 := rng64 ((T1.toInt64 &&& 4294967295) + (T2.toInt64 &&& 4294967295))
  have p3 := c_ladd (own_f1_x3 A0 A1 T1 B0 B1 T2) ((T1.toInt64 &&& 4294967295) + (T2.toInt64 &&& 4294967295))
  have p4 := rng64 (own_f1_x3 A0 A1 T1 B0 B1 T2 + ((T1.toInt64 &&& 4294967295) + (T2.toInt64 &&& 4294967295)))
  have r1 := rng32 T1
  have r2 := rng32 T2
  rw [own_m32, own_m32, Int.emod_eq_of_lt t1 (by omega), Int.emod_eq_of_lt t2 (by omega)] at p1
  rw [hx3] at p3
  clear hk n0 n1 hx3
  generalize (own_f1_x3 A0 A1 T1 B0 B1 T2 + ((T1.toInt64 &&& 4294967295) + (T2.toInt64 &&& 4294967295))).toInt = s at *
  generalize ((T1.toInt64 &&& 4294967295) + (T2.toInt64 &&& 4294967295)).toInt = t at *
  have et : t = T1.toInt + T2.toInt := by clear p3 p4; omega
  subst et
  omega
theorem own_lo (q : Int64) : q.toInt32.toInt % 4294967296 = q.toInt % 4294967296 := by
  have h := c_l2i q
  omega
theorem own_hi (q : Int64) : (uL q 32).toInt32.toInt % 4294967296 = q.toInt % 18446744073709551616 / 4294967296 := by
  rw [own_lo, own_uL32]
  omega
theorem own_main (q0 : Int64) (q1 : Int32) (q2 : Int64) (q3 : Int32) : own_law_ret q0 q1 q2 q3 = 1 := by
  have t1 := (c_and q1 2147483647 (by decide)).1
  have t2 := (c_and q3 2147483647 (by decide)).1
  have low := c_ladd q0 q2
  have lm := own_lowmod _ _ _ low
  obtain ⟨ka, a1, a0, ea, ha1, ha2, ha3, ha4, ha5, ha6, ha7⟩ := own_sp q0.toInt
  obtain ⟨kb, b1, b0, eb, hb1, hb2, hb3, hb4, hb5, hb6, hb7⟩ := own_sp q2.toInt
  obtain ⟨c0, c1, hc1, hc2, hc3, hc4, hc5, hc6, hc7, hc8⟩ := own_z1 a0 a1 b0 b1 ha1 ha2 ha3 ha4 hb1 hb2 hb3 hb4
  rw [ha6, hb6] at lm
  have r0 : own_f1_A_aa_0 q0.toInt32 (uL q0 32).toInt32 (q1 &&& 2147483647) q2.toInt32 (uL q2 32).toInt32 (q3 &&& 2147483647) = (q0 + q2).toInt32 := by
    unfold own_f1_A_aa_0
    apply own_eq32
    rw [own_x0v, own_lo, own_lo]
    exact own_z0 _ _ _ _ low (c_l2i _)
  have s1 : (own_f1_x2 q0.toInt32 (uL q0 32).toInt32 (q1 &&& 2147483647) q2.toInt32 (uL q2 32).toInt32 (q3 &&& 2147483647)).toInt = c0 + (a1 + b1) := by
    rw [own_x2v, own_lo, own_lo, own_hi, own_hi, ha5, hb5, ha7, hb7, hc5]
  have r1 : own_f1_A_aa_1 q0.toInt32 (uL q0 32).toInt32 (q1 &&& 2147483647) q2.toInt32 (uL q2 32).toInt32 (q3 &&& 2147483647) = (uL (q0 + q2) 32).toInt32 := by
    unfold own_f1_A_aa_1
    apply own_eq32
    have l := c_l2i (uL (q0 + q2) 32)
    rw [own_uL32, lm, hc8] at l
    rw [s1]
    generalize (uL (q0 + q2) 32).toInt32.toInt = z at *
    clear low lm ea eb ha5 ha6 ha7 hb5 hb6 hb7 hc5 hc6 hc7 hc8 s1 t1 t2
    omega
  have carry : (own_law_v91_1_S0 q0 q1 q2 q3).toInt = c1 := by
    unfold own_law_v91_1_S0
    have u := own_ult (q0 + q2) q0
    rw [lm, ha6] at u
    by_cases h : (q0 + q2) ^^^ (-9223372036854775808 : Int64) < q0 ^^^ (-9223372036854775808 : Int64)
    · rw [if_pos h]
      have h' := u.mp h
      rw [show (1 : Int32).toInt = 1 from rfl]
      clear u low lm ea eb ha5 ha6 ha7 hb5 hb6 hb7 hc5 hc6 hc8 s1 t1 t2 r0 r1
      rcases (show c1 = 0 ∨ c1 = 1 by omega) with rfl | rfl <;> omega
    · rw [if_neg h]
      have h' := mt u.mpr h
      rw [show (0 : Int32).toInt = 0 from rfl]
      clear u low lm ea eb ha5 ha6 ha7 hb5 hb6 hb7 hc5 hc6 hc8 s1 t1 t2 r0 r1
      rcases (show c1 = 0 ∨ c1 = 1 by omega) with rfl | rfl <;> omega
  have s2 : (own_f1_x4 q0.toInt32 (uL q0 32).toInt32 (q1 &&& 2147483647) q2.toInt32 (uL q2 32).toInt32 (q3 &&& 2147483647)).toInt = c1 + ((q1 &&& 2147483647).toInt + (q3 &&& 2147483647).toInt) := by
    apply own_x4v _ _ _ _ _ _ c1 _ hc3 hc4 t1 t2
    · rw [own_lo, own_lo, own_hi, own_hi, ha5, hb5, ha7, hb7, hc5]; clear hc6 hc7 hc8; omega
    · rw [own_lo, own_lo, own_hi, own_hi, ha5, hb5, ha7, hb7, hc5]; clear hc6 hc7 hc8; omega
    · rw [own_lo, own_lo, own_hi, own_hi, ha5, hb5, ha7, hb7, hc5, hc6]
  have r2 : own_f1_A_aa_2 q0.toInt32 (uL q0 32).toInt32 (q1 &&& 2147483647) q2.toInt32 (uL q2 32).toInt32 (q3 &&& 2147483647) = own_law_x0 q0 q1 q2 q3 := by
    unfold own_f1_A_aa_2
    apply own_eq32
    rw [s2]
    unfold own_law_x0
    have e1 := c_iadd (q1 &&& 2147483647) (q3 &&& 2147483647)
    have e2 := c_iadd ((q1 &&& 2147483647) + (q3 &&& 2147483647)) (own_law_v91_1_S0 q0 q1 q2 q3)
    rw [carry] at e2
    generalize ((q1 &&& 2147483647) + (q3 &&& 2147483647) + own_law_v91_1_S0 q0 q1 q2 q3).toInt = z at *
    generalize ((q1 &&& 2147483647) + (q3 &&& 2147483647)).toInt = y at *
    generalize (q1 &&& (2147483647 : Int32)).toInt = x at *
    generalize (q3 &&& (2147483647 : Int32)).toInt = w at *
    clear low lm ea eb ha5 ha6 ha7 hb5 hb6 hb7 hc5 hc6 hc7 hc8 s1 s2 r0 r1 carry
    omega
  unfold own_law_ret own_law_ret_j91_1
  rw [r0, r1, r2]
  simp only [if_true]
set_option maxRecDepth 65536 in
set_option maxHeartbeats 40000000 in
theorem comes_1 {Post : Tables → Env → Array Value → State → Outcome → State → Prop} (hpost : ∀ tb e args s v u, (limb_1_1.after args s (.returned v) u = true ∧ limb_1_2.after args s (.returned v) u = true ∧ True) → FrameEnd s (.returned v) u (Jvm.fieldLocs frame_1_writes args s ++ Jvm.arrayLocs frame_1_arrays args s ++ Jvm.staticLocs frame_1_statics s) 16 128 → Post tb e args s (.returned v) u) :
    ArmFor flags0 classFile x code maxLocals ret World_1 tables_1 room_1 Calls_1 rest_1 Pre_1 Post := by
  intro l hfl _ _ p e ha hc hk s m args below hf hA hF happ hP
  obtain ⟨hcalls, hrest, hpre⟩ := hP
  obtain ⟨-, -, -, hnamed, -, -, -, hat⟩ := (Spec.applies_iff hf).mp happ
  obtain ⟨hg, hn⟩ := and_e (Cond.before_iff.mp (show (Jvm.Cond.and given_1 narrow_1).before args s = true from hpre))
  obtain ⟨hcnt, r0⟩ := and_e hg
  obtain ⟨a0, r1⟩ := and_e r0
  obtain ⟨a1, r2⟩ := and_e r1
  obtain ⟨a2, r3⟩ := and_e r2
  obtain ⟨w0, w1, w2, w3, rfl⟩ : ∃ w0 w1 w2 w3 : Value, args = #[w0, w1, w2, w3] := by
    have hs : args.size = 4 := by simpa [Cond.value, given_1] using hcnt
    obtain ⟨L⟩ := args
    match L, hs with
    | [w0, w1, w2, w3], _ => exact ⟨w0, w1, w2, w3, rfl⟩
  have hw := fun d (hd : d ∈ tables_1) => atoms_spec (ws := Jvm.Cond.code x code maxLocals ret :: tables_1) hat d (List.mem_cons_of_mem _ hd)
  obtain ⟨q0, y0⟩ := isL_v a0
  obtain rfl : w0 = (.long q0) := Option.some.inj y0
  obtain ⟨q1, y1⟩ := is_v a1
  obtain rfl : w1 = (.int q1) := Option.some.inj y1
  obtain ⟨q2, y2⟩ := isL_v a2
  obtain rfl : w2 = (.long q2) := Option.some.inj y2
  obtain ⟨q3, y3⟩ := is_v r3
  obtain rfl : w3 = (.int q3) := Option.some.inj y3
  obtain ⟨n, o, h1, h2, h3, _, L, rfl, ⟨rfl, N⟩, hq⟩ := rm0 l s _ hw tables_1 q0 q1 q2 q3 s.heap s.heap.size (Nat.le_refl _) p e ha hc hk s m _ below hf ((Spec.applies_iff_loose hf).mp happ).1 ⟨rfl, State.Warmed39.refl s, rfl⟩ trivial
  refine ⟨n, _, h1, h2, h3, hpost _ _ _ _ _ _ ⟨Cond.after_iff.mpr rfl, Cond.after_iff.mpr (eq_i res_at (Term.int_eval (1)) (congrArg Value.int (own_main q0 q1 q2 q3))), trivial⟩ ⟨hq.1, hq.2.1, (hq.2.2.sift fun y hy => Or.inr (N y hy)).mono (by decide) (by decide)⟩⟩
theorem main_1_1 : Claimed_1_1 := comes_1 fun _ _ _ _ _ _ h hF => ⟨h.1, hF⟩
theorem main_1_2 : Claimed_1_2 := comes_1 fun _ _ _ _ _ _ h hF => ⟨h.2.1, hF⟩
end Jvm.Pilot.@@N@@
namespace Jvm.Pilot.@@N@@
open Jvm Jvm.ClassFile Sem Op Lib Jvm.Free Jvm.Stand Jvm.Pilot.@@N@@.Jvm.D
/-! MADE BY PROGRAM (witnessworld.py) out of the Statement's table words and the real class files: 9 classes; the members and pool entries that the words name. The judged class is class 1, her method 1. -/
namespace start1
open Jvm.ClassFile
def u (s : String) : CpInfo := .utf8 (stringToUtf16 s)
/-- a pool by its gaps: so many unusable entries, then the entry; so many at the end -/
def gap : Nat → List CpInfo → List CpInfo
  | 0, r => r
  | n + 1, r => .unusable :: gap n r
def poolList (es : List (Nat × CpInfo)) (last : Nat) : List CpInfo := es.foldr (fun e r => gap e.1 (e.2 :: r)) (gap last [])
def pool (es : List (Nat × CpInfo)) (last : Nat) : Array CpInfo := ⟨poolList es last⟩
def fileOf (pool : Array CpInfo) (this : Nat) (attrs : Array Attribute := #[]) (ms : Array MethodInfo := #[]) (fl : Nat := 33) (sup : Nat := 0) (ifs : Array Nat := #[]) (fds : Array FieldInfo := #[]) : ClassFile where
  minorVersion := 0
  majorVersion := 65
  constantPool := pool
  accessFlags := fl
  thisClass := this
  superClass := sup
  interfaces := ifs
  fields := fds
  methods := ms
  attributes := attrs
def plain (name : String) (sup : Option ClassId) : Class where
  name := name
  kind := .ordinary
  loader := none
  accessFlags := 33
  super := sup
  interfaces := #[]
  cf := none
  fields := #[]
  methods := #[]
  instanceTypes := #[]
  staticTypes := #[]
  resolved := #[]
  callSites := []
  init := .initialized
  statics := none
  mirror := none

def pool0 : Array CpInfo := pool [(5, u "<init>"), (0, u "()V"), (1, .class_ 10), (1, u "java/lang/Object")] 113

def k0m0 : Method := { name := "<init>", desc := "()V", sig := { parameters := [], returnType := none }, accessFlags := 1, code := none }
/-- java/lang/Object -/
def k0 : Class := { plain "java/lang/Object" none with
  accessFlags := 33
  interfaces := #[]
  cf := some (fileOf pool0 8 #[] #[{ accessFlags := 1, nameIndex := 5, descriptorIndex := 6, attributes := #[] }] 33 0 #[] #[])
  fields := #[]
  methods := #[k0m0]
  instanceTypes := #[]
  staticTypes := #[]
  resolved := Array.replicate 124 none
  statics := none }

def pool1 : Array CpInfo := pool [(2, .class_ 4), (1, u "java/lang/Object"), (0, u "<init>"), (0, u "()V"), (0, .integer 2147483647), (0, .methodref 9 10), (0, .class_ 11), (0, .nameAndType 12 13), (0, u "com/example/tideway/tideway/engine/Limbs"), (0, u "add"), (0, u "([I[I)V"), (0, .long 9223372036854775808), (1, .class_ 17), (0, u "com/example/tideway/tideway/engine/LimbsAddPinLaw"), (2, u "law"), (0, u "(JIJI)Z")] 5

def k1m0 : Method := { name := "<init>", desc := "()V", sig := { parameters := [], returnType := none }, accessFlags := 2, code := none }
def k1c1 : Code := { maxStack := 6, maxLocals := 14, code := code, exceptionTable := #[], attributes := #[] }
def k1m1 : Method := { name := "law", desc := "(JIJI)Z", sig := { parameters := [.long, .int, .long, .int], returnType := some .boolean }, accessFlags := 9, code := some k1c1 }
/-- com/example/tideway/tideway/engine/LimbsAddPinLaw -/
def k1 : Class := { plain "com/example/tideway/tideway/engine/LimbsAddPinLaw" (some 0) with
  accessFlags := 49
  interfaces := #[]
  cf := some (fileOf pool1 16 #[] #[{ accessFlags := 2, nameIndex := 5, descriptorIndex := 6, attributes := #[] }, { accessFlags := 9, nameIndex := 20, descriptorIndex := 21, attributes := #[] }] 49 2 #[] #[])
  fields := #[]
  methods := #[k1m0, k1m1]
  instanceTypes := #[]
  staticTypes := #[]
  resolved := Array.replicate 27 none
  statics := none }

def pool2 : Array CpInfo := pool [(2, .class_ 4), (1, u "java/lang/Object"), (0, u "<init>"), (0, u "()V"), (36, .class_ 44), (0, u "com/example/tideway/tideway/engine/Limbs"), (0, .long 4294967295), (35, u "MASK"), (0, u "J"), (12, u "add"), (0, u "([I[I)V")] 30

def k2m0 : Method := { name := "<init>", desc := "()V", sig := { parameters := [], returnType := none }, accessFlags := 2, code := none }
def k2c1 : Code := { maxStack := 8, maxLocals := 5, code := prog_43_method_4_code, exceptionTable := #[], attributes := #[] }
def k2m1 : Method := { name := "add", desc := "([I[I)V", sig := { parameters := [(.array .int), (.array .int)], returnType := none }, accessFlags := 8, code := some k2c1 }
/-- com/example/tideway/tideway/engine/Limbs -/
def k2 : Class := { plain "com/example/tideway/tideway/engine/Limbs" (some 0) with
  accessFlags := 48
  interfaces := #[]
  cf := some (fileOf pool2 43 #[] #[{ accessFlags := 2, nameIndex := 5, descriptorIndex := 6, attributes := #[] }, { accessFlags := 8, nameIndex := 95, descriptorIndex := 96, attributes := #[] }] 48 2 #[] #[{ accessFlags := 26, nameIndex := 81, descriptorIndex := 82, attributes := #[] }])
  fields := #[{ name := "MASK", type := .long, accessFlags := 26, slot := 0, constantValue := 0 }]
  methods := #[k2m0, k2m1]
  instanceTypes := #[]
  staticTypes := #[.long]
  resolved := Array.replicate 127 none
  statics := none }

def pool3 : Array CpInfo := pool [(1, u "java/lang/Cloneable"), (0, .class_ 1), (0, u "java/lang/Object"), (0, .class_ 3)] 3

/-- java/lang/Cloneable -/
def k3 : Class := { plain "java/lang/Cloneable" (some 0) with
  accessFlags := 1537
  interfaces := #[]
  cf := some (fileOf pool3 2 #[] #[] 1537 4 #[] #[])
  fields := #[]
  methods := #[]
  instanceTypes := #[]
  staticTypes := #[]
  resolved := Array.replicate 8 none
  statics := none }

def pool4 : Array CpInfo := pool [(1, u "java/io/Serializable"), (0, .class_ 1), (0, u "java/lang/Object"), (0, .class_ 3)] 3

/-- java/io/Serializable -/
def k4 : Class := { plain "java/io/Serializable" (some 0) with
  accessFlags := 1537
  interfaces := #[]
  cf := some (fileOf pool4 2 #[] #[] 1537 4 #[] #[])
  fields := #[]
  methods := #[]
  instanceTypes := #[]
  staticTypes := #[]
  resolved := Array.replicate 8 none
  statics := none }

/-- the primitive byte -/
def k5 : Class := { plain "byte" none with kind := .primitive 'B', accessFlags := 0x411 }
/-- [B -/
def k6 : Class := { plain "[B" (some 0) with kind := .array 5 .byte, interfaces := #[3, 4], accessFlags := 1041 }

/-- the primitive int -/
def k7 : Class := { plain "int" none with kind := .primitive 'I', accessFlags := 0x411 }
/-- [I -/
def k8 : Class := { plain "[I" (some 0) with kind := .array 7 .int, interfaces := #[3, 4], accessFlags := 1041 }

def heap : Heap := #[]
def classes : Array Class := #[k0, k1, k2, k3, k4, k5, k6, k7, k8]
def interned : List (Array UInt16 × Addr) := []
def slotsUsed : Nat := 0
def theMethod : MethodId := ⟨1, 1⟩
def args0 : Array Value := #[.long 5, .int 7, .long 9, .int 8]
def aboutOver (below : List Frame) : State where
  vm := { classes := classes, interned := interned.toArray }
  heap := heap
  slotsUsed := slotsUsed
  threads := #[{ frames := .invoking theMethod args0 :: below }]
def below0 : List Frame := [.native { method := ⟨0, 0⟩, args := #[] }]
def about1 : State := aboutOver below0
def p0 : Program := .bare "" "" ""
def e0 : Env := launch0.env 0 0 0
theorem w_frames : about1.frames = Frame.invoking theMethod args0 :: below0 := rfl
set_option maxRecDepth 65536 in
theorem w_args : argsFit about1.vm theMethod args0 = true := by decide +kernel
set_option maxRecDepth 65536 in
theorem w_heap : heapFits about1 = true := by decide +kernel
set_option maxRecDepth 65536 in
theorem w_runnable : about1.curStatus? = some .runnable := by decide +kernel
set_option maxRecDepth 65536 in
theorem w_alone : about1.alone = true := by decide +kernel
set_option maxRecDepth 65536 in
theorem w_named : about1.methodNamed? x = some theMethod := by decide +kernel
set_option maxRecDepth 65536 in
theorem w_hears : about1.hears theMethod below0 = true := by decide +kernel
set_option maxRecDepth 65536 in
theorem w_ripe : about1.ripe theMethod args0 below0 = true := by decide +kernel
theorem w_running : about1.status = .running := rfl
set_option maxRecDepth 65536 in
theorem w_room : about1.hasRoom e0.platform room_1 = true :=
  launch0.hasRoom_least _ room_1 (by decide +kernel) (by decide +kernel) (by decide +kernel) (by decide +kernel) (by decide +kernel) (by decide +kernel)
theorem allAtoms_all (ts : List Jvm.Cond) (a : Array Jvm.Value) (st : Jvm.State) : (allAtoms ts).before a st = ts.all (fun c => c.before a st) := by
  induction ts with
  | nil => rfl
  | cons c t ih =>
    show (Jvm.Cond.and c (allAtoms t)).before a st = _
    rw [Jvm.Cond.before_and, ih, List.all_cons]
def words1 : List Jvm.Cond := Jvm.Cond.code x code maxLocals ret :: tables_1
/-- a 'code' word, met by the world's own term for the bytes: nothing is compared byte by byte -/
theorem code_word {y : MethodName} {bytes : ByteArray} {mx : Nat} {rt : Option FieldType} {a : Array Value} {s : State} {m : MethodId} {meth : Method} {c : Code} (h1 : s.methodNamed? y = some m) (h2 : s.vm.method? m = some meth) (h3 : meth.code = some c) (h4 : c.code = bytes)
    (h5 : (c.maxLocals == mx && c.exceptionTable.isEmpty && decide (c.maxStack ≤ mostOperands) && decide (meth.sig.returnType = rt) && !meth.locks && decide (parseMethodDescriptor y.desc = some meth.sig)) = true) : (Jvm.Cond.code y bytes mx rt).before a s = true := by
  simp only [Bool.and_eq_true, beq_iff_eq, Bool.not_eq_true', decide_eq_true_eq] at h5
  obtain ⟨⟨⟨⟨⟨g1, g2⟩, g3⟩, g4⟩, g5⟩, g6⟩ := h5
  simp [Cond.before, Cond.holds, Cond.value, h1, h2, h3, h4, g1, g2, g3, g4, g5, g6]
def isCode : Jvm.Cond → Bool
  | .code _ _ _ _ => true
  | _ => false
theorem all_split {L : List Jvm.Cond} {P : Jvm.Cond → Bool} (h1 : L.all (fun c => isCode c || P c) = true) (h2 : ∀ c ∈ L.filter isCode, P c = true) : L.all P = true := by
  refine List.all_eq_true.mpr fun c hc => ?_
  have h := List.all_eq_true.mp h1 c hc
  rcases Bool.eq_false_or_eq_true (isCode c) with hi | hi
  · exact h2 c (List.mem_filter.mpr ⟨hc, hi⟩)
  · simpa [hi] using h
set_option maxRecDepth 65536 in
theorem w_c0 : (Jvm.Cond.code x code maxLocals ret).before args0 about1 = true := code_word (m := ⟨1, 1⟩) (meth := k1m1) (c := k1c1) (by decide +kernel) rfl rfl rfl (by decide +kernel)
set_option maxRecDepth 65536 in
theorem w_c1 : (Jvm.Cond.code ({ cls := "com/example/tideway/tideway/engine/Limbs", name := "add", desc := "([I[I)V" } : Jvm.MethodName) prog_43_method_4_code (5 : Nat) (Option.none : Option Jvm.ClassFile.FieldType)).before args0 about1 = true := code_word (m := ⟨2, 1⟩) (meth := k2m1) (c := k2c1) (by decide +kernel) rfl rfl rfl (by decide +kernel)
def codes1 : List Jvm.Cond := [Jvm.Cond.code x code maxLocals ret, Jvm.Cond.code ({ cls := "com/example/tideway/tideway/engine/Limbs", name := "add", desc := "([I[I)V" } : Jvm.MethodName) prog_43_method_4_code (5 : Nat) (Option.none : Option Jvm.ClassFile.FieldType)]
set_option maxRecDepth 65536 in
theorem codes_eq : words1.filter isCode = codes1 := rfl
theorem w_codes : ∀ c ∈ words1.filter isCode, c.before args0 about1 = true := by
  rw [codes_eq]
  intro c hc
  simp only [codes1, List.mem_cons, List.not_mem_nil, or_false] at hc
  rcases hc with rfl | rfl
  · exact w_c0
  · exact w_c1
set_option maxRecDepth 65536 in
theorem w_t1 : words1.all (fun c => isCode c || c.before args0 about1) = true := by decide +kernel
theorem w_tables : (allAtoms (Jvm.Cond.code x code maxLocals ret :: tables_1)).before args0 about1 = true := by
  rw [allAtoms_all]
  show words1.all (fun c => c.before args0 about1) = true
  refine all_split ?_ w_codes
  rw [w_t1]
set_option maxRecDepth 65536 in
theorem w_case : (Jvm.Cond.and given_1 narrow_1).before args0 about1 = true := by decide +kernel
theorem w_applies : (headSpec (Jvm.Cond.code x code maxLocals ret :: tables_1) room_1).applies x e0.platform about1 = true :=
  (Spec.applies_iff w_frames).mpr ⟨w_running, w_runnable, w_alone, w_named, w_hears, w_ripe, w_room, w_tables⟩
theorem atStart : AtStart classFile x code maxLocals ret World_1 tables_1 room_1 Calls_1 rest_1 Pre_1 launch0 p0 e0 about1 theMethod args0 below0 :=
  ⟨lists_1, trivial, launch0.admits_env _ _ _, launch0.least_env, fairChoices_fair.cas, fairChoices_fair.clock, w_frames, w_args, w_heap, w_applies, trivial, trivial, w_case⟩
end start1
theorem witness_1 : WitnessClaimed_1 := ⟨start1.p0, start1.e0, start1.about1, start1.theMethod, start1.args0, start1.below0, start1.atStart⟩
end Jvm.Pilot.@@N@@
