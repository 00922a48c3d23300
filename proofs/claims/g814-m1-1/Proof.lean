import JvmDerived
import JvmDerived.Pilot.@@N@@Statement
import JvmDerived.Pilot.@@N@@Code
set_option linter.unusedVariables false
set_option linter.unusedSimpArgs false
namespace Jvm.Pilot.@@N@@
open Jvm Jvm.ClassFile Sem Op Lib Jvm.Free Jvm.Stand Jvm.LawKit Jvm.RoadKit Bundle Jvm.Pilot.@@N@@.Jvm.D
/-- the body's goal from a state on -/
def Go (p : Program) (e : Env) (below : List Frame) (P : Outcome → State → Prop) (U : State) : Prop :=
  ∃ s₂ o, Steps p.tables e below U s₂ ∧ s₂.status = .running ∧ Ended s₂ below o ∧ P o s₂
/-- the unsigned shifts, the remainders -/
def uI (x y : Int32) : Int32 := (x.toUInt32 >>> (y &&& 31).toUInt32).toInt32
def uL (x : Int64) (y : Int32) : Int64 := (x.toUInt64 >>> (y &&& 0x3f).toInt64.toUInt64).toInt64
def sL (x : Int64) (y : Int32) : Int64 := x >>> (y &&& 0x3f).toInt64
def lL (x : Int64) (y : Int32) : Int64 := x <<< (y &&& 0x3f).toInt64
theorem own_narZ {z : Int32} (h : z = 0 ∨ z = 1) : narrow .boolean (.int z) = .int z := by rcases h with rfl | rfl <;> rfl
section Own
variable {p : Program} {l : Launch} {e : Env} {R : Room} {s : State} {m : MethodId} {args : Array Value} {below : List Frame} {meth : Method} {c : Code} {T : State} {locs : List Loc} {cells slots : Nat} {P : Outcome → State → Prop} {pc pc' : Nat} {L L' : Array Slot} {S : List Value} {Z : State} {a0 : Array Value} {h : Heap}
theorem Go.via {U U' : State} (q : ∀ t, Steps p.tables e below U' t → Steps p.tables e below U t) (k : Go p e below P U') : Go p e below P U := by
  obtain ⟨s₂, o, h1, h2⟩ := k
  exact ⟨s₂, o, q _ h1, h2⟩
theorem Go.tr {U U' : State} (q : Steps p.tables e below U U') (k : Go p e below P U') : Go p e below P U := k.via fun _ h => q.trans h
theorem o_iload (X : Stand p l e R s m args below meth c T locs cells slots) (hx : p.tables.exec = Jvm.exec) {k : Nat} {v : Int32} (hd : decode c.code pc = .ok (.iload k, 2)) (hp : pc + 2 = pc') (hl : L[k]? = some (.val (.int v))) (K : Go p e below P (T.setTop (mkF m pc' L (.int v :: S)))) : Go p e below P (T.setTop (mkF m pc L (S))) := by
  subst hp; exact K.via fun t k => XS.iload X.here hx rfl hd hl k
theorem o_iloadN (X : Stand p l e R s m args below meth c T locs cells slots) (hx : p.tables.exec = Jvm.exec) {k : Fin 4} {v : Int32} (hd : decode c.code pc = .ok (.iload_n k, 1)) (hp : pc + 1 = pc') (hl : L[k.val]? = some (.val (.int v))) (K : Go p e below P (T.setTop (mkF m pc' L (.int v :: S)))) : Go p e below P (T.setTop (mkF m pc L (S))) := by
  subst hp; exact K.via fun t k => XS.iloadN X.here hx rfl hd hl k
theorem o_lloadN (X : Stand p l e R s m args below meth c T locs cells slots) (hx : p.tables.exec = Jvm.exec) {k : Fin 4} {v : Int64} (hd : decode c.code pc = .ok (.lload_n k, 1)) (hp : pc + 1 = pc') (hl : L[k.val]? = some (.val (.long v))) (K : Go p e below P (T.setTop (mkF m pc' L (.long v :: S)))) : Go p e below P (T.setTop (mkF m pc L (S))) := by
  subst hp; exact K.via fun t k => XS.lloadN X.here hx rfl hd hl k
theorem o_aload (X : Stand p l e R s m args below meth c T locs cells slots) (hx : p.tables.exec = Jvm.exec) {k : Nat} {v : Value} (hd : decode c.code pc = .ok (.aload k, 2)) (hp : pc + 2 = pc') (hl : L[k]? = some (.val v)) (hv : v.isRef = true) (K : Go p e below P (T.setTop (mkF m pc' L (v :: S)))) : Go p e below P (T.setTop (mkF m pc L (S))) := by
  subst hp; exact K.via fun t k => XS.aload X.here hx rfl hd hl hv k
theorem o_aloadN (X : Stand p l e R s m args below meth c T locs cells slots) (hx : p.tables.exec = Jvm.exec) {k : Fin 4} {v : Value} (hd : decode c.code pc = .ok (.aload_n k, 1)) (hp : pc + 1 = pc') (hl : L[k.val]? = some (.val v)) (hv : v.isRef = true) (K : Go p e below P (T.setTop (mkF m pc' L (v :: S)))) : Go p e below P (T.setTop (mkF m pc L (S))) := by
  subst hp; exact K.via fun t k => XS.aloadN X.here hx rfl hd hl hv k
theorem o_istore (X : Stand p l e R s m args below meth c T locs cells slots) (hx : p.tables.exec = Jvm.exec) {k : Nat} {x : Int32} (hd : decode c.code pc = .ok (.istore k, 2)) (hp : pc + 2 = pc') (hl : storeLocals L k (.int x) = some L') (K : Go p e below P (T.setTop (mkF m pc' L' (S)))) : Go p e below P (T.setTop (mkF m pc L (.int x :: S))) := by
  subst hp; exact K.via fun t k => XS.istore X.here hx rfl hd rfl hl k
theorem o_istoreN (X : Stand p l e R s m args below meth c T locs cells slots) (hx : p.tables.exec = Jvm.exec) {k : Fin 4} {x : Int32} (hd : decode c.code pc = .ok (.istore_n k, 1)) (hp : pc + 1 = pc') (hl : storeLocals L k.val (.int x) = some L') (K : Go p e below P (T.setTop (mkF m pc' L' (S)))) : Go p e below P (T.setTop (mkF m pc L (.int x :: S))) := by
  subst hp; exact K.via fun t k => XS.istoreN X.here hx rfl hd rfl hl k
theorem o_astore (X : Stand p l e R s m args below meth c T locs cells slots) (hx : p.tables.exec = Jvm.exec) {k : Nat} {x : Value} (hd : decode c.code pc = .ok (.astore k, 2)) (hp : pc + 2 = pc') (hv : x.isRef = true) (hl : storeLocals L k x = some L') (K : Go p e below P (T.setTop (mkF m pc' L' (S)))) : Go p e below P (T.setTop (mkF m pc L (x :: S))) := by
  subst hp; exact K.via fun t k => XS.astore X.here hx rfl hd rfl hv hl k
theorem o_iconst (X : Stand p l e R s m args below meth c T locs cells slots) (hx : p.tables.exec = Jvm.exec) {i : Int} (v : Int32) (hd : decode c.code pc = .ok (.iconst i, 1)) (hp : pc + 1 = pc') (hv : Int32.ofInt i = v) (K : Go p e below P (T.setTop (mkF m pc' L (.int v :: S)))) : Go p e below P (T.setTop (mkF m pc L (S))) := by
  subst hp; exact K.via fun t k => XS.iconst X.here hx rfl hd (hv ▸ k)
theorem o_bipush (X : Stand p l e R s m args below meth c T locs cells slots) (hx : p.tables.exec = Jvm.exec) {i : Int} (v : Int32) (hd : decode c.code pc = .ok (.bipush i, 2)) (hp : pc + 2 = pc') (hv : (Int8.ofInt i).toInt32 = v) (K : Go p e below P (T.setTop (mkF m pc' L (.int v :: S)))) : Go p e below P (T.setTop (mkF m pc L (S))) := by
  subst hp; exact K.via fun t k => XS.bipush X.here hx rfl hd (hv ▸ k)
theorem o_iadd (X : Stand p l e R s m args below meth c T locs cells slots) (hx : p.tables.exec = Jvm.exec) {x y : Int32} (hd : decode c.code pc = .ok (.iadd, 1)) (hp : pc + 1 = pc')  (K : Go p e below P (T.setTop (mkF m pc' L (.int (x + y) :: S)))) : Go p e below P (T.setTop (mkF m pc L (.int y :: .int x :: S))) := by
  subst hp; exact K.via fun t k => XS.iadd X.here hx rfl hd rfl k
theorem o_isub (X : Stand p l e R s m args below meth c T locs cells slots) (hx : p.tables.exec = Jvm.exec) {x y : Int32} (hd : decode c.code pc = .ok (.isub, 1)) (hp : pc + 1 = pc')  (K : Go p e below P (T.setTop (mkF m pc' L (.int (x - y) :: S)))) : Go p e below P (T.setTop (mkF m pc L (.int y :: .int x :: S))) := by
  subst hp; exact K.via fun t k => XS.isub X.here hx rfl hd rfl k
theorem o_imul (X : Stand p l e R s m args below meth c T locs cells slots) (hx : p.tables.exec = Jvm.exec) {x y : Int32} (hd : decode c.code pc = .ok (.imul, 1)) (hp : pc + 1 = pc')  (K : Go p e below P (T.setTop (mkF m pc' L (.int (x * y) :: S)))) : Go p e below P (T.setTop (mkF m pc L (.int y :: .int x :: S))) := by
  subst hp; exact K.via fun t k => XS.imul X.here hx rfl hd rfl k
theorem o_iand (X : Stand p l e R s m args below meth c T locs cells slots) (hx : p.tables.exec = Jvm.exec) {x y : Int32} (hd : decode c.code pc = .ok (.iand, 1)) (hp : pc + 1 = pc')  (K : Go p e below P (T.setTop (mkF m pc' L (.int (x &&& y) :: S)))) : Go p e below P (T.setTop (mkF m pc L (.int y :: .int x :: S))) := by
  subst hp; exact K.via fun t k => XS.iand X.here hx rfl hd rfl k
theorem o_iushr (X : Stand p l e R s m args below meth c T locs cells slots) (hx : p.tables.exec = Jvm.exec) {x y : Int32} (hd : decode c.code pc = .ok (.iushr, 1)) (hp : pc + 1 = pc')  (K : Go p e below P (T.setTop (mkF m pc' L (.int (uI x y) :: S)))) : Go p e below P (T.setTop (mkF m pc L (.int y :: .int x :: S))) := by
  subst hp; exact K.via fun t k => XS.iushr X.here hx rfl hd rfl k
theorem o_lushr (X : Stand p l e R s m args below meth c T locs cells slots) (hx : p.tables.exec = Jvm.exec) {x : Int64} {y : Int32} (hd : decode c.code pc = .ok (.lushr, 1)) (hp : pc + 1 = pc')  (K : Go p e below P (T.setTop (mkF m pc' L (.long (uL x y) :: S)))) : Go p e below P (T.setTop (mkF m pc L (.int y :: .long x :: S))) := by
  subst hp; exact K.via fun t k => XS.lushr X.here hx rfl hd rfl k
theorem o_irem (X : Stand p l e R s m args below meth c T locs cells slots) (hx : p.tables.exec = Jvm.exec) {x y : Int32} (hd : decode c.code pc = .ok (.irem, 1)) (hp : pc + 1 = pc') (hy : y ≠ 0) (K : Go p e below P (T.setTop (mkF m pc' L (.int (x % y) :: S)))) : Go p e below P (T.setTop (mkF m pc L (.int y :: .int x :: S))) := by
  subst hp; exact K.via fun t k => Jvm.RoadKit.iremM (g := mkF m pc L (.int y :: .int x :: S)) X hx rfl hd rfl hy k
theorem o_l2i (X : Stand p l e R s m args below meth c T locs cells slots) (hx : p.tables.exec = Jvm.exec) {x : Int64} (hd : decode c.code pc = .ok (.l2i, 1)) (hp : pc + 1 = pc')  (K : Go p e below P (T.setTop (mkF m pc' L (.int x.toInt32 :: S)))) : Go p e below P (T.setTop (mkF m pc L (.long x :: S))) := by
  subst hp; exact K.via fun t k => XS.l2i X.here hx rfl hd rfl k
theorem o_i2b (X : Stand p l e R s m args below meth c T locs cells slots) (hx : p.tables.exec = Jvm.exec) {x : Int32} (hd : decode c.code pc = .ok (.i2b, 1)) (hp : pc + 1 = pc')  (K : Go p e below P (T.setTop (mkF m pc' L (.int x.toInt8.toInt32 :: S)))) : Go p e below P (T.setTop (mkF m pc L (.int x :: S))) := by
  subst hp; exact K.via fun t k => XS.i2b X.here hx rfl hd rfl k
theorem o_iinc (X : Stand p l e R s m args below meth c T locs cells slots) (hx : p.tables.exec = Jvm.exec) {k : Nat} {i : Int} {v v' : Int32} (hd : decode c.code pc = .ok (.iinc k i, 3)) (hp : pc + 3 = pc') (hl : L[k]? = some (.val (.int v))) (hv : v + Int32.ofInt i = v') (hs : storeLocals L k (.int v') = some L') (K : Go p e below P (T.setTop (mkF m pc' L' S))) : Go p e below P (T.setTop (mkF m pc L S)) := by
  subst hp hv; exact K.via fun t k => XS.iinc X.here hx rfl hd hl hs k
theorem o_goto (X : Stand p l e R s m args below meth c T locs cells slots) (hx : p.tables.exec = Jvm.exec) {o : Int} (hd : decode c.code pc = .ok (.goto o, 3)) (ho : 0 ≤ (pc : Int) + o) (hp : ((pc : Int) + o).toNat = pc') (K : Go p e below P (T.setTop (mkF m pc' L S))) : Go p e below P (T.setTop (mkF m pc L S)) :=
  K.via fun t k => XS.goto X.here hx rfl rfl hd ho hp k
theorem o_ifY (X : Stand p l e R s m args below meth c T locs cells slots) (hx : p.tables.exec = Jvm.exec) {cd : ClassFile.Cond} {x : Int32} {o : Int} (hd : decode c.code pc = .ok (.ifCond cd o, 3)) (hc : if_icmp.holds cd x 0 = true) (ho : 0 ≤ (pc : Int) + o) (hp : ((pc : Int) + o).toNat = pc') (K : Go p e below P (T.setTop (mkF m pc' L S))) : Go p e below P (T.setTop (mkF m pc L (.int x :: S))) :=
  K.via fun t k => XS.ifYes X.here hx rfl rfl hd rfl ((if0 _ _).trans hc) ho hp k
theorem o_ifN (X : Stand p l e R s m args below meth c T locs cells slots) (hx : p.tables.exec = Jvm.exec) {cd : ClassFile.Cond} {x : Int32} {o : Int} (hd : decode c.code pc = .ok (.ifCond cd o, 3)) (hc : if_icmp.holds cd x 0 = false) (hp : pc + 3 = pc') (K : Go p e below P (T.setTop (mkF m pc' L S))) : Go p e below P (T.setTop (mkF m pc L (.int x :: S))) := by
  subst hp; exact K.via fun t k => XS.ifNo X.here hx rfl hd rfl ((if0 _ _).trans hc) k
theorem o_cmpY (X : Stand p l e R s m args below meth c T locs cells slots) (hx : p.tables.exec = Jvm.exec) {cd : ClassFile.Cond} {x y : Int32} {o : Int} (hd : decode c.code pc = .ok (.if_icmp cd o, 3)) (hc : if_icmp.holds cd x y = true) (ho : 0 ≤ (pc : Int) + o) (hp : ((pc : Int) + o).toNat = pc') (K : Go p e below P (T.setTop (mkF m pc' L S))) : Go p e below P (T.setTop (mkF m pc L (.int y :: .int x :: S))) :=
  K.via fun t k => XS.icmpYes X.here hx rfl rfl hd rfl hc ho hp k
theorem o_cmpN (X : Stand p l e R s m args below meth c T locs cells slots) (hx : p.tables.exec = Jvm.exec) {cd : ClassFile.Cond} {x y : Int32} {o : Int} (hd : decode c.code pc = .ok (.if_icmp cd o, 3)) (hc : if_icmp.holds cd x y = false) (hp : pc + 3 = pc') (K : Go p e below P (T.setTop (mkF m pc' L S))) : Go p e below P (T.setTop (mkF m pc L (.int y :: .int x :: S))) := by
  subst hp; exact K.via fun t k => XS.icmpNo X.here hx rfl hd rfl hc k
theorem tltL {x y : Int64} (q : x < y) : if_icmp.holds .lt (lcmpW x y) 0 = true ∧ if_icmp.holds .ge (lcmpW x y) 0 = false ∧ if_icmp.holds .gt (lcmpW y x) 0 = true ∧ if_icmp.holds .le (lcmpW y x) 0 = false :=
  ⟨(tlt ((lw_lt x y).mpr q)).1, (tlt ((lw_lt x y).mpr q)).2.1, (tlt ((lw_gt y x).mpr q)).2.2.1, (tlt ((lw_gt y x).mpr q)).2.2.2⟩
theorem fltL {x y : Int64} (q : ¬ x < y) : if_icmp.holds .lt (lcmpW x y) 0 = false ∧ if_icmp.holds .ge (lcmpW x y) 0 = true ∧ if_icmp.holds .gt (lcmpW y x) 0 = false ∧ if_icmp.holds .le (lcmpW y x) 0 = true :=
  ⟨(flt (mt (lw_lt x y).mp q)).1, (flt (mt (lw_lt x y).mp q)).2.1, (flt (mt (lw_gt y x).mp q)).2.2.1, (flt (mt (lw_gt y x).mp q)).2.2.2⟩
theorem teqL {x y : Int64} (q : x = y) : if_icmp.holds .eq (lcmpW x y) 0 = true ∧ if_icmp.holds .ne (lcmpW x y) 0 = false := teq ((lw_eq x y).mpr q)
theorem feqL {x y : Int64} (q : ¬ x = y) : if_icmp.holds .eq (lcmpW x y) 0 = false ∧ if_icmp.holds .ne (lcmpW x y) 0 = true := feq (mt (lw_eq x y).mp q)
theorem o_ldcI (X : Stand p l e R s m args below meth c T locs cells slots) (hx : p.tables.exec = Jvm.exec) (hZ : Z.Warmed39 s.vm) {own : String} {index : Nat} (v : Int32) (hown : s.vm.findClass own = some m.cls) (w : (Cond.constant own index v).before a0 Z = true) (hd : decode c.code pc = .ok (.ldc index, 2)) (hp : pc + 2 = pc') (K : Go p e below P (T.setTop (mkF m pc' L (.int v :: S)))) : Go p e below P (T.setTop (mkF m pc L S)) := by
  subst hp; exact K.via (X.ldcInt hx hown (mvT hZ w) (g := mkF m pc L S) rfl hd)
/-- what a body's end owes -/
abbrev Owe (s : State) (Q : Option Value → Heap → List Loc → Prop) (C D : Nat) : Outcome → State → Prop := fun o U' => ∃ v L, o = .returned v ∧ Q v U'.heap L ∧ FrameEnd s o U' L C D
/-- a body's contract -/
abbrev Con (l : Launch) (y : MethodName) (bytes : ByteArray) (ml : Nat) (ret : Option FieldType) (ws : List Jvm.Cond) (rm : Room) (as' : Array Value) (Z : State) (h0 : Heap) (Q : Option Value → Heap → List Loc → Prop) (C D : Nat) : Prop :=
  MetFree l y (head1 (Jvm.Cond.code y bytes ml ret :: ws) rm) (fun b U => b = as' ∧ Z.Warmed39 U.vm ∧ U.heap = h0) (fun _ _ _ _ _ => True) (fun _ U o U' => ∃ v L, o = .returned v ∧ Q v U'.heap L ∧ FrameEnd U o U' L C D)
theorem own_body {y : MethodName} {bytes : ByteArray} {ml : Nat} {ret : Option FieldType} {ws : List Jvm.Cond} {rm : Room} {as' : Array Value} {h0 : Heap} {Q : Option Value → Heap → List Loc → Prop} {C D : Nat} (hpl : plainFor y = true)
    (K : ∀ (p : Program) (e : Env) (s : State) (m : MethodId) (below : List Frame) (meth : Method) (c : Code) (s₁ : State), p.tables.exec = Jvm.exec → c.code = bytes → meth.locks = false → c.maxLocals = ml → s.vm.findClass y.cls = some m.cls → meth.name = y.name → meth.sig.returnType = ret → Z.Warmed39 s.vm →
      Stand p l e rm s m as' below meth c s₁ [] 0 0 → s₁.heap = h0 → Go p e below (Owe s Q C D) (s₁.setTop (entryFrame m as' ml))) : Con l y bytes ml ret ws rm as' Z h0 Q C D := by
  refine MetFree.of_bodySF hpl hisR ?_
  intro p e s m args below meth c s₁ Bd hml0 hP hK
  obtain ⟨rfl, hZ, hh⟩ := hP
  exact K p e s m below meth c s₁ Bd.exec Bd.bytes (BodyLoose.notSynchronized Bd) hml0 (findClass_of_methodNamed Bd.named) (name_of_methodNamed Bd.named Bd.method).1 Bd.returns hZ (Stand.of_body Bd) (by rw [← hh, Bd.state]; rfl)
theorem o_ret (X : Stand p l e R s m args below meth c T locs cells slots) (hx : p.tables.exec = Jvm.exec) {Q : Option Value → Heap → List Loc → Prop} {C D : Nat} {w : Value} {t : FieldType} {i : Instr} (hlocks : meth.locks = false) (hret : meth.sig.returnType = some t) (hn : narrow t w = w)
    (hi : (i = .ireturn ∧ (t = .int ∨ t = .boolean ∨ t = .byte ∨ t = .char ∨ t = .short) ∧ ∃ z, w = .int z) ∨ (i = .lreturn ∧ t = .long ∧ ∃ z, w = .long z) ∨ (i = .dreturn ∧ t = .double ∧ ∃ z, w = .double z) ∨ (i = .freturn ∧ t = .float ∧ ∃ z, w = .float z) ∨ (i = .areturn ∧ t.isReference = true ∧ w.isRef = true))
    (hd : decode c.code pc = .ok (i, 1)) (hc : cells ≤ C) (hs : slots ≤ D) (hq : Q (some w) T.heap locs) : Go p e below (Owe s Q C D) (T.setTop (mkF m pc L (w :: S))) := by
  obtain ⟨fs, hr, hrun, hended, hW, hsame⟩ := X.leave (v := some w) (fun h => by rw [hret] at h; cases h) hlocks
  exact ⟨_, _, retOut X hx hret hn hi hd hr, hrun, hended, _, _, rfl, hq, ⟨_, rfl⟩, hW, hsame.mono hc hs⟩
theorem o_retI (X : Stand p l e R s m args below meth c T locs cells slots) (hx : p.tables.exec = Jvm.exec) {Q : Option Value → Heap → List Loc → Prop} {C D : Nat} {z : Int32} (hlocks : meth.locks = false) (hret : meth.sig.returnType = some .int) (hd : decode c.code pc = .ok (.ireturn, 1)) (hc : cells ≤ C) (hs : slots ≤ D) (hq : Q (some (.int z)) T.heap locs) : Go p e below (Owe s Q C D) (T.setTop (mkF m pc L (.int z :: S))) :=
  o_ret X hx hlocks hret rfl (Or.inl ⟨rfl, Or.inl rfl, z, rfl⟩) hd hc hs hq
theorem o_retZ (X : Stand p l e R s m args below meth c T locs cells slots) (hx : p.tables.exec = Jvm.exec) {Q : Option Value → Heap → List Loc → Prop} {C D : Nat} {z : Int32} (hz : narrow .boolean (.int z) = .int z) (hlocks : meth.locks = false) (hret : meth.sig.returnType = some .boolean) (hd : decode c.code pc = .ok (.ireturn, 1)) (hc : cells ≤ C) (hs : slots ≤ D) (hq : Q (some (.int z)) T.heap locs) : Go p e below (Owe s Q C D) (T.setTop (mkF m pc L (.int z :: S))) :=
  o_ret X hx hlocks hret hz (Or.inl ⟨rfl, Or.inr (Or.inl rfl), z, rfl⟩) hd hc hs hq
theorem o_retB (X : Stand p l e R s m args below meth c T locs cells slots) (hx : p.tables.exec = Jvm.exec) {Q : Option Value → Heap → List Loc → Prop} {C D : Nat} {z : Int32} (hz : narrow .byte (.int z) = .int z) (hlocks : meth.locks = false) (hret : meth.sig.returnType = some .byte) (hd : decode c.code pc = .ok (.ireturn, 1)) (hc : cells ≤ C) (hs : slots ≤ D) (hq : Q (some (.int z)) T.heap locs) : Go p e below (Owe s Q C D) (T.setTop (mkF m pc L (.int z :: S))) :=
  o_ret X hx hlocks hret hz (Or.inl ⟨rfl, Or.inr (Or.inr (Or.inl rfl)), z, rfl⟩) hd hc hs hq
theorem o_callS (X : Stand p l e R s m args below meth c T locs cells slots) (hx : p.tables.exec = Jvm.exec) (hZ : Z.Warmed39 s.vm) {own : String} {index : Nat} {y : MethodName} {bytes : ByteArray} {maxL : Nat} {ret : Option FieldType} {rm : Room} (W : Nat) {argsL rest : List Value} {Q : Option Value → Heap → List Loc → Prop} {cells' slots' : Nat}
    (hown : s.vm.findClass own = some m.cls) (w1 : (Cond.methodLink own index y).before a0 Z = true) (w2 : (Cond.static y).before a0 Z = true) (w3 : (Cond.initialized y.cls).before a0 Z = true) (w4 : (Cond.code y bytes maxL ret).before a0 Z = true) (hy : y.cls ≠ "java/lang/invoke/MethodHandle" ∧ y.cls ≠ "java/lang/invoke/VarHandle")
    (hM : MetFree l y (head1 [Cond.code y bytes maxL ret] rm) (fun a U => a = argsL.toArray ∧ Z.Warmed39 U.vm ∧ U.heap = h) (fun _ _ _ _ _ => True) (fun _ U o U' => ∃ v L, o = .returned v ∧ Q v U'.heap L ∧ FrameEnd U o U' L rm.cells rm.slots))
    (hf : rm.frames + 1 ≤ R.frames) (hl : W + (maxL + 11) + rm.locals ≤ R.locals) (hcc : cells + rm.cells = cells') (hss : slots + rm.slots = slots') (hc : cells' ≤ R.cells) (hs : slots' ≤ R.slots) (eT : T.heap = h) (hsize : L.size = c.maxLocals) (hlen : ∀ sig, parseMethodDescriptor y.desc = some sig → argsL.length = sig.parameters.length) (hstk : S = argsL.reverse ++ rest)
    (hW : (rest.map fun v => v.category).sum = W) (hd : decode c.code pc = .ok (.invokestatic index, 3)) (hp : pc + 3 = pc') (K : ∀ T' v Lc, Stand p l e R s m args below meth c T' (locs ++ Lc) cells' slots' → Q v T'.heap Lc → Go p e below P (T'.setTop (mkF m pc' L (v.toList ++ rest)))) : Go p e below P (T.setTop (mkF m pc L S)) := by
  subst hp hcc hss
  obtain ⟨v, _, ⟨T', L', k', n'⟩, -, X', ⟨Lc, hQ, l', y', z'⟩, st⟩ := Jvm.LawKit.callS X hx hown (mvT hZ w1) (mvT hZ w2) (mvT hZ w3) (mvT hZ w4) hy (backOf (W := W) hM hZ w4 w3 hf hl) (g := mkF m pc L S) rfl hsize (argsL := argsL) (rest := rest) hlen hstk (by show 2 * 0 + _ ≤ _; rw [hW]; exact Nat.le_of_eq (by simp)) hd (fun _ _ => ⟨rfl, eT, hc, hs⟩)
  dsimp only [Pt.U, Pt.locs, Pt.cells, Pt.slots] at X' l' y' z' st hQ
  subst l' y' z'
  exact (K T' v Lc X' hQ).via st
theorem o_newP (X : Stand p l e R s m args below meth c T locs cells slots) (hx : p.tables.exec = Jvm.exec) (hZ : Z.Warmed39 s.vm) {aty : ArrayType} {n : Int32} {cells' slots' : Nat} (cap : Nat) (w : (Cond.arrayClass (newarray.typeOf aty)).before a0 Z = true) (eT : T.heap = h) (hd : decode c.code pc = .ok (.newarray aty, 2)) (hp : pc + 2 = pc') (hn : ¬ n < 0) (hcap : n.toNatClampNeg ≤ cap) (hb : cap * 8 ≤ 536870912) (hcc : cells + 1 = cells') (hss : slots + cap = slots') (hc : cells' ≤ R.cells) (hs : slots' ≤ R.slots)
    (K : ∀ T' h' a k, a = h.size → Stand p l e R s m args below meth c T' locs cells' slots' → T'.heap = h' → Ext h h' → Arv Z h' a k (newarray.typeOf aty) n [] (defaultValue (newarray.typeOf aty)) → Go p e below P (T'.setTop (mkF m pc' L (.ref a :: S)))) : Go p e below P (T.setTop (mkF m pc L (.int n :: S))) := by
  subst hp hcc hss
  obtain ⟨T', h', cA, X', e', E', A', st⟩ := newP X hx hZ w eT (g := mkF m pc L (.int n :: S)) rfl hd rfl hn hcap hb hc hs
  exact (K T' h' h.size cA rfl X' e' E' (Arv.new A' hn)).via st
theorem own_inb {Zx : State} {hh : Heap} {a : Addr} {k : ClassId} {ty : FieldType} {n j : Int32} {vs : List Value} {d : Value} (hj : ¬ j < 0 ∧ j < n) (V : Arv Zx hh a k ty n vs d) : ∃ cl : Cell, Arr Zx hh a cl ty ∧ cl.cls = k ∧ cl.slots.size = n.toNatClampNeg ∧ ¬ n < 0 ∧ Has cl vs d ∧ (∀ i, i < cl.slots.size → fits ty (vs.getD i d) = true) ∧ ¬ (j < 0 ∨ cl.slots.size ≤ j.toNatClampNeg) ∧ cl.slots[j.toNatClampNeg]? = some (vs.getD j.toNatClampNeg d) := by
  obtain ⟨cl, h1, h2, h3, h4, h5, h6⟩ := V
  have hin := inb_of h3 hj
  exact ⟨cl, h1, h2, h3, h4, h5, h6, hin, h5.at hin rfl⟩
theorem o_baload (X : Stand p l e R s m args below meth c T locs cells slots) (hx : p.tables.exec = Jvm.exec) (hZ : Z.Warmed39 s.vm) {a : Addr} {k : ClassId} {n j : Int32} {vs : List Value} {d : Value} (v : Value) (eT : T.heap = h) (V : Arv Z h a k .byte n vs d) (hj : ¬ j < 0 ∧ j < n) (hv : vs.getD j.toNatClampNeg d = v) (hd : decode c.code pc = .ok (.baload, 1)) (hp : pc + 1 = pc') (K : Go p e below P (T.setTop (mkF m pc' L (v :: S)))) : Go p e below P (T.setTop (mkF m pc L (.int j :: .ref a :: S))) := by
  subst hp hv
  obtain ⟨cl, A, -, -, -, -, -, hin, hat⟩ := own_inb hj V
  exact K.via fun t k => X.baloadBytes hx (j := j) (by rw [eT]; exact A.1) (State.isArrayOf_alike hZ.alike A.2.1) A.2.2 hin hat (g := mkF m pc L (.int j :: .ref a :: S)) rfl rfl hd t k
theorem o_bastore (X : Stand p l e R s m args below meth c T locs cells slots) (hx : p.tables.exec = Jvm.exec) (hZ : Z.Warmed39 s.vm) {a : Addr} {k : ClassId} {n j : Int32} {x : Int32} {vs vs' : List Value} {d : Value} (i : Nat) (eT : T.heap = h) (V : Arv Z h a k .byte n vs d) (hj : ¬ j < 0 ∧ j < n) (hji : j.toNatClampNeg = i) (hi : i < vs.length) (hvs : vs.set i (.int (nar .byte x)) = vs') (hd : decode c.code pc = .ok (.bastore, 1)) (hp : pc + 1 = pc')
    (K : ∀ T' h', Stand p l e R s m args below meth c T' (locs ++ [⟨a, i⟩]) cells slots → T'.heap = h' → Wr h h' a i (.int (nar .byte x)) → Arv Z h' a k .byte n vs' d → Go p e below P (T'.setTop (mkF m pc' L S))) : Go p e below P (T.setTop (mkF m pc L (.int x :: .int j :: .ref a :: S))) := by
  subst hp hvs hji
  obtain ⟨cl, A, q1, q2, q3, q4, q5, hin, hat⟩ := own_inb hj V
  obtain ⟨T', h', X', e', W', st⟩ := stB X hx hZ eT A hin (g := mkF m pc L (.int x :: .int j :: .ref a :: S)) rfl rfl hd
  exact (K T' h' X' e' W' (Arv.set A q1 q2 q3 q4 q5 (fits_nar_byte x) W' _ rfl hi)).via st
/-- a longer list said of an array: the rest holds its first value -/
theorem own_fill {Zx : State} {hh : Heap} {a : Addr} {k : ClassId} {ty : FieldType} {n : Int32} {d : Value} (i : Nat) (V : Arv Zx hh a k ty n [] d) : Arv Zx hh a k ty n (List.replicate i d) d := V.pad (pad_rep [] d i)
end Own
theorem pd_0 : parseMethodDescriptor "(B)Z" = some ⟨[.byte], some .boolean⟩ := by decide +kernel
theorem pd_1 : parseMethodDescriptor "(IJI)B" = some ⟨[.int, .long, .int], some .byte⟩ := by decide +kernel
theorem pd_2 : parseMethodDescriptor "([BII)I" = some ⟨[(.array .byte), .int, .int], some .int⟩ := by decide +kernel
theorem pd_3 : parseMethodDescriptor "([BIIII)Z" = some ⟨[(.array .byte), .int, .int, .int, .int], some .boolean⟩ := by decide +kernel
theorem own_narB (x : Int32) : narrow .byte (.int x.toInt8.toInt32) = .int x.toInt8.toInt32 := by
  show Value.int (x.toInt8.toInt32.toInt8.toInt32) = _
  rw [Int8.toInt8_toInt32]
def own_b8 (v0 v1 v2 v3 v4 v5 v6 v7 : Int32) (i : Nat) : Int32 := [v0, v1, v2, v3, v4, v5, v6, v7].getD i 0
theorem own_b8_at (v0 v1 v2 v3 v4 v5 v6 v7 : Int32) (i : Nat) : ([.int v0, .int v1, .int v2, .int v3, .int v4, .int v5, .int v6, .int v7] : List Value).getD i (.int (0 : Int32)) = .int (own_b8 v0 v1 v2 v3 v4 v5 v6 v7 i) := by
  show (List.map Value.int [v0, v1, v2, v3, v4, v5, v6, v7]).getD i (Value.int 0) = _
  unfold own_b8
  rw [List.getD_eq_getElem?_getD, List.getD_eq_getElem?_getD, List.getElem?_map]
  cases [v0, v1, v2, v3, v4, v5, v6, v7][i]? <;> rfl
/-- where the loop ends: f the bytes, a the start, from the end n on -/
def own_trim (f : Nat → Int32) (a : Nat) : Nat → Nat
  | 0 => 0
  | n + 1 => if n + 1 ≤ a then n + 1 else if f n = 32 then own_trim f a n else if f n = 0 then own_trim f a n else n + 1
theorem own_of8 {n : Nat} (h : n ≤ 8) : (Int32.ofNat n).toInt = n := Int32.toInt_ofNat_of_lt (by omega)
theorem own_lt8 {a n : Nat} (ha : a ≤ 8) (hn : n ≤ 8) : Int32.ofNat a < Int32.ofNat n ↔ a < n := by
  rw [Int32.lt_iff_toInt_lt, own_of8 ha, own_of8 hn]; omega
theorem own_dec (n : Nat) : Int32.ofNat (n + 1) - (1 : Int32) = Int32.ofNat n := by
  rw [Int32.ofNat_add]; exact Int32.add_sub_cancel _ _
theorem own_inc (n : Nat) : Int32.ofNat (n + 1) + Int32.ofInt (-1) = Int32.ofNat n := by
  rw [Int32.ofNat_add, show Int32.ofInt (-1) = -(1 : Int32) from by decide, ← Int32.sub_eq_add_neg]; exact Int32.add_sub_cancel _ _
theorem own_in8 {n : Nat} (h : n < 8) : ¬ Int32.ofNat n < 0 ∧ Int32.ofNat n < (8 : Int32) := by
  rw [Int32.lt_iff_toInt_lt, Int32.lt_iff_toInt_lt, own_of8 (by omega), show (0 : Int32).toInt = 0 from rfl, show (8 : Int32).toInt = 8 from rfl]; omega
theorem own_ix8 {n : Nat} (h : n < 8) : (Int32.ofNat n).toNatClampNeg = n := by
  rw [Int32.toNatClampNeg, own_of8 (by omega)]; rfl
theorem d1_0 : decode method_2_code 0 = .ok (.iload_n 0, 1) := by decide +kernel
theorem d1_1 : decode method_2_code 1 = .ok (.iconst 2, 1) := by decide +kernel
theorem d1_2 : decode method_2_code 2 = .ok (.iload_n 3, 1) := by decide +kernel
theorem d1_3 : decode method_2_code 3 = .ok (.imul, 1) := by decide +kernel
theorem d1_4 : decode method_2_code 4 = .ok (.iushr, 1) := by decide +kernel
theorem d1_5 : decode method_2_code 5 = .ok (.iconst 3, 1) := by decide +kernel
theorem d1_6 : decode method_2_code 6 = .ok (.iand, 1) := by decide +kernel
theorem d1_7 : decode method_2_code 7 = .ok (.istore 4, 2) := by decide +kernel
theorem d1_9 : decode method_2_code 9 = .ok (.iload 4, 2) := by decide +kernel
theorem d1_11 : decode method_2_code 11 = .ok (.ifCond .ne 6, 3) := by decide +kernel
theorem d1_14 : decode method_2_code 14 = .ok (.bipush 32, 2) := by decide +kernel
theorem d1_16 : decode method_2_code 16 = .ok (.ireturn, 1) := by decide +kernel
theorem d1_17 : decode method_2_code 17 = .ok (.iload 4, 2) := by decide +kernel
theorem d1_19 : decode method_2_code 19 = .ok (.iconst 1, 1) := by decide +kernel
theorem d1_20 : decode method_2_code 20 = .ok (.if_icmp .ne 5, 3) := by decide +kernel
theorem d1_23 : decode method_2_code 23 = .ok (.iconst 0, 1) := by decide +kernel
theorem d1_24 : decode method_2_code 24 = .ok (.ireturn, 1) := by decide +kernel
theorem d1_25 : decode method_2_code 25 = .ok (.lload_n 1, 1) := by decide +kernel
theorem d1_26 : decode method_2_code 26 = .ok (.bipush 8, 2) := by decide +kernel
theorem d1_28 : decode method_2_code 28 = .ok (.iload_n 3, 1) := by decide +kernel
theorem d1_29 : decode method_2_code 29 = .ok (.imul, 1) := by decide +kernel
theorem d1_30 : decode method_2_code 30 = .ok (.lushr, 1) := by decide +kernel
theorem d1_31 : decode method_2_code 31 = .ok (.l2i, 1) := by decide +kernel
theorem d1_32 : decode method_2_code 32 = .ok (.i2b, 1) := by decide +kernel
theorem d1_33 : decode method_2_code 33 = .ok (.ireturn, 1) := by decide +kernel
theorem pn_1 : plainName "com/example/fieldcast/fieldcast/StringDecoderUnpaddedPinLaw" = true := by first | (simp [plainName, overriddenIn]; done) | decide +kernel
theorem ef_1 (m : MethodId) (x0 : Int32) (x1 : Int64) (x2 : Int32) : entryFrame m #[(.int x0), (.long x1), (.int x2)] 5 = mkF m 0 #[.val (.int x0), .val (.long x1), .second, .val (.int x2), .unset] [] := by first | (simp [entryFrame, mkF, argsToLocals, Value.category]; done) | rfl
def own_f1_x0 (x1 : Int32) (x2 : Int64) (x3 : Int32) : Int32 := ((uI x1 ((2 : Int32) * x3)) &&& (3 : Int32))
def own_f1_ret (x1 : Int32) (x2 : Int64) (x3 : Int32) : Int32 := (if (own_f1_x0 x1 x2 x3) = (0 : Int32) then (32 : Int32) else (if (own_f1_x0 x1 x2 x3) = (1 : Int32) then (0 : Int32) else (((uL x2 ((8 : Int32) * x3)).toInt32).toInt8.toInt32)))
def Q1 (Z : State) (x1 : Int32) (x2 : Int64) (x3 : Int32) (h0 : Heap) (n0 : Nat) (v : Option Value) (h : Heap) (L : List Loc) : Prop := v = some (.int (own_f1_ret x1 x2 x3)) ∧ Fr n0 L ∧ h = h0
set_option maxRecDepth 65536 in
set_option maxHeartbeats 40000000 in
theorem rm1 (l : Launch) (Z : State) (a0 : Array Value) (hw : ∀ d ∈ tables_1, d.before a0 Z = true) (ws : List Jvm.Cond) (x1 : Int32) (x2 : Int64) (x3 : Int32) (h0 : Heap) (n0 : Nat) (Z0 : n0 ≤ h0.size)  :
    Con l (⟨"com/example/fieldcast/fieldcast/StringDecoderUnpaddedPinLaw", "pick", "(IJI)B"⟩ : MethodName) method_2_code 5 (some .byte) ws ({ frames := 0, cells := 0, slots := 0, locals := 0 } : Room) #[(.int x1), (.long x2), (.int x3)] Z h0 (Q1 Z x1 x2 x3 h0 n0) ({ frames := 0, cells := 0, slots := 0, locals := 0 } : Room).cells ({ frames := 0, cells := 0, slots := 0, locals := 0 } : Room).slots := by
  refine own_body (plainFor_of_name pn_1) ?_
  intro p e s m below meth c s₁ hx hby hlk hml hown hnm hrt hZ X0 e0
  have w : ∀ (k : Nat) (d : Jvm.Cond), tables_1[k]? = some d → d.before a0 Z = true := fun k d h => hw d (List.mem_of_getElem? h)
  have N0 := Fr.nil n0
  rw [ef_1]
  generalize hOWE : Owe s _ _ _ = OWE
  refine o_iloadN X0 hx (hb hby d1_0) (pc' := 1) rfl rfl ?_
  refine o_iconst X0 hx (2 : Int32) (hb hby d1_1) (pc' := 2) rfl (by decide) ?_
  refine o_iloadN X0 hx (hb hby d1_2) (pc' := 3) rfl rfl ?_
  refine o_imul X0 hx (hb hby d1_3) (pc' := 4) rfl ?_
  refine o_iushr X0 hx (hb hby d1_4) (pc' := 5) rfl ?_
  refine o_iconst X0 hx (3 : Int32) (hb hby d1_5) (pc' := 6) rfl (by decide) ?_
  refine o_iand X0 hx (hb hby d1_6) (pc' := 7) rfl ?_
  refine o_istore (x := (own_f1_x0 x1 x2 x3)) X0 hx (hb hby d1_7) (pc' := 9) rfl (L' := #[.val (.int x1), .val (.long x2), .second, .val (.int x3), .val (.int (own_f1_x0 x1 x2 x3))]) rfl ?_
  refine o_iload X0 hx (hb hby d1_9) (pc' := 11) rfl rfl ?_
  by_cases hc11_1 : (own_f1_x0 x1 x2 x3) = (0 : Int32)
  · refine o_ifN X0 hx (hb hby d1_11) (teq hc11_1).2 (pc' := 14) rfl ?_
    refine o_bipush X0 hx (32 : Int32) (hb hby d1_14) (pc' := 16) rfl (by decide) ?_
    rw [← hOWE]
    exact o_retB X0 hx rfl hlk hrt (hb hby d1_16) (by decide) (by decide) (by rw [e0]; exact ⟨(by rw [own_f1_ret, if_pos hc11_1]), N0, rfl⟩)
  · refine o_ifY X0 hx (hb hby d1_11) (feq hc11_1).2 (by decide) (pc' := 17) (by decide) ?_
    refine o_iload X0 hx (hb hby d1_17) (pc' := 19) rfl rfl ?_
    refine o_iconst X0 hx (1 : Int32) (hb hby d1_19) (pc' := 20) rfl (by decide) ?_
    by_cases hc20_2 : (own_f1_x0 x1 x2 x3) = (1 : Int32)
    · refine o_cmpN X0 hx (hb hby d1_20) (teq hc20_2).2 (pc' := 23) rfl ?_
      refine o_iconst X0 hx (0 : Int32) (hb hby d1_23) (pc' := 24) rfl (by decide) ?_
      rw [← hOWE]
      exact o_retB X0 hx rfl hlk hrt (hb hby d1_24) (by decide) (by decide) (by rw [e0]; exact ⟨(by rw [own_f1_ret, if_neg hc11_1, if_pos hc20_2]), N0, rfl⟩)
    · refine o_cmpY X0 hx (hb hby d1_20) (feq hc20_2).2 (by decide) (pc' := 25) (by decide) ?_
      refine o_lloadN X0 hx (hb hby d1_25) (pc' := 26) rfl rfl ?_
      refine o_bipush X0 hx (8 : Int32) (hb hby d1_26) (pc' := 28) rfl (by decide) ?_
      refine o_iloadN X0 hx (hb hby d1_28) (pc' := 29) rfl rfl ?_
      refine o_imul X0 hx (hb hby d1_29) (pc' := 30) rfl ?_
      refine o_lushr X0 hx (hb hby d1_30) (pc' := 31) rfl ?_
      refine o_l2i X0 hx (hb hby d1_31) (pc' := 32) rfl ?_
      refine o_i2b X0 hx (hb hby d1_32) (pc' := 33) rfl ?_
      rw [← hOWE]
      exact o_retB X0 hx (own_narB _) hlk hrt (hb hby d1_33) (by decide) (by decide) (by rw [e0]; exact ⟨(by rw [own_f1_ret, if_neg hc11_1, if_neg hc20_2]), N0, rfl⟩)
theorem d2_0 : decode prog_66_method_5_code 0 = .ok (.iload_n 1, 1) := by decide +kernel
theorem d2_1 : decode prog_66_method_5_code 1 = .ok (.iload_n 2, 1) := by decide +kernel
theorem d2_2 : decode prog_66_method_5_code 2 = .ok (.iadd, 1) := by decide +kernel
theorem d2_3 : decode prog_66_method_5_code 3 = .ok (.istore_n 3, 1) := by decide +kernel
theorem d2_4 : decode prog_66_method_5_code 4 = .ok (.iload_n 3, 1) := by decide +kernel
theorem d2_5 : decode prog_66_method_5_code 5 = .ok (.iload_n 1, 1) := by decide +kernel
theorem d2_6 : decode prog_66_method_5_code 6 = .ok (.if_icmp .le 27, 3) := by decide +kernel
theorem d2_9 : decode prog_66_method_5_code 9 = .ok (.aload_n 0, 1) := by decide +kernel
theorem d2_10 : decode prog_66_method_5_code 10 = .ok (.iload_n 3, 1) := by decide +kernel
theorem d2_11 : decode prog_66_method_5_code 11 = .ok (.iconst 1, 1) := by decide +kernel
theorem d2_12 : decode prog_66_method_5_code 12 = .ok (.isub, 1) := by decide +kernel
theorem d2_13 : decode prog_66_method_5_code 13 = .ok (.baload, 1) := by decide +kernel
theorem d2_14 : decode prog_66_method_5_code 14 = .ok (.bipush 32, 2) := by decide +kernel
theorem d2_16 : decode prog_66_method_5_code 16 = .ok (.if_icmp .eq 11, 3) := by decide +kernel
theorem d2_19 : decode prog_66_method_5_code 19 = .ok (.aload_n 0, 1) := by decide +kernel
theorem d2_20 : decode prog_66_method_5_code 20 = .ok (.iload_n 3, 1) := by decide +kernel
theorem d2_21 : decode prog_66_method_5_code 21 = .ok (.iconst 1, 1) := by decide +kernel
theorem d2_22 : decode prog_66_method_5_code 22 = .ok (.isub, 1) := by decide +kernel
theorem d2_23 : decode prog_66_method_5_code 23 = .ok (.baload, 1) := by decide +kernel
theorem d2_24 : decode prog_66_method_5_code 24 = .ok (.ifCond .ne 9, 3) := by decide +kernel
theorem d2_27 : decode prog_66_method_5_code 27 = .ok (.iinc 3 (-1), 3) := by decide +kernel
theorem d2_30 : decode prog_66_method_5_code 30 = .ok (.goto (-26), 3) := by decide +kernel
theorem d2_33 : decode prog_66_method_5_code 33 = .ok (.iload_n 3, 1) := by decide +kernel
theorem d2_34 : decode prog_66_method_5_code 34 = .ok (.iload_n 1, 1) := by decide +kernel
theorem d2_35 : decode prog_66_method_5_code 35 = .ok (.isub, 1) := by decide +kernel
theorem d2_36 : decode prog_66_method_5_code 36 = .ok (.ireturn, 1) := by decide +kernel
theorem pn_2 : plainName "com/example/fieldcast/fieldcast/StringDecoder" = true := by first | (simp [plainName, overriddenIn]; done) | decide +kernel
theorem ef_2 (m : MethodId) (x0 : Addr) (x1 : Int32) (x2 : Int32) : entryFrame m #[(.ref x0), (.int x1), (.int x2)] 4 = mkF m 0 #[.val (.ref x0), .val (.int x1), .val (.int x2), .unset] [] := by first | (simp [entryFrame, mkF, argsToLocals, Value.category]; done) | rfl
def Q2 (Z : State) (bb : Addr) (v0 : Int32) (v1 : Int32) (v2 : Int32) (v3 : Int32) (v4 : Int32) (v5 : Int32) (v6 : Int32) (v7 : Int32) (x1 : Int32) (x2 : Int32) (na : Nat) (nl : Nat) (k_bb : ClassId) (h0 : Heap) (n0 : Nat) (v : Option Value) (h : Heap) (L : List Loc) : Prop := v = some (.int ((Int32.ofNat (own_trim (own_b8 v0 v1 v2 v3 v4 v5 v6 v7) na (na + nl))) - x1)) ∧ Fr n0 L ∧ h = h0
set_option maxRecDepth 65536 in
set_option maxHeartbeats 40000000 in
theorem rm2 (l : Launch) (Z : State) (a0 : Array Value) (hw : ∀ d ∈ tables_1, d.before a0 Z = true) (ws : List Jvm.Cond) (bb : Addr) (v0 : Int32) (v1 : Int32) (v2 : Int32) (v3 : Int32) (v4 : Int32) (v5 : Int32) (v6 : Int32) (v7 : Int32) (x1 : Int32) (x2 : Int32) (na : Nat) (nl : Nat) (k_bb : ClassId) (h0 : Heap) (n0 : Nat) (Z0 : n0 ≤ h0.size) (V_bb : Arv Z h0 bb k_bb .byte (8 : Int32) [.int v0, .int v1, .int v2, .int v3, .int v4, .int v5, .int v6, .int v7] (.int (0 : Int32))) (ha : x1 = Int32.ofNat na) (hl : x2 = Int32.ofNat nl) (hle : na + nl ≤ 8) :
    Con l (⟨"com/example/fieldcast/fieldcast/StringDecoder", "unpadded", "([BII)I"⟩ : MethodName) prog_66_method_5_code 4 (some .int) ws ({ frames := 0, cells := 0, slots := 0, locals := 0 } : Room) #[(.ref bb), (.int x1), (.int x2)] Z h0 (Q2 Z bb v0 v1 v2 v3 v4 v5 v6 v7 x1 x2 na nl k_bb h0 n0) ({ frames := 0, cells := 0, slots := 0, locals := 0 } : Room).cells ({ frames := 0, cells := 0, slots := 0, locals := 0 } : Room).slots := by
  refine own_body (plainFor_of_name pn_2) ?_
  intro p e s m below meth c s₁ hx hby hlk hml hown hnm hrt hZ X0 e0
  have w : ∀ (k : Nat) (d : Jvm.Cond), tables_1[k]? = some d → d.before a0 Z = true := fun k d h => hw d (List.mem_of_getElem? h)
  have N0 := Fr.nil n0
  rw [ef_2]
  generalize hOWE : Owe s _ _ _ = OWE
  refine o_iloadN X0 hx (hb hby d2_0) (pc' := 1) rfl rfl ?_
  refine o_iloadN X0 hx (hb hby d2_1) (pc' := 2) rfl rfl ?_
  refine o_iadd X0 hx (hb hby d2_2) (pc' := 3) rfl ?_
  refine o_istoreN X0 hx (hb hby d2_3) (pc' := 4) rfl (L' := #[.val (.ref bb), .val (.int x1), .val (.int x2), .val (.int (x1 + x2))]) rfl ?_
  have loop : ∀ n : Nat, n ≤ 8 → Go p e below OWE (s₁.setTop (mkF m 33 #[.val (.ref bb), .val (.int x1), .val (.int x2), .val (.int (Int32.ofNat (own_trim (own_b8 v0 v1 v2 v3 v4 v5 v6 v7) na n)))] [])) → Go p e below OWE (s₁.setTop (mkF m 4 #[.val (.ref bb), .val (.int x1), .val (.int x2), .val (.int (Int32.ofNat n))] [])) := by
    intro n
    induction n with
    | zero =>
      intro hn K
      refine o_iloadN X0 hx (hb hby d2_4) (pc' := 5) rfl rfl ?_
      refine o_iloadN X0 hx (hb hby d2_5) (pc' := 6) rfl rfl ?_
      refine o_cmpY X0 hx (hb hby d2_6) (flt (by rw [ha, own_lt8 (by omega) (by omega)]; omega)).2.2.2 (by decide) (pc' := 33) (by decide) ?_
      exact K
    | succ n ih =>
      intro hn K
      refine o_iloadN X0 hx (hb hby d2_4) (pc' := 5) rfl rfl ?_
      refine o_iloadN X0 hx (hb hby d2_5) (pc' := 6) rfl rfl ?_
      by_cases hc : x1 < (Int32.ofNat (n + 1))
      · refine o_cmpN X0 hx (hb hby d2_6) (tlt hc).2.2.2 (pc' := 9) rfl ?_
        have hna : ¬ n + 1 ≤ na := by rw [ha, own_lt8 (by omega) (by omega)] at hc; omega
        refine o_aloadN X0 hx (hb hby d2_9) (pc' := 10) rfl rfl rfl ?_
        refine o_iloadN X0 hx (hb hby d2_10) (pc' := 11) rfl rfl ?_
        refine o_iconst X0 hx (1 : Int32) (hb hby d2_11) (pc' := 12) rfl rfl ?_
        refine o_isub X0 hx (hb hby d2_12) (pc' := 13) rfl ?_
        rw [own_dec n]
        refine o_baload X0 hx hZ (.int ((own_b8 v0 v1 v2 v3 v4 v5 v6 v7) n)) e0 V_bb (own_in8 (by omega)) (by rw [own_ix8 (by omega)]; exact own_b8_at _ _ _ _ _ _ _ _ _) (hb hby d2_13) (pc' := 14) rfl ?_
        refine o_bipush X0 hx (32 : Int32) (hb hby d2_14) (pc' := 16) rfl (by decide) ?_
        by_cases h32 : (own_b8 v0 v1 v2 v3 v4 v5 v6 v7) n = 32
        · refine o_cmpY X0 hx (hb hby d2_16) (teq h32).1 (by decide) (pc' := 27) (by decide) ?_
          refine o_iinc X0 hx (hb hby d2_27) (pc' := 30) rfl rfl (v' := Int32.ofNat n) (own_inc n) (L' := #[.val (.ref bb), .val (.int x1), .val (.int x2), .val (.int (Int32.ofNat n))]) rfl ?_
          refine o_goto X0 hx (hb hby d2_30) (by decide) (pc' := 4) (by decide) ?_
          refine ih (by omega) ?_
          rw [own_trim, if_neg hna, if_pos h32] at K
          exact K
        · refine o_cmpN X0 hx (hb hby d2_16) (feq h32).1 (pc' := 19) rfl ?_
          refine o_aloadN X0 hx (hb hby d2_19) (pc' := 20) rfl rfl rfl ?_
          refine o_iloadN X0 hx (hb hby d2_20) (pc' := 21) rfl rfl ?_
          refine o_iconst X0 hx (1 : Int32) (hb hby d2_21) (pc' := 22) rfl rfl ?_
          refine o_isub X0 hx (hb hby d2_22) (pc' := 23) rfl ?_
          rw [own_dec n]
          refine o_baload X0 hx hZ (.int ((own_b8 v0 v1 v2 v3 v4 v5 v6 v7) n)) e0 V_bb (own_in8 (by omega)) (by rw [own_ix8 (by omega)]; exact own_b8_at _ _ _ _ _ _ _ _ _) (hb hby d2_23) (pc' := 24) rfl ?_
          by_cases h0 : (own_b8 v0 v1 v2 v3 v4 v5 v6 v7) n = 0
          · refine o_ifN X0 hx (hb hby d2_24) (teq h0).2 (pc' := 27) rfl ?_
            refine o_iinc X0 hx (hb hby d2_27) (pc' := 30) rfl rfl (v' := Int32.ofNat n) (own_inc n) (L' := #[.val (.ref bb), .val (.int x1), .val (.int x2), .val (.int (Int32.ofNat n))]) rfl ?_
            refine o_goto X0 hx (hb hby d2_30) (by decide) (pc' := 4) (by decide) ?_
            refine ih (by omega) ?_
            rw [own_trim, if_neg hna, if_neg h32, if_pos h0] at K
            exact K
          · refine o_ifY X0 hx (hb hby d2_24) (feq h0).2 (by decide) (pc' := 33) (by decide) ?_
            rw [own_trim, if_neg hna, if_neg h32, if_neg h0] at K
            exact K
      · refine o_cmpY X0 hx (hb hby d2_6) (flt hc).2.2.2 (by decide) (pc' := 33) (by decide) ?_
        have hna : n + 1 ≤ na := by rw [ha, own_lt8 (by omega) (by omega)] at hc; omega
        rw [own_trim, if_pos hna] at K
        exact K
  have hst : (x1 + x2) = Int32.ofNat (na + nl) := by rw [ha, hl]; exact (Int32.ofNat_add na nl).symm
  rw [hst]
  refine loop (na + nl) hle ?_
  refine o_iloadN X0 hx (hb hby d2_33) (pc' := 34) rfl rfl ?_
  refine o_iloadN X0 hx (hb hby d2_34) (pc' := 35) rfl rfl ?_
  refine o_isub X0 hx (hb hby d2_35) (pc' := 36) rfl ?_
  rw [← hOWE]
  exact o_retI X0 hx hlk hrt (hb hby d2_36) (by decide) (by decide) (by rw [e0]; exact ⟨rfl, N0, rfl⟩)
theorem d4_0 : decode method_3_code 0 = .ok (.iload_n 0, 1) := by decide +kernel
theorem d4_1 : decode method_3_code 1 = .ok (.bipush 32, 2) := by decide +kernel
theorem d4_3 : decode method_3_code 3 = .ok (.if_icmp .eq 7, 3) := by decide +kernel
theorem d4_6 : decode method_3_code 6 = .ok (.iload_n 0, 1) := by decide +kernel
theorem d4_7 : decode method_3_code 7 = .ok (.ifCond .ne 7, 3) := by decide +kernel
theorem d4_10 : decode method_3_code 10 = .ok (.iconst 1, 1) := by decide +kernel
theorem d4_11 : decode method_3_code 11 = .ok (.goto 4, 3) := by decide +kernel
theorem d4_14 : decode method_3_code 14 = .ok (.iconst 0, 1) := by decide +kernel
theorem d4_15 : decode method_3_code 15 = .ok (.ireturn, 1) := by decide +kernel
theorem ef_4 (m : MethodId) (x0 : Int32) : entryFrame m #[(.int x0)] 1 = mkF m 0 #[.val (.int x0)] [] := by first | (simp [entryFrame, mkF, argsToLocals, Value.category]; done) | rfl
def own_f4_ret (x1 : Int32) : Int32 := (if x1 = (32 : Int32) then (1 : Int32) else (if x1 = (0 : Int32) then (1 : Int32) else (0 : Int32)))
theorem own_f4_ret_01 (x1 : Int32) : (own_f4_ret x1) = 0 ∨ (own_f4_ret x1) = 1 := by
  unfold own_f4_ret
  repeat' split
  all_goals first | exact Or.inl rfl | exact Or.inr rfl
def Q4 (Z : State) (x1 : Int32) (h0 : Heap) (n0 : Nat) (v : Option Value) (h : Heap) (L : List Loc) : Prop := v = some (.int (own_f4_ret x1)) ∧ Fr n0 L ∧ h = h0
set_option maxRecDepth 65536 in
set_option maxHeartbeats 40000000 in
theorem rm4 (l : Launch) (Z : State) (a0 : Array Value) (hw : ∀ d ∈ tables_1, d.before a0 Z = true) (ws : List Jvm.Cond) (x1 : Int32) (h0 : Heap) (n0 : Nat) (Z0 : n0 ≤ h0.size)  :
    Con l (⟨"com/example/fieldcast/fieldcast/StringDecoderUnpaddedPinLaw", "pad", "(B)Z"⟩ : MethodName) method_3_code 1 (some .boolean) ws ({ frames := 0, cells := 0, slots := 0, locals := 0 } : Room) #[(.int x1)] Z h0 (Q4 Z x1 h0 n0) ({ frames := 0, cells := 0, slots := 0, locals := 0 } : Room).cells ({ frames := 0, cells := 0, slots := 0, locals := 0 } : Room).slots := by
  refine own_body (plainFor_of_name pn_1) ?_
  intro p e s m below meth c s₁ hx hby hlk hml hown hnm hrt hZ X0 e0
  have w : ∀ (k : Nat) (d : Jvm.Cond), tables_1[k]? = some d → d.before a0 Z = true := fun k d h => hw d (List.mem_of_getElem? h)
  have N0 := Fr.nil n0
  rw [ef_4]
  generalize hOWE : Owe s _ _ _ = OWE
  refine o_iloadN X0 hx (hb hby d4_0) (pc' := 1) rfl rfl ?_
  refine o_bipush X0 hx (32 : Int32) (hb hby d4_1) (pc' := 3) rfl (by decide) ?_
  by_cases hc3_1 : x1 = (32 : Int32)
  · refine o_cmpY X0 hx (hb hby d4_3) (teq hc3_1).1 (by decide) (pc' := 10) (by decide) ?_
    refine o_iconst X0 hx (1 : Int32) (hb hby d4_10) (pc' := 11) rfl (by decide) ?_
    refine o_goto X0 hx (hb hby d4_11) (by decide) (pc' := 15) (by decide) ?_
    rw [← hOWE]
    exact o_retZ X0 hx rfl hlk hrt (hb hby d4_15) (by decide) (by decide) (by rw [e0]; exact ⟨(by rw [own_f4_ret, if_pos hc3_1]), N0, rfl⟩)
  · refine o_cmpN X0 hx (hb hby d4_3) (feq hc3_1).1 (pc' := 6) rfl ?_
    refine o_iloadN X0 hx (hb hby d4_6) (pc' := 7) rfl rfl ?_
    by_cases hc7_2 : x1 = (0 : Int32)
    · refine o_ifN X0 hx (hb hby d4_7) (teq hc7_2).2 (pc' := 10) rfl ?_
      refine o_iconst X0 hx (1 : Int32) (hb hby d4_10) (pc' := 11) rfl (by decide) ?_
      refine o_goto X0 hx (hb hby d4_11) (by decide) (pc' := 15) (by decide) ?_
      rw [← hOWE]
      exact o_retZ X0 hx rfl hlk hrt (hb hby d4_15) (by decide) (by decide) (by rw [e0]; exact ⟨(by rw [own_f4_ret, if_neg hc3_1, if_pos hc7_2]), N0, rfl⟩)
    · refine o_ifY X0 hx (hb hby d4_7) (feq hc7_2).2 (by decide) (pc' := 14) (by decide) ?_
      refine o_iconst X0 hx (0 : Int32) (hb hby d4_14) (pc' := 15) rfl (by decide) ?_
      rw [← hOWE]
      exact o_retZ X0 hx rfl hlk hrt (hb hby d4_15) (by decide) (by decide) (by rw [e0]; exact ⟨(by rw [own_f4_ret, if_neg hc3_1, if_neg hc7_2]), N0, rfl⟩)
theorem d3_0 : decode method_4_code 0 = .ok (.iload_n 1, 1) := by decide +kernel
theorem d3_1 : decode method_4_code 1 = .ok (.iload_n 2, 1) := by decide +kernel
theorem d3_2 : decode method_4_code 2 = .ok (.iload_n 3, 1) := by decide +kernel
theorem d3_3 : decode method_4_code 3 = .ok (.iadd, 1) := by decide +kernel
theorem d3_4 : decode method_4_code 4 = .ok (.if_icmp .lt 18, 3) := by decide +kernel
theorem d3_7 : decode method_4_code 7 = .ok (.iload_n 1, 1) := by decide +kernel
theorem d3_8 : decode method_4_code 8 = .ok (.iload_n 2, 1) := by decide +kernel
theorem d3_9 : decode method_4_code 9 = .ok (.iload 4, 2) := by decide +kernel
theorem d3_11 : decode method_4_code 11 = .ok (.iadd, 1) := by decide +kernel
theorem d3_12 : decode method_4_code 12 = .ok (.if_icmp .ge 10, 3) := by decide +kernel
theorem d3_15 : decode method_4_code 15 = .ok (.aload_n 0, 1) := by decide +kernel
theorem d3_16 : decode method_4_code 16 = .ok (.iload_n 1, 1) := by decide +kernel
theorem d3_17 : decode method_4_code 17 = .ok (.baload, 1) := by decide +kernel
theorem d3_18 : decode method_4_code 18 = .ok (.invokestatic 7, 3) := by decide +kernel
theorem d3_21 : decode method_4_code 21 = .ok (.ireturn, 1) := by decide +kernel
theorem d3_22 : decode method_4_code 22 = .ok (.iconst 1, 1) := by decide +kernel
theorem d3_23 : decode method_4_code 23 = .ok (.ireturn, 1) := by decide +kernel
theorem ef_3_0 (m : MethodId) (x0 : Addr) (x1 : Int32) (x2 : Int32) (x3 : Int32) (x4 : Int32) : entryFrame m #[(.ref x0), (.int x1), (.int x2), (.int x3), (.int x4)] 5 = mkF m 0 #[.val (.ref x0), .val (.int x1), .val (.int x2), .val (.int x3), .val (.int x4)] [] := by first | (simp [entryFrame, mkF, argsToLocals, Value.category]; done) | rfl
def own_f3_0_ret (v0 : Int32) (v1 : Int32) (v2 : Int32) (v3 : Int32) (v4 : Int32) (v5 : Int32) (v6 : Int32) (v7 : Int32) (x2 : Int32) (x3 : Int32) (x4 : Int32) : Int32 := (if (0 : Int32) < (x2 + x3) then (1 : Int32) else (if (0 : Int32) < (x2 + x4) then (own_f4_ret v0) else (1 : Int32)))
theorem own_f3_0_ret_01 (v0 : Int32) (v1 : Int32) (v2 : Int32) (v3 : Int32) (v4 : Int32) (v5 : Int32) (v6 : Int32) (v7 : Int32) (x2 : Int32) (x3 : Int32) (x4 : Int32) : (own_f3_0_ret v0 v1 v2 v3 v4 v5 v6 v7 x2 x3 x4) = 0 ∨ (own_f3_0_ret v0 v1 v2 v3 v4 v5 v6 v7 x2 x3 x4) = 1 := by
  unfold own_f3_0_ret
  repeat' split
  all_goals first | exact Or.inl rfl | exact Or.inr rfl | exact (own_f4_ret_01 v0)
def Q3_0 (Z : State) (bb : Addr) (v0 : Int32) (v1 : Int32) (v2 : Int32) (v3 : Int32) (v4 : Int32) (v5 : Int32) (v6 : Int32) (v7 : Int32) (x2 : Int32) (x3 : Int32) (x4 : Int32) (k_bb : ClassId) (h0 : Heap) (n0 : Nat) (v : Option Value) (h : Heap) (L : List Loc) : Prop := v = some (.int (own_f3_0_ret v0 v1 v2 v3 v4 v5 v6 v7 x2 x3 x4)) ∧ Fr n0 L ∧ h = h0
set_option maxRecDepth 65536 in
set_option maxHeartbeats 40000000 in
theorem rm3_0 (l : Launch) (Z : State) (a0 : Array Value) (hw : ∀ d ∈ tables_1, d.before a0 Z = true) (ws : List Jvm.Cond) (bb : Addr) (v0 : Int32) (v1 : Int32) (v2 : Int32) (v3 : Int32) (v4 : Int32) (v5 : Int32) (v6 : Int32) (v7 : Int32) (x2 : Int32) (x3 : Int32) (x4 : Int32) (k_bb : ClassId) (h0 : Heap) (n0 : Nat) (Z0 : n0 ≤ h0.size) (V_bb : Arv Z h0 bb k_bb .byte (8 : Int32) [.int v0, .int v1, .int v2, .int v3, .int v4, .int v5, .int v6, .int v7] (.int (0 : Int32))) :
    Con l (⟨"com/example/fieldcast/fieldcast/StringDecoderUnpaddedPinLaw", "ok", "([BIIII)Z"⟩ : MethodName) method_4_code 5 (some .boolean) ws ({ frames := 1, cells := 0, slots := 0, locals := 12 } : Room) #[(.ref bb), (.int (0 : Int32)), (.int x2), (.int x3), (.int x4)] Z h0 (Q3_0 Z bb v0 v1 v2 v3 v4 v5 v6 v7 x2 x3 x4 k_bb h0 n0) ({ frames := 1, cells := 0, slots := 0, locals := 12 } : Room).cells ({ frames := 1, cells := 0, slots := 0, locals := 12 } : Room).slots := by
  refine own_body (plainFor_of_name pn_1) ?_
  intro p e s m below meth c s₁ hx hby hlk hml hown hnm hrt hZ X0 e0
  have w : ∀ (k : Nat) (d : Jvm.Cond), tables_1[k]? = some d → d.before a0 Z = true := fun k d h => hw d (List.mem_of_getElem? h)
  have N0 := Fr.nil n0
  rw [ef_3_0]
  generalize hOWE : Owe s _ _ _ = OWE
  refine o_iloadN X0 hx (hb hby d3_0) (pc' := 1) rfl rfl ?_
  refine o_iloadN X0 hx (hb hby d3_1) (pc' := 2) rfl rfl ?_
  refine o_iloadN X0 hx (hb hby d3_2) (pc' := 3) rfl rfl ?_
  refine o_iadd X0 hx (hb hby d3_3) (pc' := 4) rfl ?_
  by_cases hc4_1 : (0 : Int32) < (x2 + x3)
  · refine o_cmpY X0 hx (hb hby d3_4) (tlt hc4_1).1 (by decide) (pc' := 22) (by decide) ?_
    refine o_iconst X0 hx (1 : Int32) (hb hby d3_22) (pc' := 23) rfl (by decide) ?_
    rw [← hOWE]
    exact o_retZ X0 hx rfl hlk hrt (hb hby d3_23) (by decide) (by decide) (by rw [e0]; exact ⟨(by rw [own_f3_0_ret, if_pos hc4_1]), N0, rfl⟩)
  · refine o_cmpN X0 hx (hb hby d3_4) (flt hc4_1).1 (pc' := 7) rfl ?_
    refine o_iloadN X0 hx (hb hby d3_7) (pc' := 8) rfl rfl ?_
    refine o_iloadN X0 hx (hb hby d3_8) (pc' := 9) rfl rfl ?_
    refine o_iload X0 hx (hb hby d3_9) (pc' := 11) rfl rfl ?_
    refine o_iadd X0 hx (hb hby d3_11) (pc' := 12) rfl ?_
    by_cases hc12_2 : (0 : Int32) < (x2 + x4)
    · refine o_cmpN X0 hx (hb hby d3_12) (tlt hc12_2).2.1 (pc' := 15) rfl ?_
      refine o_aloadN X0 hx (hb hby d3_15) (pc' := 16) rfl rfl rfl ?_
      refine o_iloadN X0 hx (hb hby d3_16) (pc' := 17) rfl rfl ?_
      refine o_baload X0 hx hZ (.int v0) e0 V_bb (by decide) (by rfl) (hb hby d3_17) (pc' := 18) rfl ?_
      refine o_callS X0 hx hZ 0 (argsL := [.int v0]) (rest := []) hown (w 13 _ rfl) (w 14 _ rfl) (w 3 _ rfl) (w 15 _ rfl) (by decide) (rm4 l Z a0 hw [] v0 h0 n0 Z0 ) (by decide) (by decide) (cells' := 0) rfl (slots' := 0) rfl (by decide) (by decide) e0 (by rw [hml]; rfl) (lenOf pd_0 rfl) rfl rfl (hb hby d3_18) (pc' := 21) rfl ?_
      intro T3 v3 L3 X3 hQ3
      obtain ⟨rfl, Nq3, e3⟩ := hQ3
      have N3 := Fr.app N0 Nq3
      show Go p e below _ (T3.setTop (mkF m 21 _ [.int (own_f4_ret v0)]))
      rw [← hOWE]
      exact o_retZ X3 hx (own_narZ (own_f4_ret_01 v0)) hlk hrt (hb hby d3_21) (by decide) (by decide) (by rw [e3]; exact ⟨(by rw [own_f3_0_ret, if_neg hc4_1, if_pos hc12_2]), N3, rfl⟩)
    · refine o_cmpY X0 hx (hb hby d3_12) (flt hc12_2).2.1 (by decide) (pc' := 22) (by decide) ?_
      refine o_iconst X0 hx (1 : Int32) (hb hby d3_22) (pc' := 23) rfl (by decide) ?_
      rw [← hOWE]
      exact o_retZ X0 hx rfl hlk hrt (hb hby d3_23) (by decide) (by decide) (by rw [e0]; exact ⟨(by rw [own_f3_0_ret, if_neg hc4_1, if_neg hc12_2]), N0, rfl⟩)
theorem ef_3_1 (m : MethodId) (x0 : Addr) (x1 : Int32) (x2 : Int32) (x3 : Int32) (x4 : Int32) : entryFrame m #[(.ref x0), (.int x1), (.int x2), (.int x3), (.int x4)] 5 = mkF m 0 #[.val (.ref x0), .val (.int x1), .val (.int x2), .val (.int x3), .val (.int x4)] [] := by first | (simp [entryFrame, mkF, argsToLocals, Value.category]; done) | rfl
def own_f3_1_ret (v0 : Int32) (v1 : Int32) (v2 : Int32) (v3 : Int32) (v4 : Int32) (v5 : Int32) (v6 : Int32) (v7 : Int32) (x2 : Int32) (x3 : Int32) (x4 : Int32) : Int32 := (if (1 : Int32) < (x2 + x3) then (1 : Int32) else (if (1 : Int32) < (x2 + x4) then (own_f4_ret v1) else (1 : Int32)))
theorem own_f3_1_ret_01 (v0 : Int32) (v1 : Int32) (v2 : Int32) (v3 : Int32) (v4 : Int32) (v5 : Int32) (v6 : Int32) (v7 : Int32) (x2 : Int32) (x3 : Int32) (x4 : Int32) : (own_f3_1_ret v0 v1 v2 v3 v4 v5 v6 v7 x2 x3 x4) = 0 ∨ (own_f3_1_ret v0 v1 v2 v3 v4 v5 v6 v7 x2 x3 x4) = 1 := by
  unfold own_f3_1_ret
  repeat' split
  all_goals first | exact Or.inl rfl | exact Or.inr rfl | exact (own_f4_ret_01 v1)
def Q3_1 (Z : State) (bb : Addr) (v0 : Int32) (v1 : Int32) (v2 : Int32) (v3 : Int32) (v4 : Int32) (v5 : Int32) (v6 : Int32) (v7 : Int32) (x2 : Int32) (x3 : Int32) (x4 : Int32) (k_bb : ClassId) (h0 : Heap) (n0 : Nat) (v : Option Value) (h : Heap) (L : List Loc) : Prop := v = some (.int (own_f3_1_ret v0 v1 v2 v3 v4 v5 v6 v7 x2 x3 x4)) ∧ Fr n0 L ∧ h = h0
set_option maxRecDepth 65536 in
set_option maxHeartbeats 40000000 in
theorem rm3_1 (l : Launch) (Z : State) (a0 : Array Value) (hw : ∀ d ∈ tables_1, d.before a0 Z = true) (ws : List Jvm.Cond) (bb : Addr) (v0 : Int32) (v1 : Int32) (v2 : Int32) (v3 : Int32) (v4 : Int32) (v5 : Int32) (v6 : Int32) (v7 : Int32) (x2 : Int32) (x3 : Int32) (x4 : Int32) (k_bb : ClassId) (h0 : Heap) (n0 : Nat) (Z0 : n0 ≤ h0.size) (V_bb : Arv Z h0 bb k_bb .byte (8 : Int32) [.int v0, .int v1, .int v2, .int v3, .int v4, .int v5, .int v6, .int v7] (.int (0 : Int32))) :
    Con l (⟨"com/example/fieldcast/fieldcast/StringDecoderUnpaddedPinLaw", "ok", "([BIIII)Z"⟩ : MethodName) method_4_code 5 (some .boolean) ws ({ frames := 1, cells := 0, slots := 0, locals := 12 } : Room) #[(.ref bb), (.int (1 : Int32)), (.int x2), (.int x3), (.int x4)] Z h0 (Q3_1 Z bb v0 v1 v2 v3 v4 v5 v6 v7 x2 x3 x4 k_bb h0 n0) ({ frames := 1, cells := 0, slots := 0, locals := 12 } : Room).cells ({ frames := 1, cells := 0, slots := 0, locals := 12 } : Room).slots := by
  refine own_body (plainFor_of_name pn_1) ?_
  intro p e s m below meth c s₁ hx hby hlk hml hown hnm hrt hZ X0 e0
  have w : ∀ (k : Nat) (d : Jvm.Cond), tables_1[k]? = some d → d.before a0 Z = true := fun k d h => hw d (List.mem_of_getElem? h)
  have N0 := Fr.nil n0
  rw [ef_3_1]
  generalize hOWE : Owe s _ _ _ = OWE
  refine o_iloadN X0 hx (hb hby d3_0) (pc' := 1) rfl rfl ?_
  refine o_iloadN X0 hx (hb hby d3_1) (pc' := 2) rfl rfl ?_
  refine o_iloadN X0 hx (hb hby d3_2) (pc' := 3) rfl rfl ?_
  refine o_iadd X0 hx (hb hby d3_3) (pc' := 4) rfl ?_
  by_cases hc4_1 : (1 : Int32) < (x2 + x3)
  · refine o_cmpY X0 hx (hb hby d3_4) (tlt hc4_1).1 (by decide) (pc' := 22) (by decide) ?_
    refine o_iconst X0 hx (1 : Int32) (hb hby d3_22) (pc' := 23) rfl (by decide) ?_
    rw [← hOWE]
    exact o_retZ X0 hx rfl hlk hrt (hb hby d3_23) (by decide) (by decide) (by rw [e0]; exact ⟨(by rw [own_f3_1_ret, if_pos hc4_1]), N0, rfl⟩)
  · refine o_cmpN X0 hx (hb hby d3_4) (flt hc4_1).1 (pc' := 7) rfl ?_
    refine o_iloadN X0 hx (hb hby d3_7) (pc' := 8) rfl rfl ?_
    refine o_iloadN X0 hx (hb hby d3_8) (pc' := 9) rfl rfl ?_
    refine o_iload X0 hx (hb hby d3_9) (pc' := 11) rfl rfl ?_
    refine o_iadd X0 hx (hb hby d3_11) (pc' := 12) rfl ?_
    by_cases hc12_2 : (1 : Int32) < (x2 + x4)
    · refine o_cmpN X0 hx (hb hby d3_12) (tlt hc12_2).2.1 (pc' := 15) rfl ?_
      refine o_aloadN X0 hx (hb hby d3_15) (pc' := 16) rfl rfl rfl ?_
      refine o_iloadN X0 hx (hb hby d3_16) (pc' := 17) rfl rfl ?_
      refine o_baload X0 hx hZ (.int v1) e0 V_bb (by decide) (by rfl) (hb hby d3_17) (pc' := 18) rfl ?_
      refine o_callS X0 hx hZ 0 (argsL := [.int v1]) (rest := []) hown (w 13 _ rfl) (w 14 _ rfl) (w 3 _ rfl) (w 15 _ rfl) (by decide) (rm4 l Z a0 hw [] v1 h0 n0 Z0 ) (by decide) (by decide) (cells' := 0) rfl (slots' := 0) rfl (by decide) (by decide) e0 (by rw [hml]; rfl) (lenOf pd_0 rfl) rfl rfl (hb hby d3_18) (pc' := 21) rfl ?_
      intro T3 v3 L3 X3 hQ3
      obtain ⟨rfl, Nq3, e3⟩ := hQ3
      have N3 := Fr.app N0 Nq3
      show Go p e below _ (T3.setTop (mkF m 21 _ [.int (own_f4_ret v1)]))
      rw [← hOWE]
      exact o_retZ X3 hx (own_narZ (own_f4_ret_01 v1)) hlk hrt (hb hby d3_21) (by decide) (by decide) (by rw [e3]; exact ⟨(by rw [own_f3_1_ret, if_neg hc4_1, if_pos hc12_2]), N3, rfl⟩)
    · refine o_cmpY X0 hx (hb hby d3_12) (flt hc12_2).2.1 (by decide) (pc' := 22) (by decide) ?_
      refine o_iconst X0 hx (1 : Int32) (hb hby d3_22) (pc' := 23) rfl (by decide) ?_
      rw [← hOWE]
      exact o_retZ X0 hx rfl hlk hrt (hb hby d3_23) (by decide) (by decide) (by rw [e0]; exact ⟨(by rw [own_f3_1_ret, if_neg hc4_1, if_neg hc12_2]), N0, rfl⟩)
theorem ef_3_2 (m : MethodId) (x0 : Addr) (x1 : Int32) (x2 : Int32) (x3 : Int32) (x4 : Int32) : entryFrame m #[(.ref x0), (.int x1), (.int x2), (.int x3), (.int x4)] 5 = mkF m 0 #[.val (.ref x0), .val (.int x1), .val (.int x2), .val (.int x3), .val (.int x4)] [] := by first | (simp [entryFrame, mkF, argsToLocals, Value.category]; done) | rfl
def own_f3_2_ret (v0 : Int32) (v1 : Int32) (v2 : Int32) (v3 : Int32) (v4 : Int32) (v5 : Int32) (v6 : Int32) (v7 : Int32) (x2 : Int32) (x3 : Int32) (x4 : Int32) : Int32 := (if (2 : Int32) < (x2 + x3) then (1 : Int32) else (if (2 : Int32) < (x2 + x4) then (own_f4_ret v2) else (1 : Int32)))
theorem own_f3_2_ret_01 (v0 : Int32) (v1 : Int32) (v2 : Int32) (v3 : Int32) (v4 : Int32) (v5 : Int32) (v6 : Int32) (v7 : Int32) (x2 : Int32) (x3 : Int32) (x4 : Int32) : (own_f3_2_ret v0 v1 v2 v3 v4 v5 v6 v7 x2 x3 x4) = 0 ∨ (own_f3_2_ret v0 v1 v2 v3 v4 v5 v6 v7 x2 x3 x4) = 1 := by
  unfold own_f3_2_ret
  repeat' split
  all_goals first | exact Or.inl rfl | exact Or.inr rfl | exact (own_f4_ret_01 v2)
def Q3_2 (Z : State) (bb : Addr) (v0 : Int32) (v1 : Int32) (v2 : Int32) (v3 : Int32) (v4 : Int32) (v5 : Int32) (v6 : Int32) (v7 : Int32) (x2 : Int32) (x3 : Int32) (x4 : Int32) (k_bb : ClassId) (h0 : Heap) (n0 : Nat) (v : Option Value) (h : Heap) (L : List Loc) : Prop := v = some (.int (own_f3_2_ret v0 v1 v2 v3 v4 v5 v6 v7 x2 x3 x4)) ∧ Fr n0 L ∧ h = h0
set_option maxRecDepth 65536 in
set_option maxHeartbeats 40000000 in
theorem rm3_2 (l : Launch) (Z : State) (a0 : Array Value) (hw : ∀ d ∈ tables_1, d.before a0 Z = true) (ws : List Jvm.Cond) (bb : Addr) (v0 : Int32) (v1 : Int32) (v2 : Int32) (v3 : Int32) (v4 : Int32) (v5 : Int32) (v6 : Int32) (v7 : Int32) (x2 : Int32) (x3 : Int32) (x4 : Int32) (k_bb : ClassId) (h0 : Heap) (n0 : Nat) (Z0 : n0 ≤ h0.size) (V_bb : Arv Z h0 bb k_bb .byte (8 : Int32) [.int v0, .int v1, .int v2, .int v3, .int v4, .int v5, .int v6, .int v7] (.int (0 : Int32))) :
    Con l (⟨"com/example/fieldcast/fieldcast/StringDecoderUnpaddedPinLaw", "ok", "([BIIII)Z"⟩ : MethodName) method_4_code 5 (some .boolean) ws ({ frames := 1, cells := 0, slots := 0, locals := 12 } : Room) #[(.ref bb), (.int (2 : Int32)), (.int x2), (.int x3), (.int x4)] Z h0 (Q3_2 Z bb v0 v1 v2 v3 v4 v5 v6 v7 x2 x3 x4 k_bb h0 n0) ({ frames := 1, cells := 0, slots := 0, locals := 12 } : Room).cells ({ frames := 1, cells := 0, slots := 0, locals := 12 } : Room).slots := by
  refine own_body (plainFor_of_name pn_1) ?_
  intro p e s m below meth c s₁ hx hby hlk hml hown hnm hrt hZ X0 e0
  have w : ∀ (k : Nat) (d : Jvm.Cond), tables_1[k]? = some d → d.before a0 Z = true := fun k d h => hw d (List.mem_of_getElem? h)
  have N0 := Fr.nil n0
  rw [ef_3_2]
  generalize hOWE : Owe s _ _ _ = OWE
  refine o_iloadN X0 hx (hb hby d3_0) (pc' := 1) rfl rfl ?_
  refine o_iloadN X0 hx (hb hby d3_1) (pc' := 2) rfl rfl ?_
  refine o_iloadN X0 hx (hb hby d3_2) (pc' := 3) rfl rfl ?_
  refine o_iadd X0 hx (hb hby d3_3) (pc' := 4) rfl ?_
  by_cases hc4_1 : (2 : Int32) < (x2 + x3)
  · refine o_cmpY X0 hx (hb hby d3_4) (tlt hc4_1).1 (by decide) (pc' := 22) (by decide) ?_
    refine o_iconst X0 hx (1 : Int32) (hb hby d3_22) (pc' := 23) rfl (by decide) ?_
    rw [← hOWE]
    exact o_retZ X0 hx rfl hlk hrt (hb hby d3_23) (by decide) (by decide) (by rw [e0]; exact ⟨(by rw [own_f3_2_ret, if_pos hc4_1]), N0, rfl⟩)
  · refine o_cmpN X0 hx (hb hby d3_4) (flt hc4_1).1 (pc' := 7) rfl ?_
    refine o_iloadN X0 hx (hb hby d3_7) (pc' := 8) rfl rfl ?_
    refine o_iloadN X0 hx (hb hby d3_8) (pc' := 9) rfl rfl ?_
    refine o_iload X0 hx (hb hby d3_9) (pc' := 11) rfl rfl ?_
    refine o_iadd X0 hx (hb hby d3_11) (pc' := 12) rfl ?_
    by_cases hc12_2 : (2 : Int32) < (x2 + x4)
    · refine o_cmpN X0 hx (hb hby d3_12) (tlt hc12_2).2.1 (pc' := 15) rfl ?_
      refine o_aloadN X0 hx (hb hby d3_15) (pc' := 16) rfl rfl rfl ?_
      refine o_iloadN X0 hx (hb hby d3_16) (pc' := 17) rfl rfl ?_
      refine o_baload X0 hx hZ (.int v2) e0 V_bb (by decide) (by rfl) (hb hby d3_17) (pc' := 18) rfl ?_
      refine o_callS X0 hx hZ 0 (argsL := [.int v2]) (rest := []) hown (w 13 _ rfl) (w 14 _ rfl) (w 3 _ rfl) (w 15 _ rfl) (by decide) (rm4 l Z a0 hw [] v2 h0 n0 Z0 ) (by decide) (by decide) (cells' := 0) rfl (slots' := 0) rfl (by decide) (by decide) e0 (by rw [hml]; rfl) (lenOf pd_0 rfl) rfl rfl (hb hby d3_18) (pc' := 21) rfl ?_
      intro T3 v3 L3 X3 hQ3
      obtain ⟨rfl, Nq3, e3⟩ := hQ3
      have N3 := Fr.app N0 Nq3
      show Go p e below _ (T3.setTop (mkF m 21 _ [.int (own_f4_ret v2)]))
      rw [← hOWE]
      exact o_retZ X3 hx (own_narZ (own_f4_ret_01 v2)) hlk hrt (hb hby d3_21) (by decide) (by decide) (by rw [e3]; exact ⟨(by rw [own_f3_2_ret, if_neg hc4_1, if_pos hc12_2]), N3, rfl⟩)
    · refine o_cmpY X0 hx (hb hby d3_12) (flt hc12_2).2.1 (by decide) (pc' := 22) (by decide) ?_
      refine o_iconst X0 hx (1 : Int32) (hb hby d3_22) (pc' := 23) rfl (by decide) ?_
      rw [← hOWE]
      exact o_retZ X0 hx rfl hlk hrt (hb hby d3_23) (by decide) (by decide) (by rw [e0]; exact ⟨(by rw [own_f3_2_ret, if_neg hc4_1, if_neg hc12_2]), N0, rfl⟩)
theorem ef_3_3 (m : MethodId) (x0 : Addr) (x1 : Int32) (x2 : Int32) (x3 : Int32) (x4 : Int32) : entryFrame m #[(.ref x0), (.int x1), (.int x2), (.int x3), (.int x4)] 5 = mkF m 0 #[.val (.ref x0), .val (.int x1), .val (.int x2), .val (.int x3), .val (.int x4)] [] := by first | (simp [entryFrame, mkF, argsToLocals, Value.category]; done) | rfl
def own_f3_3_ret (v0 : Int32) (v1 : Int32) (v2 : Int32) (v3 : Int32) (v4 : Int32) (v5 : Int32) (v6 : Int32) (v7 : Int32) (x2 : Int32) (x3 : Int32) (x4 : Int32) : Int32 := (if (3 : Int32) < (x2 + x3) then (1 : Int32) else (if (3 : Int32) < (x2 + x4) then (own_f4_ret v3) else (1 : Int32)))
theorem own_f3_3_ret_01 (v0 : Int32) (v1 : Int32) (v2 : Int32) (v3 : Int32) (v4 : Int32) (v5 : Int32) (v6 : Int32) (v7 : Int32) (x2 : Int32) (x3 : Int32) (x4 : Int32) : (own_f3_3_ret v0 v1 v2 v3 v4 v5 v6 v7 x2 x3 x4) = 0 ∨ (own_f3_3_ret v0 v1 v2 v3 v4 v5 v6 v7 x2 x3 x4) = 1 := by
  unfold own_f3_3_ret
  repeat' split
  all_goals first | exact Or.inl rfl | exact Or.inr rfl | exact (own_f4_ret_01 v3)
def Q3_3 (Z : State) (bb : Addr) (v0 : Int32) (v1 : Int32) (v2 : Int32) (v3 : Int32) (v4 : Int32) (v5 : Int32) (v6 : Int32) (v7 : Int32) (x2 : Int32) (x3 : Int32) (x4 : Int32) (k_bb : ClassId) (h0 : Heap) (n0 : Nat) (v : Option Value) (h : Heap) (L : List Loc) : Prop := v = some (.int (own_f3_3_ret v0 v1 v2 v3 v4 v5 v6 v7 x2 x3 x4)) ∧ Fr n0 L ∧ h = h0
set_option maxRecDepth 65536 in
set_option maxHeartbeats 40000000 in
theorem rm3_3 (l : Launch) (Z : State) (a0 : Array Value) (hw : ∀ d ∈ tables_1, d.before a0 Z = true) (ws : List Jvm.Cond) (bb : Addr) (v0 : Int32) (v1 : Int32) (v2 : Int32) (v3 : Int32) (v4 : Int32) (v5 : Int32) (v6 : Int32) (v7 : Int32) (x2 : Int32) (x3 : Int32) (x4 : Int32) (k_bb : ClassId) (h0 : Heap) (n0 : Nat) (Z0 : n0 ≤ h0.size) (V_bb : Arv Z h0 bb k_bb .byte (8 : Int32) [.int v0, .int v1, .int v2, .int v3, .int v4, .int v5, .int v6, .int v7] (.int (0 : Int32))) :
    Con l (⟨"com/example/fieldcast/fieldcast/StringDecoderUnpaddedPinLaw", "ok", "([BIIII)Z"⟩ : MethodName) method_4_code 5 (some .boolean) ws ({ frames := 1, cells := 0, slots := 0, locals := 12 } : Room) #[(.ref bb), (.int (3 : Int32)), (.int x2), (.int x3), (.int x4)] Z h0 (Q3_3 Z bb v0 v1 v2 v3 v4 v5 v6 v7 x2 x3 x4 k_bb h0 n0) ({ frames := 1, cells := 0, slots := 0, locals := 12 } : Room).cells ({ frames := 1, cells := 0, slots := 0, locals := 12 } : Room).slots := by
  refine own_body (plainFor_of_name pn_1) ?_
  intro p e s m below meth c s₁ hx hby hlk hml hown hnm hrt hZ X0 e0
  have w : ∀ (k : Nat) (d : Jvm.Cond), tables_1[k]? = some d → d.before a0 Z = true := fun k d h => hw d (List.mem_of_getElem? h)
  have N0 := Fr.nil n0
  rw [ef_3_3]
  generalize hOWE : Owe s _ _ _ = OWE
  refine o_iloadN X0 hx (hb hby d3_0) (pc' := 1) rfl rfl ?_
  refine o_iloadN X0 hx (hb hby d3_1) (pc' := 2) rfl rfl ?_
  refine o_iloadN X0 hx (hb hby d3_2) (pc' := 3) rfl rfl ?_
  refine o_iadd X0 hx (hb hby d3_3) (pc' := 4) rfl ?_
  by_cases hc4_1 : (3 : Int32) < (x2 + x3)
  · refine o_cmpY X0 hx (hb hby d3_4) (tlt hc4_1).1 (by decide) (pc' := 22) (by decide) ?_
    refine o_iconst X0 hx (1 : Int32) (hb hby d3_22) (pc' := 23) rfl (by decide) ?_
    rw [← hOWE]
    exact o_retZ X0 hx rfl hlk hrt (hb hby d3_23) (by decide) (by decide) (by rw [e0]; exact ⟨(by rw [own_f3_3_ret, if_pos hc4_1]), N0, rfl⟩)
  · refine o_cmpN X0 hx (hb hby d3_4) (flt hc4_1).1 (pc' := 7) rfl ?_
    refine o_iloadN X0 hx (hb hby d3_7) (pc' := 8) rfl rfl ?_
    refine o_iloadN X0 hx (hb hby d3_8) (pc' := 9) rfl rfl ?_
    refine o_iload X0 hx (hb hby d3_9) (pc' := 11) rfl rfl ?_
    refine o_iadd X0 hx (hb hby d3_11) (pc' := 12) rfl ?_
    by_cases hc12_2 : (3 : Int32) < (x2 + x4)
    · refine o_cmpN X0 hx (hb hby d3_12) (tlt hc12_2).2.1 (pc' := 15) rfl ?_
      refine o_aloadN X0 hx (hb hby d3_15) (pc' := 16) rfl rfl rfl ?_
      refine o_iloadN X0 hx (hb hby d3_16) (pc' := 17) rfl rfl ?_
      refine o_baload X0 hx hZ (.int v3) e0 V_bb (by decide) (by rfl) (hb hby d3_17) (pc' := 18) rfl ?_
      refine o_callS X0 hx hZ 0 (argsL := [.int v3]) (rest := []) hown (w 13 _ rfl) (w 14 _ rfl) (w 3 _ rfl) (w 15 _ rfl) (by decide) (rm4 l Z a0 hw [] v3 h0 n0 Z0 ) (by decide) (by decide) (cells' := 0) rfl (slots' := 0) rfl (by decide) (by decide) e0 (by rw [hml]; rfl) (lenOf pd_0 rfl) rfl rfl (hb hby d3_18) (pc' := 21) rfl ?_
      intro T3 v3 L3 X3 hQ3
      obtain ⟨rfl, Nq3, e3⟩ := hQ3
      have N3 := Fr.app N0 Nq3
      show Go p e below _ (T3.setTop (mkF m 21 _ [.int (own_f4_ret v3)]))
      rw [← hOWE]
      exact o_retZ X3 hx (own_narZ (own_f4_ret_01 v3)) hlk hrt (hb hby d3_21) (by decide) (by decide) (by rw [e3]; exact ⟨(by rw [own_f3_3_ret, if_neg hc4_1, if_pos hc12_2]), N3, rfl⟩)
    · refine o_cmpY X0 hx (hb hby d3_12) (flt hc12_2).2.1 (by decide) (pc' := 22) (by decide) ?_
      refine o_iconst X0 hx (1 : Int32) (hb hby d3_22) (pc' := 23) rfl (by decide) ?_
      rw [← hOWE]
      exact o_retZ X0 hx rfl hlk hrt (hb hby d3_23) (by decide) (by decide) (by rw [e0]; exact ⟨(by rw [own_f3_3_ret, if_neg hc4_1, if_neg hc12_2]), N0, rfl⟩)
theorem ef_3_4 (m : MethodId) (x0 : Addr) (x1 : Int32) (x2 : Int32) (x3 : Int32) (x4 : Int32) : entryFrame m #[(.ref x0), (.int x1), (.int x2), (.int x3), (.int x4)] 5 = mkF m 0 #[.val (.ref x0), .val (.int x1), .val (.int x2), .val (.int x3), .val (.int x4)] [] := by first | (simp [entryFrame, mkF, argsToLocals, Value.category]; done) | rfl
def own_f3_4_ret (v0 : Int32) (v1 : Int32) (v2 : Int32) (v3 : Int32) (v4 : Int32) (v5 : Int32) (v6 : Int32) (v7 : Int32) (x2 : Int32) (x3 : Int32) (x4 : Int32) : Int32 := (if (4 : Int32) < (x2 + x3) then (1 : Int32) else (if (4 : Int32) < (x2 + x4) then (own_f4_ret v4) else (1 : Int32)))
theorem own_f3_4_ret_01 (v0 : Int32) (v1 : Int32) (v2 : Int32) (v3 : Int32) (v4 : Int32) (v5 : Int32) (v6 : Int32) (v7 : Int32) (x2 : Int32) (x3 : Int32) (x4 : Int32) : (own_f3_4_ret v0 v1 v2 v3 v4 v5 v6 v7 x2 x3 x4) = 0 ∨ (own_f3_4_ret v0 v1 v2 v3 v4 v5 v6 v7 x2 x3 x4) = 1 := by
  unfold own_f3_4_ret
  repeat' split
  all_goals first | exact Or.inl rfl | exact Or.inr rfl | exact (own_f4_ret_01 v4)
def Q3_4 (Z : State) (bb : Addr) (v0 : Int32) (v1 : Int32) (v2 : Int32) (v3 : Int32) (v4 : Int32) (v5 : Int32) (v6 : Int32) (v7 : Int32) (x2 : Int32) (x3 : Int32) (x4 : Int32) (k_bb : ClassId) (h0 : Heap) (n0 : Nat) (v : Option Value) (h : Heap) (L : List Loc) : Prop := v = some (.int (own_f3_4_ret v0 v1 v2 v3 v4 v5 v6 v7 x2 x3 x4)) ∧ Fr n0 L ∧ h = h0
set_option maxRecDepth 65536 in
set_option maxHeartbeats 40000000 in
theorem rm3_4 (l : Launch) (Z : State) (a0 : Array Value) (hw : ∀ d ∈ tables_1, d.before a0 Z = true) (ws : List Jvm.Cond) (bb : Addr) (v0 : Int32) (v1 : Int32) (v2 : Int32) (v3 : Int32) (v4 : Int32) (v5 : Int32) (v6 : Int32) (v7 : Int32) (x2 : Int32) (x3 : Int32) (x4 : Int32) (k_bb : ClassId) (h0 : Heap) (n0 : Nat) (Z0 : n0 ≤ h0.size) (V_bb : Arv Z h0 bb k_bb .byte (8 : Int32) [.int v0, .int v1, .int v2, .int v3, .int v4, .int v5, .int v6, .int v7] (.int (0 : Int32))) :
    Con l (⟨"com/example/fieldcast/fieldcast/StringDecoderUnpaddedPinLaw", "ok", "([BIIII)Z"⟩ : MethodName) method_4_code 5 (some .boolean) ws ({ frames := 1, cells := 0, slots := 0, locals := 12 } : Room) #[(.ref bb), (.int (4 : Int32)), (.int x2), (.int x3), (.int x4)] Z h0 (Q3_4 Z bb v0 v1 v2 v3 v4 v5 v6 v7 x2 x3 x4 k_bb h0 n0) ({ frames := 1, cells := 0, slots := 0, locals := 12 } : Room).cells ({ frames := 1, cells := 0, slots := 0, locals := 12 } : Room).slots := by
  refine own_body (plainFor_of_name pn_1) ?_
  intro p e s m below meth c s₁ hx hby hlk hml hown hnm hrt hZ X0 e0
  have w : ∀ (k : Nat) (d : Jvm.Cond), tables_1[k]? = some d → d.before a0 Z = true := fun k d h => hw d (List.mem_of_getElem? h)
  have N0 := Fr.nil n0
  rw [ef_3_4]
  generalize hOWE : Owe s _ _ _ = OWE
  refine o_iloadN X0 hx (hb hby d3_0) (pc' := 1) rfl rfl ?_
  refine o_iloadN X0 hx (hb hby d3_1) (pc' := 2) rfl rfl ?_
  refine o_iloadN X0 hx (hb hby d3_2) (pc' := 3) rfl rfl ?_
  refine o_iadd X0 hx (hb hby d3_3) (pc' := 4) rfl ?_
  by_cases hc4_1 : (4 : Int32) < (x2 + x3)
  · refine o_cmpY X0 hx (hb hby d3_4) (tlt hc4_1).1 (by decide) (pc' := 22) (by decide) ?_
    refine o_iconst X0 hx (1 : Int32) (hb hby d3_22) (pc' := 23) rfl (by decide) ?_
    rw [← hOWE]
    exact o_retZ X0 hx rfl hlk hrt (hb hby d3_23) (by decide) (by decide) (by rw [e0]; exact ⟨(by rw [own_f3_4_ret, if_pos hc4_1]), N0, rfl⟩)
  · refine o_cmpN X0 hx (hb hby d3_4) (flt hc4_1).1 (pc' := 7) rfl ?_
    refine o_iloadN X0 hx (hb hby d3_7) (pc' := 8) rfl rfl ?_
    refine o_iloadN X0 hx (hb hby d3_8) (pc' := 9) rfl rfl ?_
    refine o_iload X0 hx (hb hby d3_9) (pc' := 11) rfl rfl ?_
    refine o_iadd X0 hx (hb hby d3_11) (pc' := 12) rfl ?_
    by_cases hc12_2 : (4 : Int32) < (x2 + x4)
    · refine o_cmpN X0 hx (hb hby d3_12) (tlt hc12_2).2.1 (pc' := 15) rfl ?_
      refine o_aloadN X0 hx (hb hby d3_15) (pc' := 16) rfl rfl rfl ?_
      refine o_iloadN X0 hx (hb hby d3_16) (pc' := 17) rfl rfl ?_
      refine o_baload X0 hx hZ (.int v4) e0 V_bb (by decide) (by rfl) (hb hby d3_17) (pc' := 18) rfl ?_
      refine o_callS X0 hx hZ 0 (argsL := [.int v4]) (rest := []) hown (w 13 _ rfl) (w 14 _ rfl) (w 3 _ rfl) (w 15 _ rfl) (by decide) (rm4 l Z a0 hw [] v4 h0 n0 Z0 ) (by decide) (by decide) (cells' := 0) rfl (slots' := 0) rfl (by decide) (by decide) e0 (by rw [hml]; rfl) (lenOf pd_0 rfl) rfl rfl (hb hby d3_18) (pc' := 21) rfl ?_
      intro T3 v3 L3 X3 hQ3
      obtain ⟨rfl, Nq3, e3⟩ := hQ3
      have N3 := Fr.app N0 Nq3
      show Go p e below _ (T3.setTop (mkF m 21 _ [.int (own_f4_ret v4)]))
      rw [← hOWE]
      exact o_retZ X3 hx (own_narZ (own_f4_ret_01 v4)) hlk hrt (hb hby d3_21) (by decide) (by decide) (by rw [e3]; exact ⟨(by rw [own_f3_4_ret, if_neg hc4_1, if_pos hc12_2]), N3, rfl⟩)
    · refine o_cmpY X0 hx (hb hby d3_12) (flt hc12_2).2.1 (by decide) (pc' := 22) (by decide) ?_
      refine o_iconst X0 hx (1 : Int32) (hb hby d3_22) (pc' := 23) rfl (by decide) ?_
      rw [← hOWE]
      exact o_retZ X0 hx rfl hlk hrt (hb hby d3_23) (by decide) (by decide) (by rw [e0]; exact ⟨(by rw [own_f3_4_ret, if_neg hc4_1, if_neg hc12_2]), N0, rfl⟩)
theorem ef_3_5 (m : MethodId) (x0 : Addr) (x1 : Int32) (x2 : Int32) (x3 : Int32) (x4 : Int32) : entryFrame m #[(.ref x0), (.int x1), (.int x2), (.int x3), (.int x4)] 5 = mkF m 0 #[.val (.ref x0), .val (.int x1), .val (.int x2), .val (.int x3), .val (.int x4)] [] := by first | (simp [entryFrame, mkF, argsToLocals, Value.category]; done) | rfl
def own_f3_5_ret (v0 : Int32) (v1 : Int32) (v2 : Int32) (v3 : Int32) (v4 : Int32) (v5 : Int32) (v6 : Int32) (v7 : Int32) (x2 : Int32) (x3 : Int32) (x4 : Int32) : Int32 := (if (5 : Int32) < (x2 + x3) then (1 : Int32) else (if (5 : Int32) < (x2 + x4) then (own_f4_ret v5) else (1 : Int32)))
theorem own_f3_5_ret_01 (v0 : Int32) (v1 : Int32) (v2 : Int32) (v3 : Int32) (v4 : Int32) (v5 : Int32) (v6 : Int32) (v7 : Int32) (x2 : Int32) (x3 : Int32) (x4 : Int32) : (own_f3_5_ret v0 v1 v2 v3 v4 v5 v6 v7 x2 x3 x4) = 0 ∨ (own_f3_5_ret v0 v1 v2 v3 v4 v5 v6 v7 x2 x3 x4) = 1 := by
  unfold own_f3_5_ret
  repeat' split
  all_goals first | exact Or.inl rfl | exact Or.inr rfl | exact (own_f4_ret_01 v5)
def Q3_5 (Z : State) (bb : Addr) (v0 : Int32) (v1 : Int32) (v2 : Int32) (v3 : Int32) (v4 : Int32) (v5 : Int32) (v6 : Int32) (v7 : Int32) (x2 : Int32) (x3 : Int32) (x4 : Int32) (k_bb : ClassId) (h0 : Heap) (n0 : Nat) (v : Option Value) (h : Heap) (L : List Loc) : Prop := v = some (.int (own_f3_5_ret v0 v1 v2 v3 v4 v5 v6 v7 x2 x3 x4)) ∧ Fr n0 L ∧ h = h0
set_option maxRecDepth 65536 in
set_option maxHeartbeats 40000000 in
theorem rm3_5 (l : Launch) (Z : State) (a0 : Array Value) (hw : ∀ d ∈ tables_1, d.before a0 Z = true) (ws : List Jvm.Cond) (bb : Addr) (v0 : Int32) (v1 : Int32) (v2 : Int32) (v3 : Int32) (v4 : Int32) (v5 : Int32) (v6 : Int32) (v7 : Int32) (x2 : Int32) (x3 : Int32) (x4 : Int32) (k_bb : ClassId) (h0 : Heap) (n0 : Nat) (Z0 : n0 ≤ h0.size) (V_bb : Arv Z h0 bb k_bb .byte (8 : Int32) [.int v0, .int v1, .int v2, .int v3, .int v4, .int v5, .int v6, .int v7] (.int (0 : Int32))) :
    Con l (⟨"com/example/fieldcast/fieldcast/StringDecoderUnpaddedPinLaw", "ok", "([BIIII)Z"⟩ : MethodName) method_4_code 5 (some .boolean) ws ({ frames := 1, cells := 0, slots := 0, locals := 12 } : Room) #[(.ref bb), (.int (5 : Int32)), (.int x2), (.int x3), (.int x4)] Z h0 (Q3_5 Z bb v0 v1 v2 v3 v4 v5 v6 v7 x2 x3 x4 k_bb h0 n0) ({ frames := 1, cells := 0, slots := 0, locals := 12 } : Room).cells ({ frames := 1, cells := 0, slots := 0, locals := 12 } : Room).slots := by
  refine own_body (plainFor_of_name pn_1) ?_
  intro p e s m below meth c s₁ hx hby hlk hml hown hnm hrt hZ X0 e0
  have w : ∀ (k : Nat) (d : Jvm.Cond), tables_1[k]? = some d → d.before a0 Z = true := fun k d h => hw d (List.mem_of_getElem? h)
  have N0 := Fr.nil n0
  rw [ef_3_5]
  generalize hOWE : Owe s _ _ _ = OWE
  refine o_iloadN X0 hx (hb hby d3_0) (pc' := 1) rfl rfl ?_
  refine o_iloadN X0 hx (hb hby d3_1) (pc' := 2) rfl rfl ?_
  refine o_iloadN X0 hx (hb hby d3_2) (pc' := 3) rfl rfl ?_
  refine o_iadd X0 hx (hb hby d3_3) (pc' := 4) rfl ?_
  by_cases hc4_1 : (5 : Int32) < (x2 + x3)
  · refine o_cmpY X0 hx (hb hby d3_4) (tlt hc4_1).1 (by decide) (pc' := 22) (by decide) ?_
    refine o_iconst X0 hx (1 : Int32) (hb hby d3_22) (pc' := 23) rfl (by decide) ?_
    rw [← hOWE]
    exact o_retZ X0 hx rfl hlk hrt (hb hby d3_23) (by decide) (by decide) (by rw [e0]; exact ⟨(by rw [own_f3_5_ret, if_pos hc4_1]), N0, rfl⟩)
  · refine o_cmpN X0 hx (hb hby d3_4) (flt hc4_1).1 (pc' := 7) rfl ?_
    refine o_iloadN X0 hx (hb hby d3_7) (pc' := 8) rfl rfl ?_
    refine o_iloadN X0 hx (hb hby d3_8) (pc' := 9) rfl rfl ?_
    refine o_iload X0 hx (hb hby d3_9) (pc' := 11) rfl rfl ?_
    refine o_iadd X0 hx (hb hby d3_11) (pc' := 12) rfl ?_
    by_cases hc12_2 : (5 : Int32) < (x2 + x4)
    · refine o_cmpN X0 hx (hb hby d3_12) (tlt hc12_2).2.1 (pc' := 15) rfl ?_
      refine o_aloadN X0 hx (hb hby d3_15) (pc' := 16) rfl rfl rfl ?_
      refine o_iloadN X0 hx (hb hby d3_16) (pc' := 17) rfl rfl ?_
      refine o_baload X0 hx hZ (.int v5) e0 V_bb (by decide) (by rfl) (hb hby d3_17) (pc' := 18) rfl ?_
      refine o_callS X0 hx hZ 0 (argsL := [.int v5]) (rest := []) hown (w 13 _ rfl) (w 14 _ rfl) (w 3 _ rfl) (w 15 _ rfl) (by decide) (rm4 l Z a0 hw [] v5 h0 n0 Z0 ) (by decide) (by decide) (cells' := 0) rfl (slots' := 0) rfl (by decide) (by decide) e0 (by rw [hml]; rfl) (lenOf pd_0 rfl) rfl rfl (hb hby d3_18) (pc' := 21) rfl ?_
      intro T3 v3 L3 X3 hQ3
      obtain ⟨rfl, Nq3, e3⟩ := hQ3
      have N3 := Fr.app N0 Nq3
      show Go p e below _ (T3.setTop (mkF m 21 _ [.int (own_f4_ret v5)]))
      rw [← hOWE]
      exact o_retZ X3 hx (own_narZ (own_f4_ret_01 v5)) hlk hrt (hb hby d3_21) (by decide) (by decide) (by rw [e3]; exact ⟨(by rw [own_f3_5_ret, if_neg hc4_1, if_pos hc12_2]), N3, rfl⟩)
    · refine o_cmpY X0 hx (hb hby d3_12) (flt hc12_2).2.1 (by decide) (pc' := 22) (by decide) ?_
      refine o_iconst X0 hx (1 : Int32) (hb hby d3_22) (pc' := 23) rfl (by decide) ?_
      rw [← hOWE]
      exact o_retZ X0 hx rfl hlk hrt (hb hby d3_23) (by decide) (by decide) (by rw [e0]; exact ⟨(by rw [own_f3_5_ret, if_neg hc4_1, if_neg hc12_2]), N0, rfl⟩)
theorem ef_3_6 (m : MethodId) (x0 : Addr) (x1 : Int32) (x2 : Int32) (x3 : Int32) (x4 : Int32) : entryFrame m #[(.ref x0), (.int x1), (.int x2), (.int x3), (.int x4)] 5 = mkF m 0 #[.val (.ref x0), .val (.int x1), .val (.int x2), .val (.int x3), .val (.int x4)] [] := by first | (simp [entryFrame, mkF, argsToLocals, Value.category]; done) | rfl
def own_f3_6_ret (v0 : Int32) (v1 : Int32) (v2 : Int32) (v3 : Int32) (v4 : Int32) (v5 : Int32) (v6 : Int32) (v7 : Int32) (x2 : Int32) (x3 : Int32) (x4 : Int32) : Int32 := (if (6 : Int32) < (x2 + x3) then (1 : Int32) else (if (6 : Int32) < (x2 + x4) then (own_f4_ret v6) else (1 : Int32)))
theorem own_f3_6_ret_01 (v0 : Int32) (v1 : Int32) (v2 : Int32) (v3 : Int32) (v4 : Int32) (v5 : Int32) (v6 : Int32) (v7 : Int32) (x2 : Int32) (x3 : Int32) (x4 : Int32) : (own_f3_6_ret v0 v1 v2 v3 v4 v5 v6 v7 x2 x3 x4) = 0 ∨ (own_f3_6_ret v0 v1 v2 v3 v4 v5 v6 v7 x2 x3 x4) = 1 := by
  unfold own_f3_6_ret
  repeat' split
  all_goals first | exact Or.inl rfl | exact Or.inr rfl | exact (own_f4_ret_01 v6)
def Q3_6 (Z : State) (bb : Addr) (v0 : Int32) (v1 : Int32) (v2 : Int32) (v3 : Int32) (v4 : Int32) (v5 : Int32) (v6 : Int32) (v7 : Int32) (x2 : Int32) (x3 : Int32) (x4 : Int32) (k_bb : ClassId) (h0 : Heap) (n0 : Nat) (v : Option Value) (h : Heap) (L : List Loc) : Prop := v = some (.int (own_f3_6_ret v0 v1 v2 v3 v4 v5 v6 v7 x2 x3 x4)) ∧ Fr n0 L ∧ h = h0
set_option maxRecDepth 65536 in
set_option maxHeartbeats 40000000 in
theorem rm3_6 (l : Launch) (Z : State) (a0 : Array Value) (hw : ∀ d ∈ tables_1, d.before a0 Z = true) (ws : List Jvm.Cond) (bb : Addr) (v0 : Int32) (v1 : Int32) (v2 : Int32) (v3 : Int32) (v4 : Int32) (v5 : Int32) (v6 : Int32) (v7 : Int32) (x2 : Int32) (x3 : Int32) (x4 : Int32) (k_bb : ClassId) (h0 : Heap) (n0 : Nat) (Z0 : n0 ≤ h0.size) (V_bb : Arv Z h0 bb k_bb .byte (8 : Int32) [.int v0, .int v1, .int v2, .int v3, .int v4, .int v5, .int v6, .int v7] (.int (0 : Int32))) :
    Con l (⟨"com/example/fieldcast/fieldcast/StringDecoderUnpaddedPinLaw", "ok", "([BIIII)Z"⟩ : MethodName) method_4_code 5 (some .boolean) ws ({ frames := 1, cells := 0, slots := 0, locals := 12 } : Room) #[(.ref bb), (.int (6 : Int32)), (.int x2), (.int x3), (.int x4)] Z h0 (Q3_6 Z bb v0 v1 v2 v3 v4 v5 v6 v7 x2 x3 x4 k_bb h0 n0) ({ frames := 1, cells := 0, slots := 0, locals := 12 } : Room).cells ({ frames := 1, cells := 0, slots := 0, locals := 12 } : Room).slots := by
  refine own_body (plainFor_of_name pn_1) ?_
  intro p e s m below meth c s₁ hx hby hlk hml hown hnm hrt hZ X0 e0
  have w : ∀ (k : Nat) (d : Jvm.Cond), tables_1[k]? = some d → d.before a0 Z = true := fun k d h => hw d (List.mem_of_getElem? h)
  have N0 := Fr.nil n0
  rw [ef_3_6]
  generalize hOWE : Owe s _ _ _ = OWE
  refine o_iloadN X0 hx (hb hby d3_0) (pc' := 1) rfl rfl ?_
  refine o_iloadN X0 hx (hb hby d3_1) (pc' := 2) rfl rfl ?_
  refine o_iloadN X0 hx (hb hby d3_2) (pc' := 3) rfl rfl ?_
  refine o_iadd X0 hx (hb hby d3_3) (pc' := 4) rfl ?_
  by_cases hc4_1 : (6 : Int32) < (x2 + x3)
  · refine o_cmpY X0 hx (hb hby d3_4) (tlt hc4_1).1 (by decide) (pc' := 22) (by decide) ?_
    refine o_iconst X0 hx (1 : Int32) (hb hby d3_22) (pc' := 23) rfl (by decide) ?_
    rw [← hOWE]
    exact o_retZ X0 hx rfl hlk hrt (hb hby d3_23) (by decide) (by decide) (by rw [e0]; exact ⟨(by rw [own_f3_6_ret, if_pos hc4_1]), N0, rfl⟩)
  · refine o_cmpN X0 hx (hb hby d3_4) (flt hc4_1).1 (pc' := 7) rfl ?_
    refine o_iloadN X0 hx (hb hby d3_7) (pc' := 8) rfl rfl ?_
    refine o_iloadN X0 hx (hb hby d3_8) (pc' := 9) rfl rfl ?_
    refine o_iload X0 hx (hb hby d3_9) (pc' := 11) rfl rfl ?_
    refine o_iadd X0 hx (hb hby d3_11) (pc' := 12) rfl ?_
    by_cases hc12_2 : (6 : Int32) < (x2 + x4)
    · refine o_cmpN X0 hx (hb hby d3_12) (tlt hc12_2).2.1 (pc' := 15) rfl ?_
      refine o_aloadN X0 hx (hb hby d3_15) (pc' := 16) rfl rfl rfl ?_
      refine o_iloadN X0 hx (hb hby d3_16) (pc' := 17) rfl rfl ?_
      refine o_baload X0 hx hZ (.int v6) e0 V_bb (by decide) (by rfl) (hb hby d3_17) (pc' := 18) rfl ?_
      refine o_callS X0 hx hZ 0 (argsL := [.int v6]) (rest := []) hown (w 13 _ rfl) (w 14 _ rfl) (w 3 _ rfl) (w 15 _ rfl) (by decide) (rm4 l Z a0 hw [] v6 h0 n0 Z0 ) (by decide) (by decide) (cells' := 0) rfl (slots' := 0) rfl (by decide) (by decide) e0 (by rw [hml]; rfl) (lenOf pd_0 rfl) rfl rfl (hb hby d3_18) (pc' := 21) rfl ?_
      intro T3 v3 L3 X3 hQ3
      obtain ⟨rfl, Nq3, e3⟩ := hQ3
      have N3 := Fr.app N0 Nq3
      show Go p e below _ (T3.setTop (mkF m 21 _ [.int (own_f4_ret v6)]))
      rw [← hOWE]
      exact o_retZ X3 hx (own_narZ (own_f4_ret_01 v6)) hlk hrt (hb hby d3_21) (by decide) (by decide) (by rw [e3]; exact ⟨(by rw [own_f3_6_ret, if_neg hc4_1, if_pos hc12_2]), N3, rfl⟩)
    · refine o_cmpY X0 hx (hb hby d3_12) (flt hc12_2).2.1 (by decide) (pc' := 22) (by decide) ?_
      refine o_iconst X0 hx (1 : Int32) (hb hby d3_22) (pc' := 23) rfl (by decide) ?_
      rw [← hOWE]
      exact o_retZ X0 hx rfl hlk hrt (hb hby d3_23) (by decide) (by decide) (by rw [e0]; exact ⟨(by rw [own_f3_6_ret, if_neg hc4_1, if_neg hc12_2]), N0, rfl⟩)
theorem ef_3_7 (m : MethodId) (x0 : Addr) (x1 : Int32) (x2 : Int32) (x3 : Int32) (x4 : Int32) : entryFrame m #[(.ref x0), (.int x1), (.int x2), (.int x3), (.int x4)] 5 = mkF m 0 #[.val (.ref x0), .val (.int x1), .val (.int x2), .val (.int x3), .val (.int x4)] [] := by first | (simp [entryFrame, mkF, argsToLocals, Value.category]; done) | rfl
def own_f3_7_ret (v0 : Int32) (v1 : Int32) (v2 : Int32) (v3 : Int32) (v4 : Int32) (v5 : Int32) (v6 : Int32) (v7 : Int32) (x2 : Int32) (x3 : Int32) (x4 : Int32) : Int32 := (if (7 : Int32) < (x2 + x3) then (1 : Int32) else (if (7 : Int32) < (x2 + x4) then (own_f4_ret v7) else (1 : Int32)))
theorem own_f3_7_ret_01 (v0 : Int32) (v1 : Int32) (v2 : Int32) (v3 : Int32) (v4 : Int32) (v5 : Int32) (v6 : Int32) (v7 : Int32) (x2 : Int32) (x3 : Int32) (x4 : Int32) : (own_f3_7_ret v0 v1 v2 v3 v4 v5 v6 v7 x2 x3 x4) = 0 ∨ (own_f3_7_ret v0 v1 v2 v3 v4 v5 v6 v7 x2 x3 x4) = 1 := by
  unfold own_f3_7_ret
  repeat' split
  all_goals first | exact Or.inl rfl | exact Or.inr rfl | exact (own_f4_ret_01 v7)
def Q3_7 (Z : State) (bb : Addr) (v0 : Int32) (v1 : Int32) (v2 : Int32) (v3 : Int32) (v4 : Int32) (v5 : Int32) (v6 : Int32) (v7 : Int32) (x2 : Int32) (x3 : Int32) (x4 : Int32) (k_bb : ClassId) (h0 : Heap) (n0 : Nat) (v : Option Value) (h : Heap) (L : List Loc) : Prop := v = some (.int (own_f3_7_ret v0 v1 v2 v3 v4 v5 v6 v7 x2 x3 x4)) ∧ Fr n0 L ∧ h = h0
set_option maxRecDepth 65536 in
set_option maxHeartbeats 40000000 in
theorem rm3_7 (l : Launch) (Z : State) (a0 : Array Value) (hw : ∀ d ∈ tables_1, d.before a0 Z = true) (ws : List Jvm.Cond) (bb : Addr) (v0 : Int32) (v1 : Int32) (v2 : Int32) (v3 : Int32) (v4 : Int32) (v5 : Int32) (v6 : Int32) (v7 : Int32) (x2 : Int32) (x3 : Int32) (x4 : Int32) (k_bb : ClassId) (h0 : Heap) (n0 : Nat) (Z0 : n0 ≤ h0.size) (V_bb : Arv Z h0 bb k_bb .byte (8 : Int32) [.int v0, .int v1, .int v2, .int v3, .int v4, .int v5, .int v6, .int v7] (.int (0 : Int32))) :
    Con l (⟨"com/example/fieldcast/fieldcast/StringDecoderUnpaddedPinLaw", "ok", "([BIIII)Z"⟩ : MethodName) method_4_code 5 (some .boolean) ws ({ frames := 1, cells := 0, slots := 0, locals := 12 } : Room) #[(.ref bb), (.int (7 : Int32)), (.int x2), (.int x3), (.int x4)] Z h0 (Q3_7 Z bb v0 v1 v2 v3 v4 v5 v6 v7 x2 x3 x4 k_bb h0 n0) ({ frames := 1, cells := 0, slots := 0, locals := 12 } : Room).cells ({ frames := 1, cells := 0, slots := 0, locals := 12 } : Room).slots := by
  refine own_body (plainFor_of_name pn_1) ?_
  intro p e s m below meth c s₁ hx hby hlk hml hown hnm hrt hZ X0 e0
  have w : ∀ (k : Nat) (d : Jvm.Cond), tables_1[k]? = some d → d.before a0 Z = true := fun k d h => hw d (List.mem_of_getElem? h)
  have N0 := Fr.nil n0
  rw [ef_3_7]
  generalize hOWE : Owe s _ _ _ = OWE
  refine o_iloadN X0 hx (hb hby d3_0) (pc' := 1) rfl rfl ?_
  refine o_iloadN X0 hx (hb hby d3_1) (pc' := 2) rfl rfl ?_
  refine o_iloadN X0 hx (hb hby d3_2) (pc' := 3) rfl rfl ?_
  refine o_iadd X0 hx (hb hby d3_3) (pc' := 4) rfl ?_
  by_cases hc4_1 : (7 : Int32) < (x2 + x3)
  · refine o_cmpY X0 hx (hb hby d3_4) (tlt hc4_1).1 (by decide) (pc' := 22) (by decide) ?_
    refine o_iconst X0 hx (1 : Int32) (hb hby d3_22) (pc' := 23) rfl (by decide) ?_
    rw [← hOWE]
    exact o_retZ X0 hx rfl hlk hrt (hb hby d3_23) (by decide) (by decide) (by rw [e0]; exact ⟨(by rw [own_f3_7_ret, if_pos hc4_1]), N0, rfl⟩)
  · refine o_cmpN X0 hx (hb hby d3_4) (flt hc4_1).1 (pc' := 7) rfl ?_
    refine o_iloadN X0 hx (hb hby d3_7) (pc' := 8) rfl rfl ?_
    refine o_iloadN X0 hx (hb hby d3_8) (pc' := 9) rfl rfl ?_
    refine o_iload X0 hx (hb hby d3_9) (pc' := 11) rfl rfl ?_
    refine o_iadd X0 hx (hb hby d3_11) (pc' := 12) rfl ?_
    by_cases hc12_2 : (7 : Int32) < (x2 + x4)
    · refine o_cmpN X0 hx (hb hby d3_12) (tlt hc12_2).2.1 (pc' := 15) rfl ?_
      refine o_aloadN X0 hx (hb hby d3_15) (pc' := 16) rfl rfl rfl ?_
      refine o_iloadN X0 hx (hb hby d3_16) (pc' := 17) rfl rfl ?_
      refine o_baload X0 hx hZ (.int v7) e0 V_bb (by decide) (by rfl) (hb hby d3_17) (pc' := 18) rfl ?_
      refine o_callS X0 hx hZ 0 (argsL := [.int v7]) (rest := []) hown (w 13 _ rfl) (w 14 _ rfl) (w 3 _ rfl) (w 15 _ rfl) (by decide) (rm4 l Z a0 hw [] v7 h0 n0 Z0 ) (by decide) (by decide) (cells' := 0) rfl (slots' := 0) rfl (by decide) (by decide) e0 (by rw [hml]; rfl) (lenOf pd_0 rfl) rfl rfl (hb hby d3_18) (pc' := 21) rfl ?_
      intro T3 v3 L3 X3 hQ3
      obtain ⟨rfl, Nq3, e3⟩ := hQ3
      have N3 := Fr.app N0 Nq3
      show Go p e below _ (T3.setTop (mkF m 21 _ [.int (own_f4_ret v7)]))
      rw [← hOWE]
      exact o_retZ X3 hx (own_narZ (own_f4_ret_01 v7)) hlk hrt (hb hby d3_21) (by decide) (by decide) (by rw [e3]; exact ⟨(by rw [own_f3_7_ret, if_neg hc4_1, if_pos hc12_2]), N3, rfl⟩)
    · refine o_cmpY X0 hx (hb hby d3_12) (flt hc12_2).2.1 (by decide) (pc' := 22) (by decide) ?_
      refine o_iconst X0 hx (1 : Int32) (hb hby d3_22) (pc' := 23) rfl (by decide) ?_
      rw [← hOWE]
      exact o_retZ X0 hx rfl hlk hrt (hb hby d3_23) (by decide) (by decide) (by rw [e0]; exact ⟨(by rw [own_f3_7_ret, if_neg hc4_1, if_neg hc12_2]), N0, rfl⟩)
theorem ef_0 (m : MethodId) (x0 : Int64) (x1 : Int32) (x2 : Int32) (x3 : Int32) : entryFrame m #[(.long x0), (.int x1), (.int x2), (.int x3)] maxLocals = mkF m 0 #[.val (.long x0), .second, .val (.int x1), .val (.int x2), .val (.int x3), .unset, .unset, .unset, .unset] [] := by first | (simp [entryFrame, mkF, argsToLocals, Value.category, maxLocals]; done) | rfl
def own_law_x0 (q0 : Int64) (q1 : Int32) (q2 : Int32) (q3 : Int32) : Int32 := ((q2 &&& (2147483647 : Int32)) % (9 : Int32))
def own_law_x1 (q0 : Int64) (q1 : Int32) (q2 : Int32) (q3 : Int32) : Int32 := ((q3 &&& (2147483647 : Int32)) % ((9 : Int32) - (own_law_x0 q0 q1 q2 q3)))
def own_law_x2 (q0 : Int64) (q1 : Int32) (q2 : Int32) (q3 : Int32) : Int32 := ((Int32.ofNat (own_trim (own_b8 (nar .byte (own_f1_ret q1 q0 (0 : Int32))) (nar .byte (own_f1_ret q1 q0 (1 : Int32))) (nar .byte (own_f1_ret q1 q0 (2 : Int32))) (nar .byte (own_f1_ret q1 q0 (3 : Int32))) (nar .byte (own_f1_ret q1 q0 (4 : Int32))) (nar .byte (own_f1_ret q1 q0 (5 : Int32))) (nar .byte (own_f1_ret q1 q0 (6 : Int32))) (nar .byte (own_f1_ret q1 q0 (7 : Int32)))) ((own_law_x0 q0 q1 q2 q3)).toNatClampNeg (((own_law_x0 q0 q1 q2 q3)).toNatClampNeg + ((own_law_x1 q0 q1 q2 q3)).toNatClampNeg))) - (own_law_x0 q0 q1 q2 q3))
def own_law_ret (q0 : Int64) (q1 : Int32) (q2 : Int32) (q3 : Int32) : Int32 := (if (own_law_x2 q0 q1 q2 q3) < (0 : Int32) then (0 : Int32) else (if (own_law_x1 q0 q1 q2 q3) < (own_law_x2 q0 q1 q2 q3) then (0 : Int32) else (if (0 : Int32) < (own_law_x2 q0 q1 q2 q3) then (if (own_f4_ret (own_b8 ((nar .byte (own_f1_ret q1 q0 (0 : Int32)))) ((nar .byte (own_f1_ret q1 q0 (1 : Int32)))) ((nar .byte (own_f1_ret q1 q0 (2 : Int32)))) ((nar .byte (own_f1_ret q1 q0 (3 : Int32)))) ((nar .byte (own_f1_ret q1 q0 (4 : Int32)))) ((nar .byte (own_f1_ret q1 q0 (5 : Int32)))) ((nar .byte (own_f1_ret q1 q0 (6 : Int32)))) ((nar .byte (own_f1_ret q1 q0 (7 : Int32)))) ((((own_law_x0 q0 q1 q2 q3) + (own_law_x2 q0 q1 q2 q3)) - (1 : Int32))).toNatClampNeg)) = (0 : Int32) then (if (own_f3_0_ret (nar .byte (own_f1_ret q1 q0 (0 : Int32))) (nar .byte (own_f1_ret q1 q0 (1 : Int32))) (nar .byte (own_f1_ret q1 q0 (2 : Int32))) (nar .byte (own_f1_ret q1 q0 (3 : Int32))) (nar .byte (own_f1_ret q1 q0 (4 : Int32))) (nar .byte (own_f1_ret q1 q0 (5 : Int32))) (nar .byte (own_f1_ret q1 q0 (6 : Int32))) (nar .byte (own_f1_ret q1 q0 (7 : Int32))) (own_law_x0 q0 q1 q2 q3) (own_law_x2 q0 q1 q2 q3) (own_law_x1 q0 q1 q2 q3)) = (0 : Int32) then (0 : Int32) else (if (own_f3_1_ret (nar .byte (own_f1_ret q1 q0 (0 : Int32))) (nar .byte (own_f1_ret q1 q0 (1 : Int32))) (nar .byte (own_f1_ret q1 q0 (2 : Int32))) (nar .byte (own_f1_ret q1 q0 (3 : Int32))) (nar .byte (own_f1_ret q1 q0 (4 : Int32))) (nar .byte (own_f1_ret q1 q0 (5 : Int32))) (nar .byte (own_f1_ret q1 q0 (6 : Int32))) (nar .byte (own_f1_ret q1 q0 (7 : Int32))) (own_law_x0 q0 q1 q2 q3) (own_law_x2 q0 q1 q2 q3) (own_law_x1 q0 q1 q2 q3)) = (0 : Int32) then (0 : Int32) else (if (own_f3_2_ret (nar .byte (own_f1_ret q1 q0 (0 : Int32))) (nar .byte (own_f1_ret q1 q0 (1 : Int32))) (nar .byte (own_f1_ret q1 q0 (2 : Int32))) (nar .byte (own_f1_ret q1 q0 (3 : Int32))) (nar .byte (own_f1_ret q1 q0 (4 : Int32))) (nar .byte (own_f1_ret q1 q0 (5 : Int32))) (nar .byte (own_f1_ret q1 q0 (6 : Int32))) (nar .byte (own_f1_ret q1 q0 (7 : Int32))) (own_law_x0 q0 q1 q2 q3) (own_law_x2 q0 q1 q2 q3) (own_law_x1 q0 q1 q2 q3)) = (0 : Int32) then (0 : Int32) else (if (own_f3_3_ret (nar .byte (own_f1_ret q1 q0 (0 : Int32))) (nar .byte (own_f1_ret q1 q0 (1 : Int32))) (nar .byte (own_f1_ret q1 q0 (2 : Int32))) (nar .byte (own_f1_ret q1 q0 (3 : Int32))) (nar .byte (own_f1_ret q1 q0 (4 : Int32))) (nar .byte (own_f1_ret q1 q0 (5 : Int32))) (nar .byte (own_f1_ret q1 q0 (6 : Int32))) (nar .byte (own_f1_ret q1 q0 (7 : Int32))) (own_law_x0 q0 q1 q2 q3) (own_law_x2 q0 q1 q2 q3) (own_law_x1 q0 q1 q2 q3)) = (0 : Int32) then (0 : Int32) else (if (own_f3_4_ret (nar .byte (own_f1_ret q1 q0 (0 : Int32))) (nar .byte (own_f1_ret q1 q0 (1 : Int32))) (nar .byte (own_f1_ret q1 q0 (2 : Int32))) (nar .byte (own_f1_ret q1 q0 (3 : Int32))) (nar .byte (own_f1_ret q1 q0 (4 : Int32))) (nar .byte (own_f1_ret q1 q0 (5 : Int32))) (nar .byte (own_f1_ret q1 q0 (6 : Int32))) (nar .byte (own_f1_ret q1 q0 (7 : Int32))) (own_law_x0 q0 q1 q2 q3) (own_law_x2 q0 q1 q2 q3) (own_law_x1 q0 q1 q2 q3)) = (0 : Int32) then (0 : Int32) else (if (own_f3_5_ret (nar .byte (own_f1_ret q1 q0 (0 : Int32))) (nar .byte (own_f1_ret q1 q0 (1 : Int32))) (nar .byte (own_f1_ret q1 q0 (2 : Int32))) (nar .byte (own_f1_ret q1 q0 (3 : Int32))) (nar .byte (own_f1_ret q1 q0 (4 : Int32))) (nar .byte (own_f1_ret q1 q0 (5 : Int32))) (nar .byte (own_f1_ret q1 q0 (6 : Int32))) (nar .byte (own_f1_ret q1 q0 (7 : Int32))) (own_law_x0 q0 q1 q2 q3) (own_law_x2 q0 q1 q2 q3) (own_law_x1 q0 q1 q2 q3)) = (0 : Int32) then (0 : Int32) else (if (own_f3_6_ret (nar .byte (own_f1_ret q1 q0 (0 : Int32))) (nar .byte (own_f1_ret q1 q0 (1 : Int32))) (nar .byte (own_f1_ret q1 q0 (2 : Int32))) (nar .byte (own_f1_ret q1 q0 (3 : Int32))) (nar .byte (own_f1_ret q1 q0 (4 : Int32))) (nar .byte (own_f1_ret q1 q0 (5 : Int32))) (nar .byte (own_f1_ret q1 q0 (6 : Int32))) (nar .byte (own_f1_ret q1 q0 (7 : Int32))) (own_law_x0 q0 q1 q2 q3) (own_law_x2 q0 q1 q2 q3) (own_law_x1 q0 q1 q2 q3)) = (0 : Int32) then (0 : Int32) else (if (own_f3_7_ret (nar .byte (own_f1_ret q1 q0 (0 : Int32))) (nar .byte (own_f1_ret q1 q0 (1 : Int32))) (nar .byte (own_f1_ret q1 q0 (2 : Int32))) (nar .byte (own_f1_ret q1 q0 (3 : Int32))) (nar .byte (own_f1_ret q1 q0 (4 : Int32))) (nar .byte (own_f1_ret q1 q0 (5 : Int32))) (nar .byte (own_f1_ret q1 q0 (6 : Int32))) (nar .byte (own_f1_ret q1 q0 (7 : Int32))) (own_law_x0 q0 q1 q2 q3) (own_law_x2 q0 q1 q2 q3) (own_law_x1 q0 q1 q2 q3)) = (0 : Int32) then (0 : Int32) else (1 : Int32))))))))) else (0 : Int32)) else (if (own_f3_0_ret (nar .byte (own_f1_ret q1 q0 (0 : Int32))) (nar .byte (own_f1_ret q1 q0 (1 : Int32))) (nar .byte (own_f1_ret q1 q0 (2 : Int32))) (nar .byte (own_f1_ret q1 q0 (3 : Int32))) (nar .byte (own_f1_ret q1 q0 (4 : Int32))) (nar .byte (own_f1_ret q1 q0 (5 : Int32))) (nar .byte (own_f1_ret q1 q0 (6 : Int32))) (nar .byte (own_f1_ret q1 q0 (7 : Int32))) (own_law_x0 q0 q1 q2 q3) (own_law_x2 q0 q1 q2 q3) (own_law_x1 q0 q1 q2 q3)) = (0 : Int32) then (0 : Int32) else (if (own_f3_1_ret (nar .byte (own_f1_ret q1 q0 (0 : Int32))) (nar .byte (own_f1_ret q1 q0 (1 : Int32))) (nar .byte (own_f1_ret q1 q0 (2 : Int32))) (nar .byte (own_f1_ret q1 q0 (3 : Int32))) (nar .byte (own_f1_ret q1 q0 (4 : Int32))) (nar .byte (own_f1_ret q1 q0 (5 : Int32))) (nar .byte (own_f1_ret q1 q0 (6 : Int32))) (nar .byte (own_f1_ret q1 q0 (7 : Int32))) (own_law_x0 q0 q1 q2 q3) (own_law_x2 q0 q1 q2 q3) (own_law_x1 q0 q1 q2 q3)) = (0 : Int32) then (0 : Int32) else (if (own_f3_2_ret (nar .byte (own_f1_ret q1 q0 (0 : Int32))) (nar .byte (own_f1_ret q1 q0 (1 : Int32))) (nar .byte (own_f1_ret q1 q0 (2 : Int32))) (nar .byte (own_f1_ret q1 q0 (3 : Int32))) (nar .byte (own_f1_ret q1 q0 (4 : Int32))) (nar .byte (own_f1_ret q1 q0 (5 : Int32))) (nar .byte (own_f1_ret q1 q0 (6 : Int32))) (nar .byte (own_f1_ret q1 q0 (7 : Int32))) (own_law_x0 q0 q1 q2 q3) (own_law_x2 q0 q1 q2 q3) (own_law_x1 q0 q1 q2 q3)) = (0 : Int32) then (0 : Int32) else (if (own_f3_3_ret (nar .byte (own_f1_ret q1 q0 (0 : Int32))) (nar .byte (own_f1_ret q1 q0 (1 : Int32))) (nar .byte (own_f1_ret q1 q0 (2 : Int32))) (nar .byte (own_f1_ret q1 q0 (3 : Int32))) (nar .byte (own_f1_ret q1 q0 (4 : Int32))) (nar .byte (own_f1_ret q1 q0 (5 : Int32))) (nar .byte (own_f1_ret q1 q0 (6 : Int32))) (nar .byte (own_f1_ret q1 q0 (7 : Int32))) (own_law_x0 q0 q1 q2 q3) (own_law_x2 q0 q1 q2 q3) (own_law_x1 q0 q1 q2 q3)) = (0 : Int32) then (0 : Int32) else (if (own_f3_4_ret (nar .byte (own_f1_ret q1 q0 (0 : Int32))) (nar .byte (own_f1_ret q1 q0 (1 : Int32))) (nar .byte (own_f1_ret q1 q0 (2 : Int32))) (nar .byte (own_f1_ret q1 q0 (3 : Int32))) (nar .byte (own_f1_ret q1 q0 (4 : Int32))) (nar .byte (own_f1_ret q1 q0 (5 : Int32))) (nar .byte (own_f1_ret q1 q0 (6 : Int32))) (nar .byte (own_f1_ret q1 q0 (7 : Int32))) (own_law_x0 q0 q1 q2 q3) (own_law_x2 q0 q1 q2 q3) (own_law_x1 q0 q1 q2 q3)) = (0 : Int32) then (0 : Int32) else (if (own_f3_5_ret (nar .byte (own_f1_ret q1 q0 (0 : Int32))) (nar .byte (own_f1_ret q1 q0 (1 : Int32))) (nar .byte (own_f1_ret q1 q0 (2 : Int32))) (nar .byte (own_f1_ret q1 q0 (3 : Int32))) (nar .byte (own_f1_ret q1 q0 (4 : Int32))) (nar .byte (own_f1_ret q1 q0 (5 : Int32))) (nar .byte (own_f1_ret q1 q0 (6 : Int32))) (nar .byte (own_f1_ret q1 q0 (7 : Int32))) (own_law_x0 q0 q1 q2 q3) (own_law_x2 q0 q1 q2 q3) (own_law_x1 q0 q1 q2 q3)) = (0 : Int32) then (0 : Int32) else (if (own_f3_6_ret (nar .byte (own_f1_ret q1 q0 (0 : Int32))) (nar .byte (own_f1_ret q1 q0 (1 : Int32))) (nar .byte (own_f1_ret q1 q0 (2 : Int32))) (nar .byte (own_f1_ret q1 q0 (3 : Int32))) (nar .byte (own_f1_ret q1 q0 (4 : Int32))) (nar .byte (own_f1_ret q1 q0 (5 : Int32))) (nar .byte (own_f1_ret q1 q0 (6 : Int32))) (nar .byte (own_f1_ret q1 q0 (7 : Int32))) (own_law_x0 q0 q1 q2 q3) (own_law_x2 q0 q1 q2 q3) (own_law_x1 q0 q1 q2 q3)) = (0 : Int32) then (0 : Int32) else (if (own_f3_7_ret (nar .byte (own_f1_ret q1 q0 (0 : Int32))) (nar .byte (own_f1_ret q1 q0 (1 : Int32))) (nar .byte (own_f1_ret q1 q0 (2 : Int32))) (nar .byte (own_f1_ret q1 q0 (3 : Int32))) (nar .byte (own_f1_ret q1 q0 (4 : Int32))) (nar .byte (own_f1_ret q1 q0 (5 : Int32))) (nar .byte (own_f1_ret q1 q0 (6 : Int32))) (nar .byte (own_f1_ret q1 q0 (7 : Int32))) (own_law_x0 q0 q1 q2 q3) (own_law_x2 q0 q1 q2 q3) (own_law_x1 q0 q1 q2 q3)) = (0 : Int32) then (0 : Int32) else (1 : Int32))))))))))))
theorem own_at8 (q0 : Int64) (q1 q2 q3 : Int32) : 0 ≤ (own_law_x0 q0 q1 q2 q3).toInt ∧ (own_law_x0 q0 q1 q2 q3).toInt ≤ 8 := by
  have e1 := c_and q2 2147483647 (by decide)
  have e2 := (c_irem (q2 &&& 2147483647) 9 9 (by decide)).1 e1.1
  unfold own_law_x0
  omega
theorem own_nine (q0 : Int64) (q1 q2 q3 : Int32) : ((9 : Int32) - own_law_x0 q0 q1 q2 q3).toInt = 9 - (own_law_x0 q0 q1 q2 q3).toInt := by
  have h := own_at8 q0 q1 q2 q3
  have a := c_isub 9 (own_law_x0 q0 q1 q2 q3)
  have b := rng32 (9 - own_law_x0 q0 q1 q2 q3)
  rw [show (9 : Int32).toInt = 9 from rfl] at a
  omega
theorem own_nz (q0 : Int64) (q1 q2 q3 : Int32) : ((9 : Int32) - own_law_x0 q0 q1 q2 q3) ≠ 0 := fun q => by
  have h := own_at8 q0 q1 q2 q3
  have h2 := own_nine q0 q1 q2 q3
  rw [q, show (0 : Int32).toInt = 0 from rfl] at h2
  omega
theorem own_len8 (q0 : Int64) (q1 q2 q3 : Int32) : 0 ≤ (own_law_x1 q0 q1 q2 q3).toInt ∧ (own_law_x0 q0 q1 q2 q3).toInt + (own_law_x1 q0 q1 q2 q3).toInt ≤ 8 := by
  have h := own_at8 q0 q1 q2 q3
  have h2 := own_nine q0 q1 q2 q3
  have e1 := c_and q3 2147483647 (by decide)
  have e2 := (c_iremV (q3 &&& 2147483647) ((9 : Int32) - own_law_x0 q0 q1 q2 q3)).1 e1.1 (by omega)
  unfold own_law_x1
  omega
theorem own_hb (q0 : Int64) (q1 q2 q3 : Int32) : own_law_x0 q0 q1 q2 q3 = Int32.ofNat ((own_law_x0 q0 q1 q2 q3)).toNatClampNeg ∧ own_law_x1 q0 q1 q2 q3 = Int32.ofNat ((own_law_x1 q0 q1 q2 q3)).toNatClampNeg ∧ ((own_law_x0 q0 q1 q2 q3)).toNatClampNeg + ((own_law_x1 q0 q1 q2 q3)).toNatClampNeg ≤ 8 := by
  have h := own_at8 q0 q1 q2 q3
  have h2 := own_len8 q0 q1 q2 q3
  have n0 : ¬ own_law_x0 q0 q1 q2 q3 < 0 := by rw [Int32.lt_iff_toInt_lt, show (0 : Int32).toInt = 0 from rfl]; omega
  have n1 : ¬ own_law_x1 q0 q1 q2 q3 < 0 := by rw [Int32.lt_iff_toInt_lt, show (0 : Int32).toInt = 0 from rfl]; omega
  have e0 := nat_of n0
  have e1 := nat_of n1
  exact ⟨((back32 n0).1).symm, ((back32 n1).1).symm, by omega⟩
theorem own_idx (q0 : Int64) (q1 q2 q3 : Int32) (h1 : (0 : Int32) < own_law_x2 q0 q1 q2 q3) (h2 : ¬ own_law_x1 q0 q1 q2 q3 < own_law_x2 q0 q1 q2 q3) : ¬ ((own_law_x0 q0 q1 q2 q3 + own_law_x2 q0 q1 q2 q3) - (1 : Int32)) < 0 ∧ ((own_law_x0 q0 q1 q2 q3 + own_law_x2 q0 q1 q2 q3) - (1 : Int32)) < (8 : Int32) := by
  have a := own_at8 q0 q1 q2 q3
  have b := own_len8 q0 q1 q2 q3
  have c := c_iadd (own_law_x0 q0 q1 q2 q3) (own_law_x2 q0 q1 q2 q3)
  have d := rng32 (own_law_x0 q0 q1 q2 q3 + own_law_x2 q0 q1 q2 q3)
  have e := c_isub (own_law_x0 q0 q1 q2 q3 + own_law_x2 q0 q1 q2 q3) 1
  have f := rng32 (own_law_x0 q0 q1 q2 q3 + own_law_x2 q0 q1 q2 q3 - 1)
  rw [show (1 : Int32).toInt = 1 from rfl] at e
  rw [Int32.lt_iff_toInt_lt, show (0 : Int32).toInt = 0 from rfl] at h1
  rw [Int32.lt_iff_toInt_lt] at h2
  rw [Int32.lt_iff_toInt_lt, Int32.lt_iff_toInt_lt, show (0 : Int32).toInt = 0 from rfl, show (8 : Int32).toInt = 8 from rfl]
  omega
def Q0 (Z : State) (q0 : Int64) (q1 : Int32) (q2 : Int32) (q3 : Int32) (h0 : Heap) (n0 : Nat) (v : Option Value) (h : Heap) (L : List Loc) : Prop := v = some (.int (own_law_ret q0 q1 q2 q3)) ∧ Fr n0 L
set_option maxRecDepth 65536 in
set_option maxHeartbeats 40000000 in
theorem rm0 (l : Launch) (Z : State) (a0 : Array Value) (hw : ∀ d ∈ tables_1, d.before a0 Z = true) (ws : List Jvm.Cond) (q0 : Int64) (q1 : Int32) (q2 : Int32) (q3 : Int32) (h0 : Heap) (n0 : Nat) (Z0 : n0 ≤ h0.size)  :
    Con l x code maxLocals ret ws room_1 #[(.long q0), (.int q1), (.int q2), (.int q3)] Z h0 (Q0 Z q0 q1 q2 q3 h0 n0) 1 8 := by
  refine own_body (plainFor_of_name pn_1) ?_
  intro p e s m below meth c s₁ hx hby hlk hml hown hnm hrt hZ X0 e0
  have w : ∀ (k : Nat) (d : Jvm.Cond), tables_1[k]? = some d → d.before a0 Z = true := fun k d h => hw d (List.mem_of_getElem? h)
  have N0 := Fr.nil n0
  have hml : c.maxLocals = 9 := hml
  rw [ef_0]
  generalize hOWE : Owe s _ _ _ = OWE
  refine o_bipush X0 hx (8 : Int32) (hb hby at_0) (pc' := 2) rfl (by decide) ?_
  refine o_newP X0 hx hZ 8 (w 0 _ rfl) e0 (hb hby at_2) (pc' := 4) rfl (by decide) (by decide) (by decide) (cells' := 1) rfl (slots' := 8) rfl (by decide) (by decide) ?_
  intro T1 h1 b1 k1 qa1 X1 e1 Ex1 A1
  have g_b1 : n0 ≤ b1 := by rw [qa1]; exact Z0
  have Z1 : n0 ≤ h1.size := Nat.le_trans Z0 Ex1.1
  have V1_ : Arv Z h1 b1 k1 .byte (8 : Int32) [.int (0 : Int32), .int (0 : Int32), .int (0 : Int32), .int (0 : Int32), .int (0 : Int32), .int (0 : Int32), .int (0 : Int32), .int (0 : Int32)] (.int (0 : Int32)) := own_fill 8 A1
  refine o_astore X1 hx (hb hby at_4) (pc' := 6) rfl (L' := #[.val (.long q0), .second, .val (.int q1), .val (.int q2), .val (.int q3), .val (.ref b1), .unset, .unset, .unset]) rfl rfl ?_
  refine o_aload X1 hx (hb hby at_6) (pc' := 8) rfl rfl rfl ?_
  refine o_iconst X1 hx (0 : Int32) (hb hby at_8) (pc' := 9) rfl (by decide) ?_
  refine o_iloadN X1 hx (hb hby at_9) (pc' := 10) rfl rfl ?_
  refine o_lloadN X1 hx (hb hby at_10) (pc' := 11) rfl rfl ?_
  refine o_iconst X1 hx (0 : Int32) (hb hby at_11) (pc' := 12) rfl (by decide) ?_
  refine o_callS X1 hx hZ 2 (argsL := [.int q1, .long q0, .int (0 : Int32)]) (rest := [.int (0 : Int32), .ref b1]) hown (w 1 _ rfl) (w 2 _ rfl) (w 3 _ rfl) (w 4 _ rfl) (by decide) (rm1 l Z a0 hw [] q1 q0 (0 : Int32) h1 n0 Z1 ) (by decide) (by decide) (cells' := 1) rfl (slots' := 8) rfl (by decide) (by decide) e1 (by rw [hml]; rfl) (lenOf pd_1 rfl) rfl rfl (hb hby at_12) (pc' := 15) rfl ?_
  intro T3 v3 L3 X3 hQ3
  obtain ⟨rfl, Nq3, e3⟩ := hQ3
  have N3 := Fr.app N0 Nq3
  show Go p e below _ (T3.setTop (mkF m 15 _ [.int (own_f1_ret q1 q0 (0 : Int32)), .int (0 : Int32), .ref b1]))
  refine o_bastore X3 hx hZ 0 e3 V1_ (by decide) (by decide) (by exact (by decide : 0 < 8)) (vs' := [.int (nar .byte (own_f1_ret q1 q0 (0 : Int32))), .int (0 : Int32), .int (0 : Int32), .int (0 : Int32), .int (0 : Int32), .int (0 : Int32), .int (0 : Int32), .int (0 : Int32)]) rfl (hb hby at_15) (pc' := 16) rfl ?_
  intro T4 h4 X4 e4 W4 V4_
  have N4 := Fr.snoc X4 N3 g_b1
  have Z4 : n0 ≤ h4.size := by rw [W4.size]; exact Z1
  refine o_aload X4 hx (hb hby at_16) (pc' := 18) rfl rfl rfl ?_
  refine o_iconst X4 hx (1 : Int32) (hb hby at_18) (pc' := 19) rfl (by decide) ?_
  refine o_iloadN X4 hx (hb hby at_19) (pc' := 20) rfl rfl ?_
  refine o_lloadN X4 hx (hb hby at_20) (pc' := 21) rfl rfl ?_
  refine o_iconst X4 hx (1 : Int32) (hb hby at_21) (pc' := 22) rfl (by decide) ?_
  refine o_callS X4 hx hZ 2 (argsL := [.int q1, .long q0, .int (1 : Int32)]) (rest := [.int (1 : Int32), .ref b1]) hown (w 1 _ rfl) (w 2 _ rfl) (w 3 _ rfl) (w 4 _ rfl) (by decide) (rm1 l Z a0 hw [] q1 q0 (1 : Int32) h4 n0 Z4 ) (by decide) (by decide) (cells' := 1) rfl (slots' := 8) rfl (by decide) (by decide) e4 (by rw [hml]; rfl) (lenOf pd_1 rfl) rfl rfl (hb hby at_22) (pc' := 25) rfl ?_
  intro T6 v6 L6 X6 hQ6
  obtain ⟨rfl, Nq6, e6⟩ := hQ6
  have N6 := Fr.app N4 Nq6
  show Go p e below _ (T6.setTop (mkF m 25 _ [.int (own_f1_ret q1 q0 (1 : Int32)), .int (1 : Int32), .ref b1]))
  refine o_bastore X6 hx hZ 1 e6 V4_ (by decide) (by decide) (by exact (by decide : 1 < 8)) (vs' := [.int (nar .byte (own_f1_ret q1 q0 (0 : Int32))), .int (nar .byte (own_f1_ret q1 q0 (1 : Int32))), .int (0 : Int32), .int (0 : Int32), .int (0 : Int32), .int (0 : Int32), .int (0 : Int32), .int (0 : Int32)]) rfl (hb hby at_25) (pc' := 26) rfl ?_
  intro T7 h7 X7 e7 W7 V7_
  have N7 := Fr.snoc X7 N6 g_b1
  have Z7 : n0 ≤ h7.size := by rw [W7.size]; exact Z4
  refine o_aload X7 hx (hb hby at_26) (pc' := 28) rfl rfl rfl ?_
  refine o_iconst X7 hx (2 : Int32) (hb hby at_28) (pc' := 29) rfl (by decide) ?_
  refine o_iloadN X7 hx (hb hby at_29) (pc' := 30) rfl rfl ?_
  refine o_lloadN X7 hx (hb hby at_30) (pc' := 31) rfl rfl ?_
  refine o_iconst X7 hx (2 : Int32) (hb hby at_31) (pc' := 32) rfl (by decide) ?_
  refine o_callS X7 hx hZ 2 (argsL := [.int q1, .long q0, .int (2 : Int32)]) (rest := [.int (2 : Int32), .ref b1]) hown (w 1 _ rfl) (w 2 _ rfl) (w 3 _ rfl) (w 4 _ rfl) (by decide) (rm1 l Z a0 hw [] q1 q0 (2 : Int32) h7 n0 Z7 ) (by decide) (by decide) (cells' := 1) rfl (slots' := 8) rfl (by decide) (by decide) e7 (by rw [hml]; rfl) (lenOf pd_1 rfl) rfl rfl (hb hby at_32) (pc' := 35) rfl ?_
  intro T9 v9 L9 X9 hQ9
  obtain ⟨rfl, Nq9, e9⟩ := hQ9
  have N9 := Fr.app N7 Nq9
  show Go p e below _ (T9.setTop (mkF m 35 _ [.int (own_f1_ret q1 q0 (2 : Int32)), .int (2 : Int32), .ref b1]))
  refine o_bastore X9 hx hZ 2 e9 V7_ (by decide) (by decide) (by exact (by decide : 2 < 8)) (vs' := [.int (nar .byte (own_f1_ret q1 q0 (0 : Int32))), .int (nar .byte (own_f1_ret q1 q0 (1 : Int32))), .int (nar .byte (own_f1_ret q1 q0 (2 : Int32))), .int (0 : Int32), .int (0 : Int32), .int (0 : Int32), .int (0 : Int32), .int (0 : Int32)]) rfl (hb hby at_35) (pc' := 36) rfl ?_
  intro T10 h10 X10 e10 W10 V10_
  have N10 := Fr.snoc X10 N9 g_b1
  have Z10 : n0 ≤ h10.size := by rw [W10.size]; exact Z7
  refine o_aload X10 hx (hb hby at_36) (pc' := 38) rfl rfl rfl ?_
  refine o_iconst X10 hx (3 : Int32) (hb hby at_38) (pc' := 39) rfl (by decide) ?_
  refine o_iloadN X10 hx (hb hby at_39) (pc' := 40) rfl rfl ?_
  refine o_lloadN X10 hx (hb hby at_40) (pc' := 41) rfl rfl ?_
  refine o_iconst X10 hx (3 : Int32) (hb hby at_41) (pc' := 42) rfl (by decide) ?_
  refine o_callS X10 hx hZ 2 (argsL := [.int q1, .long q0, .int (3 : Int32)]) (rest := [.int (3 : Int32), .ref b1]) hown (w 1 _ rfl) (w 2 _ rfl) (w 3 _ rfl) (w 4 _ rfl) (by decide) (rm1 l Z a0 hw [] q1 q0 (3 : Int32) h10 n0 Z10 ) (by decide) (by decide) (cells' := 1) rfl (slots' := 8) rfl (by decide) (by decide) e10 (by rw [hml]; rfl) (lenOf pd_1 rfl) rfl rfl (hb hby at_42) (pc' := 45) rfl ?_
  intro T12 v12 L12 X12 hQ12
  obtain ⟨rfl, Nq12, e12⟩ := hQ12
  have N12 := Fr.app N10 Nq12
  show Go p e below _ (T12.setTop (mkF m 45 _ [.int (own_f1_ret q1 q0 (3 : Int32)), .int (3 : Int32), .ref b1]))
  refine o_bastore X12 hx hZ 3 e12 V10_ (by decide) (by decide) (by exact (by decide : 3 < 8)) (vs' := [.int (nar .byte (own_f1_ret q1 q0 (0 : Int32))), .int (nar .byte (own_f1_ret q1 q0 (1 : Int32))), .int (nar .byte (own_f1_ret q1 q0 (2 : Int32))), .int (nar .byte (own_f1_ret q1 q0 (3 : Int32))), .int (0 : Int32), .int (0 : Int32), .int (0 : Int32), .int (0 : Int32)]) rfl (hb hby at_45) (pc' := 46) rfl ?_
  intro T13 h13 X13 e13 W13 V13_
  have N13 := Fr.snoc X13 N12 g_b1
  have Z13 : n0 ≤ h13.size := by rw [W13.size]; exact Z10
  refine o_aload X13 hx (hb hby at_46) (pc' := 48) rfl rfl rfl ?_
  refine o_iconst X13 hx (4 : Int32) (hb hby at_48) (pc' := 49) rfl (by decide) ?_
  refine o_iloadN X13 hx (hb hby at_49) (pc' := 50) rfl rfl ?_
  refine o_lloadN X13 hx (hb hby at_50) (pc' := 51) rfl rfl ?_
  refine o_iconst X13 hx (4 : Int32) (hb hby at_51) (pc' := 52) rfl (by decide) ?_
  refine o_callS X13 hx hZ 2 (argsL := [.int q1, .long q0, .int (4 : Int32)]) (rest := [.int (4 : Int32), .ref b1]) hown (w 1 _ rfl) (w 2 _ rfl) (w 3 _ rfl) (w 4 _ rfl) (by decide) (rm1 l Z a0 hw [] q1 q0 (4 : Int32) h13 n0 Z13 ) (by decide) (by decide) (cells' := 1) rfl (slots' := 8) rfl (by decide) (by decide) e13 (by rw [hml]; rfl) (lenOf pd_1 rfl) rfl rfl (hb hby at_52) (pc' := 55) rfl ?_
  intro T15 v15 L15 X15 hQ15
  obtain ⟨rfl, Nq15, e15⟩ := hQ15
  have N15 := Fr.app N13 Nq15
  show Go p e below _ (T15.setTop (mkF m 55 _ [.int (own_f1_ret q1 q0 (4 : Int32)), .int (4 : Int32), .ref b1]))
  refine o_bastore X15 hx hZ 4 e15 V13_ (by decide) (by decide) (by exact (by decide : 4 < 8)) (vs' := [.int (nar .byte (own_f1_ret q1 q0 (0 : Int32))), .int (nar .byte (own_f1_ret q1 q0 (1 : Int32))), .int (nar .byte (own_f1_ret q1 q0 (2 : Int32))), .int (nar .byte (own_f1_ret q1 q0 (3 : Int32))), .int (nar .byte (own_f1_ret q1 q0 (4 : Int32))), .int (0 : Int32), .int (0 : Int32), .int (0 : Int32)]) rfl (hb hby at_55) (pc' := 56) rfl ?_
  intro T16 h16 X16 e16 W16 V16_
  have N16 := Fr.snoc X16 N15 g_b1
  have Z16 : n0 ≤ h16.size := by rw [W16.size]; exact Z13
  refine o_aload X16 hx (hb hby at_56) (pc' := 58) rfl rfl rfl ?_
  refine o_iconst X16 hx (5 : Int32) (hb hby at_58) (pc' := 59) rfl (by decide) ?_
  refine o_iloadN X16 hx (hb hby at_59) (pc' := 60) rfl rfl ?_
  refine o_lloadN X16 hx (hb hby at_60) (pc' := 61) rfl rfl ?_
  refine o_iconst X16 hx (5 : Int32) (hb hby at_61) (pc' := 62) rfl (by decide) ?_
  refine o_callS X16 hx hZ 2 (argsL := [.int q1, .long q0, .int (5 : Int32)]) (rest := [.int (5 : Int32), .ref b1]) hown (w 1 _ rfl) (w 2 _ rfl) (w 3 _ rfl) (w 4 _ rfl) (by decide) (rm1 l Z a0 hw [] q1 q0 (5 : Int32) h16 n0 Z16 ) (by decide) (by decide) (cells' := 1) rfl (slots' := 8) rfl (by decide) (by decide) e16 (by rw [hml]; rfl) (lenOf pd_1 rfl) rfl rfl (hb hby at_62) (pc' := 65) rfl ?_
  intro T18 v18 L18 X18 hQ18
  obtain ⟨rfl, Nq18, e18⟩ := hQ18
  have N18 := Fr.app N16 Nq18
  show Go p e below _ (T18.setTop (mkF m 65 _ [.int (own_f1_ret q1 q0 (5 : Int32)), .int (5 : Int32), .ref b1]))
  refine o_bastore X18 hx hZ 5 e18 V16_ (by decide) (by decide) (by exact (by decide : 5 < 8)) (vs' := [.int (nar .byte (own_f1_ret q1 q0 (0 : Int32))), .int (nar .byte (own_f1_ret q1 q0 (1 : Int32))), .int (nar .byte (own_f1_ret q1 q0 (2 : Int32))), .int (nar .byte (own_f1_ret q1 q0 (3 : Int32))), .int (nar .byte (own_f1_ret q1 q0 (4 : Int32))), .int (nar .byte (own_f1_ret q1 q0 (5 : Int32))), .int (0 : Int32), .int (0 : Int32)]) rfl (hb hby at_65) (pc' := 66) rfl ?_
  intro T19 h19 X19 e19 W19 V19_
  have N19 := Fr.snoc X19 N18 g_b1
  have Z19 : n0 ≤ h19.size := by rw [W19.size]; exact Z16
  refine o_aload X19 hx (hb hby at_66) (pc' := 68) rfl rfl rfl ?_
  refine o_bipush X19 hx (6 : Int32) (hb hby at_68) (pc' := 70) rfl (by decide) ?_
  refine o_iloadN X19 hx (hb hby at_70) (pc' := 71) rfl rfl ?_
  refine o_lloadN X19 hx (hb hby at_71) (pc' := 72) rfl rfl ?_
  refine o_bipush X19 hx (6 : Int32) (hb hby at_72) (pc' := 74) rfl (by decide) ?_
  refine o_callS X19 hx hZ 2 (argsL := [.int q1, .long q0, .int (6 : Int32)]) (rest := [.int (6 : Int32), .ref b1]) hown (w 1 _ rfl) (w 2 _ rfl) (w 3 _ rfl) (w 4 _ rfl) (by decide) (rm1 l Z a0 hw [] q1 q0 (6 : Int32) h19 n0 Z19 ) (by decide) (by decide) (cells' := 1) rfl (slots' := 8) rfl (by decide) (by decide) e19 (by rw [hml]; rfl) (lenOf pd_1 rfl) rfl rfl (hb hby at_74) (pc' := 77) rfl ?_
  intro T21 v21 L21 X21 hQ21
  obtain ⟨rfl, Nq21, e21⟩ := hQ21
  have N21 := Fr.app N19 Nq21
  show Go p e below _ (T21.setTop (mkF m 77 _ [.int (own_f1_ret q1 q0 (6 : Int32)), .int (6 : Int32), .ref b1]))
  refine o_bastore X21 hx hZ 6 e21 V19_ (by decide) (by decide) (by exact (by decide : 6 < 8)) (vs' := [.int (nar .byte (own_f1_ret q1 q0 (0 : Int32))), .int (nar .byte (own_f1_ret q1 q0 (1 : Int32))), .int (nar .byte (own_f1_ret q1 q0 (2 : Int32))), .int (nar .byte (own_f1_ret q1 q0 (3 : Int32))), .int (nar .byte (own_f1_ret q1 q0 (4 : Int32))), .int (nar .byte (own_f1_ret q1 q0 (5 : Int32))), .int (nar .byte (own_f1_ret q1 q0 (6 : Int32))), .int (0 : Int32)]) rfl (hb hby at_77) (pc' := 78) rfl ?_
  intro T22 h22 X22 e22 W22 V22_
  have N22 := Fr.snoc X22 N21 g_b1
  have Z22 : n0 ≤ h22.size := by rw [W22.size]; exact Z19
  refine o_aload X22 hx (hb hby at_78) (pc' := 80) rfl rfl rfl ?_
  refine o_bipush X22 hx (7 : Int32) (hb hby at_80) (pc' := 82) rfl (by decide) ?_
  refine o_iloadN X22 hx (hb hby at_82) (pc' := 83) rfl rfl ?_
  refine o_lloadN X22 hx (hb hby at_83) (pc' := 84) rfl rfl ?_
  refine o_bipush X22 hx (7 : Int32) (hb hby at_84) (pc' := 86) rfl (by decide) ?_
  refine o_callS X22 hx hZ 2 (argsL := [.int q1, .long q0, .int (7 : Int32)]) (rest := [.int (7 : Int32), .ref b1]) hown (w 1 _ rfl) (w 2 _ rfl) (w 3 _ rfl) (w 4 _ rfl) (by decide) (rm1 l Z a0 hw [] q1 q0 (7 : Int32) h22 n0 Z22 ) (by decide) (by decide) (cells' := 1) rfl (slots' := 8) rfl (by decide) (by decide) e22 (by rw [hml]; rfl) (lenOf pd_1 rfl) rfl rfl (hb hby at_86) (pc' := 89) rfl ?_
  intro T24 v24 L24 X24 hQ24
  obtain ⟨rfl, Nq24, e24⟩ := hQ24
  have N24 := Fr.app N22 Nq24
  show Go p e below _ (T24.setTop (mkF m 89 _ [.int (own_f1_ret q1 q0 (7 : Int32)), .int (7 : Int32), .ref b1]))
  refine o_bastore X24 hx hZ 7 e24 V22_ (by decide) (by decide) (by exact (by decide : 7 < 8)) (vs' := [.int (nar .byte (own_f1_ret q1 q0 (0 : Int32))), .int (nar .byte (own_f1_ret q1 q0 (1 : Int32))), .int (nar .byte (own_f1_ret q1 q0 (2 : Int32))), .int (nar .byte (own_f1_ret q1 q0 (3 : Int32))), .int (nar .byte (own_f1_ret q1 q0 (4 : Int32))), .int (nar .byte (own_f1_ret q1 q0 (5 : Int32))), .int (nar .byte (own_f1_ret q1 q0 (6 : Int32))), .int (nar .byte (own_f1_ret q1 q0 (7 : Int32)))]) rfl (hb hby at_89) (pc' := 90) rfl ?_
  intro T25 h25 X25 e25 W25 V25_
  have N25 := Fr.snoc X25 N24 g_b1
  have Z25 : n0 ≤ h25.size := by rw [W25.size]; exact Z22
  refine o_iloadN X25 hx (hb hby at_90) (pc' := 91) rfl rfl ?_
  refine o_ldcI X25 hx hZ (2147483647 : Int32) hown (w 5 _ rfl) (hb hby at_91) (pc' := 93) rfl ?_
  refine o_iand X25 hx (hb hby at_93) (pc' := 94) rfl ?_
  refine o_bipush X25 hx (9 : Int32) (hb hby at_94) (pc' := 96) rfl (by decide) ?_
  refine o_irem X25 hx (hb hby at_96) (pc' := 97) rfl (by decide) ?_
  refine o_istore (x := (own_law_x0 q0 q1 q2 q3)) X25 hx (hb hby at_97) (pc' := 99) rfl (L' := #[.val (.long q0), .second, .val (.int q1), .val (.int q2), .val (.int q3), .val (.ref b1), .val (.int (own_law_x0 q0 q1 q2 q3)), .unset, .unset]) rfl ?_
  refine o_iload X25 hx (hb hby at_99) (pc' := 101) rfl rfl ?_
  refine o_ldcI X25 hx hZ (2147483647 : Int32) hown (w 5 _ rfl) (hb hby at_101) (pc' := 103) rfl ?_
  refine o_iand X25 hx (hb hby at_103) (pc' := 104) rfl ?_
  refine o_bipush X25 hx (9 : Int32) (hb hby at_104) (pc' := 106) rfl (by decide) ?_
  refine o_iload X25 hx (hb hby at_106) (pc' := 108) rfl rfl ?_
  refine o_isub X25 hx (hb hby at_108) (pc' := 109) rfl ?_
  refine o_irem X25 hx (hb hby at_109) (pc' := 110) rfl (own_nz q0 q1 q2 q3) ?_
  refine o_istore (x := (own_law_x1 q0 q1 q2 q3)) X25 hx (hb hby at_110) (pc' := 112) rfl (L' := #[.val (.long q0), .second, .val (.int q1), .val (.int q2), .val (.int q3), .val (.ref b1), .val (.int (own_law_x0 q0 q1 q2 q3)), .val (.int (own_law_x1 q0 q1 q2 q3)), .unset]) rfl ?_
  refine o_aload X25 hx (hb hby at_112) (pc' := 114) rfl rfl rfl ?_
  refine o_iload X25 hx (hb hby at_114) (pc' := 116) rfl rfl ?_
  refine o_iload X25 hx (hb hby at_116) (pc' := 118) rfl rfl ?_
  refine o_callS X25 hx hZ 0 (argsL := [.ref b1, .int (own_law_x0 q0 q1 q2 q3), .int (own_law_x1 q0 q1 q2 q3)]) (rest := []) hown (w 6 _ rfl) (w 7 _ rfl) (w 8 _ rfl) (w 9 _ rfl) (by decide) (rm2 l Z a0 hw [] b1 (nar .byte (own_f1_ret q1 q0 (0 : Int32))) (nar .byte (own_f1_ret q1 q0 (1 : Int32))) (nar .byte (own_f1_ret q1 q0 (2 : Int32))) (nar .byte (own_f1_ret q1 q0 (3 : Int32))) (nar .byte (own_f1_ret q1 q0 (4 : Int32))) (nar .byte (own_f1_ret q1 q0 (5 : Int32))) (nar .byte (own_f1_ret q1 q0 (6 : Int32))) (nar .byte (own_f1_ret q1 q0 (7 : Int32))) (own_law_x0 q0 q1 q2 q3) (own_law_x1 q0 q1 q2 q3) ((own_law_x0 q0 q1 q2 q3)).toNatClampNeg ((own_law_x1 q0 q1 q2 q3)).toNatClampNeg k1 h25 n0 Z25 V25_ (own_hb q0 q1 q2 q3).1 (own_hb q0 q1 q2 q3).2.1 (own_hb q0 q1 q2 q3).2.2) (by decide) (by decide) (cells' := 1) rfl (slots' := 8) rfl (by decide) (by decide) e25 (by rw [hml]; rfl) (lenOf pd_2 rfl) rfl rfl (hb hby at_118) (pc' := 121) rfl ?_
  intro T27 v27 L27 X27 hQ27
  obtain ⟨rfl, Nq27, e27⟩ := hQ27
  have N27 := Fr.app N25 Nq27
  show Go p e below _ (T27.setTop (mkF m 121 _ [.int ((Int32.ofNat (own_trim (own_b8 (nar .byte (own_f1_ret q1 q0 (0 : Int32))) (nar .byte (own_f1_ret q1 q0 (1 : Int32))) (nar .byte (own_f1_ret q1 q0 (2 : Int32))) (nar .byte (own_f1_ret q1 q0 (3 : Int32))) (nar .byte (own_f1_ret q1 q0 (4 : Int32))) (nar .byte (own_f1_ret q1 q0 (5 : Int32))) (nar .byte (own_f1_ret q1 q0 (6 : Int32))) (nar .byte (own_f1_ret q1 q0 (7 : Int32)))) ((own_law_x0 q0 q1 q2 q3)).toNatClampNeg (((own_law_x0 q0 q1 q2 q3)).toNatClampNeg + ((own_law_x1 q0 q1 q2 q3)).toNatClampNeg))) - (own_law_x0 q0 q1 q2 q3))]))
  refine o_istore (x := (own_law_x2 q0 q1 q2 q3)) X27 hx (hb hby at_121) (pc' := 123) rfl (L' := #[.val (.long q0), .second, .val (.int q1), .val (.int q2), .val (.int q3), .val (.ref b1), .val (.int (own_law_x0 q0 q1 q2 q3)), .val (.int (own_law_x1 q0 q1 q2 q3)), .val (.int (own_law_x2 q0 q1 q2 q3))]) rfl ?_
  refine o_iload X27 hx (hb hby at_123) (pc' := 125) rfl rfl ?_
  by_cases hc125_28 : (own_law_x2 q0 q1 q2 q3) < (0 : Int32)
  · refine o_ifY X27 hx (hb hby at_125) (tlt hc125_28).1 (by decide) (pc' := 135) (by decide) ?_
    refine o_iconst X27 hx (0 : Int32) (hb hby at_135) (pc' := 136) rfl (by decide) ?_
    rw [← hOWE]
    exact o_retZ X27 hx rfl hlk hrt (hb hby at_136) (by decide) (by decide) (by rw [e27]; exact ⟨(by rw [own_law_ret, if_pos hc125_28]), N27⟩)
  · refine o_ifN X27 hx (hb hby at_125) (flt hc125_28).1 (pc' := 128) rfl ?_
    refine o_iload X27 hx (hb hby at_128) (pc' := 130) rfl rfl ?_
    refine o_iload X27 hx (hb hby at_130) (pc' := 132) rfl rfl ?_
    by_cases hc132_29 : (own_law_x1 q0 q1 q2 q3) < (own_law_x2 q0 q1 q2 q3)
    · refine o_cmpN X27 hx (hb hby at_132) (tlt hc132_29).2.2.2 (pc' := 135) rfl ?_
      refine o_iconst X27 hx (0 : Int32) (hb hby at_135) (pc' := 136) rfl (by decide) ?_
      rw [← hOWE]
      exact o_retZ X27 hx rfl hlk hrt (hb hby at_136) (by decide) (by decide) (by rw [e27]; exact ⟨(by rw [own_law_ret, if_neg hc125_28, if_pos hc132_29]), N27⟩)
    · refine o_cmpY X27 hx (hb hby at_132) (flt hc132_29).2.2.2 (by decide) (pc' := 137) (by decide) ?_
      refine o_iload X27 hx (hb hby at_137) (pc' := 139) rfl rfl ?_
      by_cases hc139_30 : (0 : Int32) < (own_law_x2 q0 q1 q2 q3)
      · refine o_ifN X27 hx (hb hby at_139) (tlt hc139_30).2.2.2 (pc' := 142) rfl ?_
        refine o_aload X27 hx (hb hby at_142) (pc' := 144) rfl rfl rfl ?_
        refine o_iload X27 hx (hb hby at_144) (pc' := 146) rfl rfl ?_
        refine o_iload X27 hx (hb hby at_146) (pc' := 148) rfl rfl ?_
        refine o_iadd X27 hx (hb hby at_148) (pc' := 149) rfl ?_
        refine o_iconst X27 hx (1 : Int32) (hb hby at_149) (pc' := 150) rfl (by decide) ?_
        refine o_isub X27 hx (hb hby at_150) (pc' := 151) rfl ?_
        refine o_baload X27 hx hZ (.int (own_b8 ((nar .byte (own_f1_ret q1 q0 (0 : Int32)))) ((nar .byte (own_f1_ret q1 q0 (1 : Int32)))) ((nar .byte (own_f1_ret q1 q0 (2 : Int32)))) ((nar .byte (own_f1_ret q1 q0 (3 : Int32)))) ((nar .byte (own_f1_ret q1 q0 (4 : Int32)))) ((nar .byte (own_f1_ret q1 q0 (5 : Int32)))) ((nar .byte (own_f1_ret q1 q0 (6 : Int32)))) ((nar .byte (own_f1_ret q1 q0 (7 : Int32)))) ((((own_law_x0 q0 q1 q2 q3) + (own_law_x2 q0 q1 q2 q3)) - (1 : Int32))).toNatClampNeg)) e27 V25_ (own_idx q0 q1 q2 q3 hc139_30 hc132_29) (own_b8_at _ _ _ _ _ _ _ _ _) (hb hby at_151) (pc' := 152) rfl ?_
        refine o_callS X27 hx hZ 0 (argsL := [.int (own_b8 ((nar .byte (own_f1_ret q1 q0 (0 : Int32)))) ((nar .byte (own_f1_ret q1 q0 (1 : Int32)))) ((nar .byte (own_f1_ret q1 q0 (2 : Int32)))) ((nar .byte (own_f1_ret q1 q0 (3 : Int32)))) ((nar .byte (own_f1_ret q1 q0 (4 : Int32)))) ((nar .byte (own_f1_ret q1 q0 (5 : Int32)))) ((nar .byte (own_f1_ret q1 q0 (6 : Int32)))) ((nar .byte (own_f1_ret q1 q0 (7 : Int32)))) ((((own_law_x0 q0 q1 q2 q3) + (own_law_x2 q0 q1 q2 q3)) - (1 : Int32))).toNatClampNeg)]) (rest := []) hown (w 13 _ rfl) (w 14 _ rfl) (w 3 _ rfl) (w 15 _ rfl) (by decide) (rm4 l Z a0 hw [] (own_b8 ((nar .byte (own_f1_ret q1 q0 (0 : Int32)))) ((nar .byte (own_f1_ret q1 q0 (1 : Int32)))) ((nar .byte (own_f1_ret q1 q0 (2 : Int32)))) ((nar .byte (own_f1_ret q1 q0 (3 : Int32)))) ((nar .byte (own_f1_ret q1 q0 (4 : Int32)))) ((nar .byte (own_f1_ret q1 q0 (5 : Int32)))) ((nar .byte (own_f1_ret q1 q0 (6 : Int32)))) ((nar .byte (own_f1_ret q1 q0 (7 : Int32)))) ((((own_law_x0 q0 q1 q2 q3) + (own_law_x2 q0 q1 q2 q3)) - (1 : Int32))).toNatClampNeg) h25 n0 Z25 ) (by decide) (by decide) (cells' := 1) rfl (slots' := 8) rfl (by decide) (by decide) e27 (by rw [hml]; rfl) (lenOf pd_0 rfl) rfl rfl (hb hby at_152) (pc' := 155) rfl ?_
        intro T31 v31 L31 X31 hQ31
        obtain ⟨rfl, Nq31, e31⟩ := hQ31
        have N31 := Fr.app N27 Nq31
        show Go p e below _ (T31.setTop (mkF m 155 _ [.int (own_f4_ret (own_b8 ((nar .byte (own_f1_ret q1 q0 (0 : Int32)))) ((nar .byte (own_f1_ret q1 q0 (1 : Int32)))) ((nar .byte (own_f1_ret q1 q0 (2 : Int32)))) ((nar .byte (own_f1_ret q1 q0 (3 : Int32)))) ((nar .byte (own_f1_ret q1 q0 (4 : Int32)))) ((nar .byte (own_f1_ret q1 q0 (5 : Int32)))) ((nar .byte (own_f1_ret q1 q0 (6 : Int32)))) ((nar .byte (own_f1_ret q1 q0 (7 : Int32)))) ((((own_law_x0 q0 q1 q2 q3) + (own_law_x2 q0 q1 q2 q3)) - (1 : Int32))).toNatClampNeg))]))
        by_cases hc155_32 : (own_f4_ret (own_b8 ((nar .byte (own_f1_ret q1 q0 (0 : Int32)))) ((nar .byte (own_f1_ret q1 q0 (1 : Int32)))) ((nar .byte (own_f1_ret q1 q0 (2 : Int32)))) ((nar .byte (own_f1_ret q1 q0 (3 : Int32)))) ((nar .byte (own_f1_ret q1 q0 (4 : Int32)))) ((nar .byte (own_f1_ret q1 q0 (5 : Int32)))) ((nar .byte (own_f1_ret q1 q0 (6 : Int32)))) ((nar .byte (own_f1_ret q1 q0 (7 : Int32)))) ((((own_law_x0 q0 q1 q2 q3) + (own_law_x2 q0 q1 q2 q3)) - (1 : Int32))).toNatClampNeg)) = (0 : Int32)
        · refine o_ifY X31 hx (hb hby at_155) (teq hc155_32).1 (by decide) (pc' := 160) (by decide) ?_
          refine o_aload X31 hx (hb hby at_160) (pc' := 162) rfl rfl rfl ?_
          refine o_iconst X31 hx (0 : Int32) (hb hby at_162) (pc' := 163) rfl (by decide) ?_
          refine o_iload X31 hx (hb hby at_163) (pc' := 165) rfl rfl ?_
          refine o_iload X31 hx (hb hby at_165) (pc' := 167) rfl rfl ?_
          refine o_iload X31 hx (hb hby at_167) (pc' := 169) rfl rfl ?_
          refine o_callS X31 hx hZ 0 (argsL := [.ref b1, .int (0 : Int32), .int (own_law_x0 q0 q1 q2 q3), .int (own_law_x2 q0 q1 q2 q3), .int (own_law_x1 q0 q1 q2 q3)]) (rest := []) hown (w 10 _ rfl) (w 11 _ rfl) (w 3 _ rfl) (w 12 _ rfl) (by decide) (rm3_0 l Z a0 hw [] b1 (nar .byte (own_f1_ret q1 q0 (0 : Int32))) (nar .byte (own_f1_ret q1 q0 (1 : Int32))) (nar .byte (own_f1_ret q1 q0 (2 : Int32))) (nar .byte (own_f1_ret q1 q0 (3 : Int32))) (nar .byte (own_f1_ret q1 q0 (4 : Int32))) (nar .byte (own_f1_ret q1 q0 (5 : Int32))) (nar .byte (own_f1_ret q1 q0 (6 : Int32))) (nar .byte (own_f1_ret q1 q0 (7 : Int32))) (own_law_x0 q0 q1 q2 q3) (own_law_x2 q0 q1 q2 q3) (own_law_x1 q0 q1 q2 q3) k1 h25 n0 Z25 V25_) (by decide) (by decide) (cells' := 1) rfl (slots' := 8) rfl (by decide) (by decide) e31 (by rw [hml]; rfl) (lenOf pd_3 rfl) rfl rfl (hb hby at_169) (pc' := 172) rfl ?_
          intro T33 v33 L33 X33 hQ33
          obtain ⟨rfl, Nq33, e33⟩ := hQ33
          have N33 := Fr.app N31 Nq33
          show Go p e below _ (T33.setTop (mkF m 172 _ [.int (own_f3_0_ret (nar .byte (own_f1_ret q1 q0 (0 : Int32))) (nar .byte (own_f1_ret q1 q0 (1 : Int32))) (nar .byte (own_f1_ret q1 q0 (2 : Int32))) (nar .byte (own_f1_ret q1 q0 (3 : Int32))) (nar .byte (own_f1_ret q1 q0 (4 : Int32))) (nar .byte (own_f1_ret q1 q0 (5 : Int32))) (nar .byte (own_f1_ret q1 q0 (6 : Int32))) (nar .byte (own_f1_ret q1 q0 (7 : Int32))) (own_law_x0 q0 q1 q2 q3) (own_law_x2 q0 q1 q2 q3) (own_law_x1 q0 q1 q2 q3))]))
          by_cases hc172_34 : (own_f3_0_ret (nar .byte (own_f1_ret q1 q0 (0 : Int32))) (nar .byte (own_f1_ret q1 q0 (1 : Int32))) (nar .byte (own_f1_ret q1 q0 (2 : Int32))) (nar .byte (own_f1_ret q1 q0 (3 : Int32))) (nar .byte (own_f1_ret q1 q0 (4 : Int32))) (nar .byte (own_f1_ret q1 q0 (5 : Int32))) (nar .byte (own_f1_ret q1 q0 (6 : Int32))) (nar .byte (own_f1_ret q1 q0 (7 : Int32))) (own_law_x0 q0 q1 q2 q3) (own_law_x2 q0 q1 q2 q3) (own_law_x1 q0 q1 q2 q3)) = (0 : Int32)
          · refine o_ifY X33 hx (hb hby at_172) (teq hc172_34).1 (by decide) (pc' := 286) (by decide) ?_
            refine o_iconst X33 hx (0 : Int32) (hb hby at_286) (pc' := 287) rfl (by decide) ?_
            rw [← hOWE]
            exact o_retZ X33 hx rfl hlk hrt (hb hby at_287) (by decide) (by decide) (by rw [e33]; exact ⟨(by rw [own_law_ret, if_neg hc125_28, if_neg hc132_29, if_pos hc139_30, if_pos hc155_32, if_pos hc172_34]), N33⟩)
          · refine o_ifN X33 hx (hb hby at_172) (feq hc172_34).1 (pc' := 175) rfl ?_
            refine o_aload X33 hx (hb hby at_175) (pc' := 177) rfl rfl rfl ?_
            refine o_iconst X33 hx (1 : Int32) (hb hby at_177) (pc' := 178) rfl (by decide) ?_
            refine o_iload X33 hx (hb hby at_178) (pc' := 180) rfl rfl ?_
            refine o_iload X33 hx (hb hby at_180) (pc' := 182) rfl rfl ?_
            refine o_iload X33 hx (hb hby at_182) (pc' := 184) rfl rfl ?_
            refine o_callS X33 hx hZ 0 (argsL := [.ref b1, .int (1 : Int32), .int (own_law_x0 q0 q1 q2 q3), .int (own_law_x2 q0 q1 q2 q3), .int (own_law_x1 q0 q1 q2 q3)]) (rest := []) hown (w 10 _ rfl) (w 11 _ rfl) (w 3 _ rfl) (w 12 _ rfl) (by decide) (rm3_1 l Z a0 hw [] b1 (nar .byte (own_f1_ret q1 q0 (0 : Int32))) (nar .byte (own_f1_ret q1 q0 (1 : Int32))) (nar .byte (own_f1_ret q1 q0 (2 : Int32))) (nar .byte (own_f1_ret q1 q0 (3 : Int32))) (nar .byte (own_f1_ret q1 q0 (4 : Int32))) (nar .byte (own_f1_ret q1 q0 (5 : Int32))) (nar .byte (own_f1_ret q1 q0 (6 : Int32))) (nar .byte (own_f1_ret q1 q0 (7 : Int32))) (own_law_x0 q0 q1 q2 q3) (own_law_x2 q0 q1 q2 q3) (own_law_x1 q0 q1 q2 q3) k1 h25 n0 Z25 V25_) (by decide) (by decide) (cells' := 1) rfl (slots' := 8) rfl (by decide) (by decide) e33 (by rw [hml]; rfl) (lenOf pd_3 rfl) rfl rfl (hb hby at_184) (pc' := 187) rfl ?_
            intro T35 v35 L35 X35 hQ35
            obtain ⟨rfl, Nq35, e35⟩ := hQ35
            have N35 := Fr.app N33 Nq35
            show Go p e below _ (T35.setTop (mkF m 187 _ [.int (own_f3_1_ret (nar .byte (own_f1_ret q1 q0 (0 : Int32))) (nar .byte (own_f1_ret q1 q0 (1 : Int32))) (nar .byte (own_f1_ret q1 q0 (2 : Int32))) (nar .byte (own_f1_ret q1 q0 (3 : Int32))) (nar .byte (own_f1_ret q1 q0 (4 : Int32))) (nar .byte (own_f1_ret q1 q0 (5 : Int32))) (nar .byte (own_f1_ret q1 q0 (6 : Int32))) (nar .byte (own_f1_ret q1 q0 (7 : Int32))) (own_law_x0 q0 q1 q2 q3) (own_law_x2 q0 q1 q2 q3) (own_law_x1 q0 q1 q2 q3))]))
            by_cases hc187_36 : (own_f3_1_ret (nar .byte (own_f1_ret q1 q0 (0 : Int32))) (nar .byte (own_f1_ret q1 q0 (1 : Int32))) (nar .byte (own_f1_ret q1 q0 (2 : Int32))) (nar .byte (own_f1_ret q1 q0 (3 : Int32))) (nar .byte (own_f1_ret q1 q0 (4 : Int32))) (nar .byte (own_f1_ret q1 q0 (5 : Int32))) (nar .byte (own_f1_ret q1 q0 (6 : Int32))) (nar .byte (own_f1_ret q1 q0 (7 : Int32))) (own_law_x0 q0 q1 q2 q3) (own_law_x2 q0 q1 q2 q3) (own_law_x1 q0 q1 q2 q3)) = (0 : Int32)
            · refine o_ifY X35 hx (hb hby at_187) (teq hc187_36).1 (by decide) (pc' := 286) (by decide) ?_
              refine o_iconst X35 hx (0 : Int32) (hb hby at_286) (pc' := 287) rfl (by decide) ?_
              rw [← hOWE]
              exact o_retZ X35 hx rfl hlk hrt (hb hby at_287) (by decide) (by decide) (by rw [e35]; exact ⟨(by rw [own_law_ret, if_neg hc125_28, if_neg hc132_29, if_pos hc139_30, if_pos hc155_32, if_neg hc172_34, if_pos hc187_36]), N35⟩)
            · refine o_ifN X35 hx (hb hby at_187) (feq hc187_36).1 (pc' := 190) rfl ?_
              refine o_aload X35 hx (hb hby at_190) (pc' := 192) rfl rfl rfl ?_
              refine o_iconst X35 hx (2 : Int32) (hb hby at_192) (pc' := 193) rfl (by decide) ?_
              refine o_iload X35 hx (hb hby at_193) (pc' := 195) rfl rfl ?_
              refine o_iload X35 hx (hb hby at_195) (pc' := 197) rfl rfl ?_
              refine o_iload X35 hx (hb hby at_197) (pc' := 199) rfl rfl ?_
              refine o_callS X35 hx hZ 0 (argsL := [.ref b1, .int (2 : Int32), .int (own_law_x0 q0 q1 q2 q3), .int (own_law_x2 q0 q1 q2 q3), .int (own_law_x1 q0 q1 q2 q3)]) (rest := []) hown (w 10 _ rfl) (w 11 _ rfl) (w 3 _ rfl) (w 12 _ rfl) (by decide) (rm3_2 l Z a0 hw [] b1 (nar .byte (own_f1_ret q1 q0 (0 : Int32))) (nar .byte (own_f1_ret q1 q0 (1 : Int32))) (nar .byte (own_f1_ret q1 q0 (2 : Int32))) (nar .byte (own_f1_ret q1 q0 (3 : Int32))) (nar .byte (own_f1_ret q1 q0 (4 : Int32))) (nar .byte (own_f1_ret q1 q0 (5 : Int32))) (nar .byte (own_f1_ret q1 q0 (6 : Int32))) (nar .byte (own_f1_ret q1 q0 (7 : Int32))) (own_law_x0 q0 q1 q2 q3) (own_law_x2 q0 q1 q2 q3) (own_law_x1 q0 q1 q2 q3) k1 h25 n0 Z25 V25_) (by decide) (by decide) (cells' := 1) rfl (slots' := 8) rfl (by decide) (by decide) e35 (by rw [hml]; rfl) (lenOf pd_3 rfl) rfl rfl (hb hby at_199) (pc' := 202) rfl ?_
              intro T37 v37 L37 X37 hQ37
              obtain ⟨rfl, Nq37, e37⟩ := hQ37
              have N37 := Fr.app N35 Nq37
              show Go p e below _ (T37.setTop (mkF m 202 _ [.int (own_f3_2_ret (nar .byte (own_f1_ret q1 q0 (0 : Int32))) (nar .byte (own_f1_ret q1 q0 (1 : Int32))) (nar .byte (own_f1_ret q1 q0 (2 : Int32))) (nar .byte (own_f1_ret q1 q0 (3 : Int32))) (nar .byte (own_f1_ret q1 q0 (4 : Int32))) (nar .byte (own_f1_ret q1 q0 (5 : Int32))) (nar .byte (own_f1_ret q1 q0 (6 : Int32))) (nar .byte (own_f1_ret q1 q0 (7 : Int32))) (own_law_x0 q0 q1 q2 q3) (own_law_x2 q0 q1 q2 q3) (own_law_x1 q0 q1 q2 q3))]))
              by_cases hc202_38 : (own_f3_2_ret (nar .byte (own_f1_ret q1 q0 (0 : Int32))) (nar .byte (own_f1_ret q1 q0 (1 : Int32))) (nar .byte (own_f1_ret q1 q0 (2 : Int32))) (nar .byte (own_f1_ret q1 q0 (3 : Int32))) (nar .byte (own_f1_ret q1 q0 (4 : Int32))) (nar .byte (own_f1_ret q1 q0 (5 : Int32))) (nar .byte (own_f1_ret q1 q0 (6 : Int32))) (nar .byte (own_f1_ret q1 q0 (7 : Int32))) (own_law_x0 q0 q1 q2 q3) (own_law_x2 q0 q1 q2 q3) (own_law_x1 q0 q1 q2 q3)) = (0 : Int32)
              · refine o_ifY X37 hx (hb hby at_202) (teq hc202_38).1 (by decide) (pc' := 286) (by decide) ?_
                refine o_iconst X37 hx (0 : Int32) (hb hby at_286) (pc' := 287) rfl (by decide) ?_
                rw [← hOWE]
                exact o_retZ X37 hx rfl hlk hrt (hb hby at_287) (by decide) (by decide) (by rw [e37]; exact ⟨(by rw [own_law_ret, if_neg hc125_28, if_neg hc132_29, if_pos hc139_30, if_pos hc155_32, if_neg hc172_34, if_neg hc187_36, if_pos hc202_38]), N37⟩)
              · refine o_ifN X37 hx (hb hby at_202) (feq hc202_38).1 (pc' := 205) rfl ?_
                refine o_aload X37 hx (hb hby at_205) (pc' := 207) rfl rfl rfl ?_
                refine o_iconst X37 hx (3 : Int32) (hb hby at_207) (pc' := 208) rfl (by decide) ?_
                refine o_iload X37 hx (hb hby at_208) (pc' := 210) rfl rfl ?_
                refine o_iload X37 hx (hb hby at_210) (pc' := 212) rfl rfl ?_
                refine o_iload X37 hx (hb hby at_212) (pc' := 214) rfl rfl ?_
                refine o_callS X37 hx hZ 0 (argsL := [.ref b1, .int (3 : Int32), .int (own_law_x0 q0 q1 q2 q3), .int (own_law_x2 q0 q1 q2 q3), .int (own_law_x1 q0 q1 q2 q3)]) (rest := []) hown (w 10 _ rfl) (w 11 _ rfl) (w 3 _ rfl) (w 12 _ rfl) (by decide) (rm3_3 l Z a0 hw [] b1 (nar .byte (own_f1_ret q1 q0 (0 : Int32))) (nar .byte (own_f1_ret q1 q0 (1 : Int32))) (nar .byte (own_f1_ret q1 q0 (2 : Int32))) (nar .byte (own_f1_ret q1 q0 (3 : Int32))) (nar .byte (own_f1_ret q1 q0 (4 : Int32))) (nar .byte (own_f1_ret q1 q0 (5 : Int32))) (nar .byte (own_f1_ret q1 q0 (6 : Int32))) (nar .byte (own_f1_ret q1 q0 (7 : Int32))) (own_law_x0 q0 q1 q2 q3) (own_law_x2 q0 q1 q2 q3) (own_law_x1 q0 q1 q2 q3) k1 h25 n0 Z25 V25_) (by decide) (by decide) (cells' := 1) rfl (slots' := 8) rfl (by decide) (by decide) e37 (by rw [hml]; rfl) (lenOf pd_3 rfl) rfl rfl (hb hby at_214) (pc' := 217) rfl ?_
                intro T39 v39 L39 X39 hQ39
                obtain ⟨rfl, Nq39, e39⟩ := hQ39
                have N39 := Fr.app N37 Nq39
                show Go p e below _ (T39.setTop (mkF m 217 _ [.int (own_f3_3_ret (nar .byte (own_f1_ret q1 q0 (0 : Int32))) (nar .byte (own_f1_ret q1 q0 (1 : Int32))) (nar .byte (own_f1_ret q1 q0 (2 : Int32))) (nar .byte (own_f1_ret q1 q0 (3 : Int32))) (nar .byte (own_f1_ret q1 q0 (4 : Int32))) (nar .byte (own_f1_ret q1 q0 (5 : Int32))) (nar .byte (own_f1_ret q1 q0 (6 : Int32))) (nar .byte (own_f1_ret q1 q0 (7 : Int32))) (own_law_x0 q0 q1 q2 q3) (own_law_x2 q0 q1 q2 q3) (own_law_x1 q0 q1 q2 q3))]))
                by_cases hc217_40 : (own_f3_3_ret (nar .byte (own_f1_ret q1 q0 (0 : Int32))) (nar .byte (own_f1_ret q1 q0 (1 : Int32))) (nar .byte (own_f1_ret q1 q0 (2 : Int32))) (nar .byte (own_f1_ret q1 q0 (3 : Int32))) (nar .byte (own_f1_ret q1 q0 (4 : Int32))) (nar .byte (own_f1_ret q1 q0 (5 : Int32))) (nar .byte (own_f1_ret q1 q0 (6 : Int32))) (nar .byte (own_f1_ret q1 q0 (7 : Int32))) (own_law_x0 q0 q1 q2 q3) (own_law_x2 q0 q1 q2 q3) (own_law_x1 q0 q1 q2 q3)) = (0 : Int32)
                · refine o_ifY X39 hx (hb hby at_217) (teq hc217_40).1 (by decide) (pc' := 286) (by decide) ?_
                  refine o_iconst X39 hx (0 : Int32) (hb hby at_286) (pc' := 287) rfl (by decide) ?_
                  rw [← hOWE]
                  exact o_retZ X39 hx rfl hlk hrt (hb hby at_287) (by decide) (by decide) (by rw [e39]; exact ⟨(by rw [own_law_ret, if_neg hc125_28, if_neg hc132_29, if_pos hc139_30, if_pos hc155_32, if_neg hc172_34, if_neg hc187_36, if_neg hc202_38, if_pos hc217_40]), N39⟩)
                · refine o_ifN X39 hx (hb hby at_217) (feq hc217_40).1 (pc' := 220) rfl ?_
                  refine o_aload X39 hx (hb hby at_220) (pc' := 222) rfl rfl rfl ?_
                  refine o_iconst X39 hx (4 : Int32) (hb hby at_222) (pc' := 223) rfl (by decide) ?_
                  refine o_iload X39 hx (hb hby at_223) (pc' := 225) rfl rfl ?_
                  refine o_iload X39 hx (hb hby at_225) (pc' := 227) rfl rfl ?_
                  refine o_iload X39 hx (hb hby at_227) (pc' := 229) rfl rfl ?_
                  refine o_callS X39 hx hZ 0 (argsL := [.ref b1, .int (4 : Int32), .int (own_law_x0 q0 q1 q2 q3), .int (own_law_x2 q0 q1 q2 q3), .int (own_law_x1 q0 q1 q2 q3)]) (rest := []) hown (w 10 _ rfl) (w 11 _ rfl) (w 3 _ rfl) (w 12 _ rfl) (by decide) (rm3_4 l Z a0 hw [] b1 (nar .byte (own_f1_ret q1 q0 (0 : Int32))) (nar .byte (own_f1_ret q1 q0 (1 : Int32))) (nar .byte (own_f1_ret q1 q0 (2 : Int32))) (nar .byte (own_f1_ret q1 q0 (3 : Int32))) (nar .byte (own_f1_ret q1 q0 (4 : Int32))) (nar .byte (own_f1_ret q1 q0 (5 : Int32))) (nar .byte (own_f1_ret q1 q0 (6 : Int32))) (nar .byte (own_f1_ret q1 q0 (7 : Int32))) (own_law_x0 q0 q1 q2 q3) (own_law_x2 q0 q1 q2 q3) (own_law_x1 q0 q1 q2 q3) k1 h25 n0 Z25 V25_) (by decide) (by decide) (cells' := 1) rfl (slots' := 8) rfl (by decide) (by decide) e39 (by rw [hml]; rfl) (lenOf pd_3 rfl) rfl rfl (hb hby at_229) (pc' := 232) rfl ?_
                  intro T41 v41 L41 X41 hQ41
                  obtain ⟨rfl, Nq41, e41⟩ := hQ41
                  have N41 := Fr.app N39 Nq41
                  show Go p e below _ (T41.setTop (mkF m 232 _ [.int (own_f3_4_ret (nar .byte (own_f1_ret q1 q0 (0 : Int32))) (nar .byte (own_f1_ret q1 q0 (1 : Int32))) (nar .byte (own_f1_ret q1 q0 (2 : Int32))) (nar .byte (own_f1_ret q1 q0 (3 : Int32))) (nar .byte (own_f1_ret q1 q0 (4 : Int32))) (nar .byte (own_f1_ret q1 q0 (5 : Int32))) (nar .byte (own_f1_ret q1 q0 (6 : Int32))) (nar .byte (own_f1_ret q1 q0 (7 : Int32))) (own_law_x0 q0 q1 q2 q3) (own_law_x2 q0 q1 q2 q3) (own_law_x1 q0 q1 q2 q3))]))
                  by_cases hc232_42 : (own_f3_4_ret (nar .byte (own_f1_ret q1 q0 (0 : Int32))) (nar .byte (own_f1_ret q1 q0 (1 : Int32))) (nar .byte (own_f1_ret q1 q0 (2 : Int32))) (nar .byte (own_f1_ret q1 q0 (3 : Int32))) (nar .byte (own_f1_ret q1 q0 (4 : Int32))) (nar .byte (own_f1_ret q1 q0 (5 : Int32))) (nar .byte (own_f1_ret q1 q0 (6 : Int32))) (nar .byte (own_f1_ret q1 q0 (7 : Int32))) (own_law_x0 q0 q1 q2 q3) (own_law_x2 q0 q1 q2 q3) (own_law_x1 q0 q1 q2 q3)) = (0 : Int32)
                  · refine o_ifY X41 hx (hb hby at_232) (teq hc232_42).1 (by decide) (pc' := 286) (by decide) ?_
                    refine o_iconst X41 hx (0 : Int32) (hb hby at_286) (pc' := 287) rfl (by decide) ?_
                    rw [← hOWE]
                    exact o_retZ X41 hx rfl hlk hrt (hb hby at_287) (by decide) (by decide) (by rw [e41]; exact ⟨(by rw [own_law_ret, if_neg hc125_28, if_neg hc132_29, if_pos hc139_30, if_pos hc155_32, if_neg hc172_34, if_neg hc187_36, if_neg hc202_38, if_neg hc217_40, if_pos hc232_42]), N41⟩)
                  · refine o_ifN X41 hx (hb hby at_232) (feq hc232_42).1 (pc' := 235) rfl ?_
                    refine o_aload X41 hx (hb hby at_235) (pc' := 237) rfl rfl rfl ?_
                    refine o_iconst X41 hx (5 : Int32) (hb hby at_237) (pc' := 238) rfl (by decide) ?_
                    refine o_iload X41 hx (hb hby at_238) (pc' := 240) rfl rfl ?_
                    refine o_iload X41 hx (hb hby at_240) (pc' := 242) rfl rfl ?_
                    refine o_iload X41 hx (hb hby at_242) (pc' := 244) rfl rfl ?_
                    refine o_callS X41 hx hZ 0 (argsL := [.ref b1, .int (5 : Int32), .int (own_law_x0 q0 q1 q2 q3), .int (own_law_x2 q0 q1 q2 q3), .int (own_law_x1 q0 q1 q2 q3)]) (rest := []) hown (w 10 _ rfl) (w 11 _ rfl) (w 3 _ rfl) (w 12 _ rfl) (by decide) (rm3_5 l Z a0 hw [] b1 (nar .byte (own_f1_ret q1 q0 (0 : Int32))) (nar .byte (own_f1_ret q1 q0 (1 : Int32))) (nar .byte (own_f1_ret q1 q0 (2 : Int32))) (nar .byte (own_f1_ret q1 q0 (3 : Int32))) (nar .byte (own_f1_ret q1 q0 (4 : Int32))) (nar .byte (own_f1_ret q1 q0 (5 : Int32))) (nar .byte (own_f1_ret q1 q0 (6 : Int32))) (nar .byte (own_f1_ret q1 q0 (7 : Int32))) (own_law_x0 q0 q1 q2 q3) (own_law_x2 q0 q1 q2 q3) (own_law_x1 q0 q1 q2 q3) k1 h25 n0 Z25 V25_) (by decide) (by decide) (cells' := 1) rfl (slots' := 8) rfl (by decide) (by decide) e41 (by rw [hml]; rfl) (lenOf pd_3 rfl) rfl rfl (hb hby at_244) (pc' := 247) rfl ?_
                    intro T43 v43 L43 X43 hQ43
                    obtain ⟨rfl, Nq43, e43⟩ := hQ43
                    have N43 := Fr.app N41 Nq43
                    show Go p e below _ (T43.setTop (mkF m 247 _ [.int (own_f3_5_ret (nar .byte (own_f1_ret q1 q0 (0 : Int32))) (nar .byte (own_f1_ret q1 q0 (1 : Int32))) (nar .byte (own_f1_ret q1 q0 (2 : Int32))) (nar .byte (own_f1_ret q1 q0 (3 : Int32))) (nar .byte (own_f1_ret q1 q0 (4 : Int32))) (nar .byte (own_f1_ret q1 q0 (5 : Int32))) (nar .byte (own_f1_ret q1 q0 (6 : Int32))) (nar .byte (own_f1_ret q1 q0 (7 : Int32))) (own_law_x0 q0 q1 q2 q3) (own_law_x2 q0 q1 q2 q3) (own_law_x1 q0 q1 q2 q3))]))
                    by_cases hc247_44 : (own_f3_5_ret (nar .byte (own_f1_ret q1 q0 (0 : Int32))) (nar .byte (own_f1_ret q1 q0 (1 : Int32))) (nar .byte (own_f1_ret q1 q0 (2 : Int32))) (nar .byte (own_f1_ret q1 q0 (3 : Int32))) (nar .byte (own_f1_ret q1 q0 (4 : Int32))) (nar .byte (own_f1_ret q1 q0 (5 : Int32))) (nar .byte (own_f1_ret q1 q0 (6 : Int32))) (nar .byte (own_f1_ret q1 q0 (7 : Int32))) (own_law_x0 q0 q1 q2 q3) (own_law_x2 q0 q1 q2 q3) (own_law_x1 q0 q1 q2 q3)) = (0 : Int32)
                    · refine o_ifY X43 hx (hb hby at_247) (teq hc247_44).1 (by decide) (pc' := 286) (by decide) ?_
                      refine o_iconst X43 hx (0 : Int32) (hb hby at_286) (pc' := 287) rfl (by decide) ?_
                      rw [← hOWE]
                      exact o_retZ X43 hx rfl hlk hrt (hb hby at_287) (by decide) (by decide) (by rw [e43]; exact ⟨(by rw [own_law_ret, if_neg hc125_28, if_neg hc132_29, if_pos hc139_30, if_pos hc155_32, if_neg hc172_34, if_neg hc187_36, if_neg hc202_38, if_neg hc217_40, if_neg hc232_42, if_pos hc247_44]), N43⟩)
                    · refine o_ifN X43 hx (hb hby at_247) (feq hc247_44).1 (pc' := 250) rfl ?_
                      refine o_aload X43 hx (hb hby at_250) (pc' := 252) rfl rfl rfl ?_
                      refine o_bipush X43 hx (6 : Int32) (hb hby at_252) (pc' := 254) rfl (by decide) ?_
                      refine o_iload X43 hx (hb hby at_254) (pc' := 256) rfl rfl ?_
                      refine o_iload X43 hx (hb hby at_256) (pc' := 258) rfl rfl ?_
                      refine o_iload X43 hx (hb hby at_258) (pc' := 260) rfl rfl ?_
                      refine o_callS X43 hx hZ 0 (argsL := [.ref b1, .int (6 : Int32), .int (own_law_x0 q0 q1 q2 q3), .int (own_law_x2 q0 q1 q2 q3), .int (own_law_x1 q0 q1 q2 q3)]) (rest := []) hown (w 10 _ rfl) (w 11 _ rfl) (w 3 _ rfl) (w 12 _ rfl) (by decide) (rm3_6 l Z a0 hw [] b1 (nar .byte (own_f1_ret q1 q0 (0 : Int32))) (nar .byte (own_f1_ret q1 q0 (1 : Int32))) (nar .byte (own_f1_ret q1 q0 (2 : Int32))) (nar .byte (own_f1_ret q1 q0 (3 : Int32))) (nar .byte (own_f1_ret q1 q0 (4 : Int32))) (nar .byte (own_f1_ret q1 q0 (5 : Int32))) (nar .byte (own_f1_ret q1 q0 (6 : Int32))) (nar .byte (own_f1_ret q1 q0 (7 : Int32))) (own_law_x0 q0 q1 q2 q3) (own_law_x2 q0 q1 q2 q3) (own_law_x1 q0 q1 q2 q3) k1 h25 n0 Z25 V25_) (by decide) (by decide) (cells' := 1) rfl (slots' := 8) rfl (by decide) (by decide) e43 (by rw [hml]; rfl) (lenOf pd_3 rfl) rfl rfl (hb hby at_260) (pc' := 263) rfl ?_
                      intro T45 v45 L45 X45 hQ45
                      obtain ⟨rfl, Nq45, e45⟩ := hQ45
                      have N45 := Fr.app N43 Nq45
                      show Go p e below _ (T45.setTop (mkF m 263 _ [.int (own_f3_6_ret (nar .byte (own_f1_ret q1 q0 (0 : Int32))) (nar .byte (own_f1_ret q1 q0 (1 : Int32))) (nar .byte (own_f1_ret q1 q0 (2 : Int32))) (nar .byte (own_f1_ret q1 q0 (3 : Int32))) (nar .byte (own_f1_ret q1 q0 (4 : Int32))) (nar .byte (own_f1_ret q1 q0 (5 : Int32))) (nar .byte (own_f1_ret q1 q0 (6 : Int32))) (nar .byte (own_f1_ret q1 q0 (7 : Int32))) (own_law_x0 q0 q1 q2 q3) (own_law_x2 q0 q1 q2 q3) (own_law_x1 q0 q1 q2 q3))]))
                      by_cases hc263_46 : (own_f3_6_ret (nar .byte (own_f1_ret q1 q0 (0 : Int32))) (nar .byte (own_f1_ret q1 q0 (1 : Int32))) (nar .byte (own_f1_ret q1 q0 (2 : Int32))) (nar .byte (own_f1_ret q1 q0 (3 : Int32))) (nar .byte (own_f1_ret q1 q0 (4 : Int32))) (nar .byte (own_f1_ret q1 q0 (5 : Int32))) (nar .byte (own_f1_ret q1 q0 (6 : Int32))) (nar .byte (own_f1_ret q1 q0 (7 : Int32))) (own_law_x0 q0 q1 q2 q3) (own_law_x2 q0 q1 q2 q3) (own_law_x1 q0 q1 q2 q3)) = (0 : Int32)
                      · refine o_ifY X45 hx (hb hby at_263) (teq hc263_46).1 (by decide) (pc' := 286) (by decide) ?_
                        refine o_iconst X45 hx (0 : Int32) (hb hby at_286) (pc' := 287) rfl (by decide) ?_
                        rw [← hOWE]
                        exact o_retZ X45 hx rfl hlk hrt (hb hby at_287) (by decide) (by decide) (by rw [e45]; exact ⟨(by rw [own_law_ret, if_neg hc125_28, if_neg hc132_29, if_pos hc139_30, if_pos hc155_32, if_neg hc172_34, if_neg hc187_36, if_neg hc202_38, if_neg hc217_40, if_neg hc232_42, if_neg hc247_44, if_pos hc263_46]), N45⟩)
                      · refine o_ifN X45 hx (hb hby at_263) (feq hc263_46).1 (pc' := 266) rfl ?_
                        refine o_aload X45 hx (hb hby at_266) (pc' := 268) rfl rfl rfl ?_
                        refine o_bipush X45 hx (7 : Int32) (hb hby at_268) (pc' := 270) rfl (by decide) ?_
                        refine o_iload X45 hx (hb hby at_270) (pc' := 272) rfl rfl ?_
                        refine o_iload X45 hx (hb hby at_272) (pc' := 274) rfl rfl ?_
                        refine o_iload X45 hx (hb hby at_274) (pc' := 276) rfl rfl ?_
                        refine o_callS X45 hx hZ 0 (argsL := [.ref b1, .int (7 : Int32), .int (own_law_x0 q0 q1 q2 q3), .int (own_law_x2 q0 q1 q2 q3), .int (own_law_x1 q0 q1 q2 q3)]) (rest := []) hown (w 10 _ rfl) (w 11 _ rfl) (w 3 _ rfl) (w 12 _ rfl) (by decide) (rm3_7 l Z a0 hw [] b1 (nar .byte (own_f1_ret q1 q0 (0 : Int32))) (nar .byte (own_f1_ret q1 q0 (1 : Int32))) (nar .byte (own_f1_ret q1 q0 (2 : Int32))) (nar .byte (own_f1_ret q1 q0 (3 : Int32))) (nar .byte (own_f1_ret q1 q0 (4 : Int32))) (nar .byte (own_f1_ret q1 q0 (5 : Int32))) (nar .byte (own_f1_ret q1 q0 (6 : Int32))) (nar .byte (own_f1_ret q1 q0 (7 : Int32))) (own_law_x0 q0 q1 q2 q3) (own_law_x2 q0 q1 q2 q3) (own_law_x1 q0 q1 q2 q3) k1 h25 n0 Z25 V25_) (by decide) (by decide) (cells' := 1) rfl (slots' := 8) rfl (by decide) (by decide) e45 (by rw [hml]; rfl) (lenOf pd_3 rfl) rfl rfl (hb hby at_276) (pc' := 279) rfl ?_
                        intro T47 v47 L47 X47 hQ47
                        obtain ⟨rfl, Nq47, e47⟩ := hQ47
                        have N47 := Fr.app N45 Nq47
                        show Go p e below _ (T47.setTop (mkF m 279 _ [.int (own_f3_7_ret (nar .byte (own_f1_ret q1 q0 (0 : Int32))) (nar .byte (own_f1_ret q1 q0 (1 : Int32))) (nar .byte (own_f1_ret q1 q0 (2 : Int32))) (nar .byte (own_f1_ret q1 q0 (3 : Int32))) (nar .byte (own_f1_ret q1 q0 (4 : Int32))) (nar .byte (own_f1_ret q1 q0 (5 : Int32))) (nar .byte (own_f1_ret q1 q0 (6 : Int32))) (nar .byte (own_f1_ret q1 q0 (7 : Int32))) (own_law_x0 q0 q1 q2 q3) (own_law_x2 q0 q1 q2 q3) (own_law_x1 q0 q1 q2 q3))]))
                        by_cases hc279_48 : (own_f3_7_ret (nar .byte (own_f1_ret q1 q0 (0 : Int32))) (nar .byte (own_f1_ret q1 q0 (1 : Int32))) (nar .byte (own_f1_ret q1 q0 (2 : Int32))) (nar .byte (own_f1_ret q1 q0 (3 : Int32))) (nar .byte (own_f1_ret q1 q0 (4 : Int32))) (nar .byte (own_f1_ret q1 q0 (5 : Int32))) (nar .byte (own_f1_ret q1 q0 (6 : Int32))) (nar .byte (own_f1_ret q1 q0 (7 : Int32))) (own_law_x0 q0 q1 q2 q3) (own_law_x2 q0 q1 q2 q3) (own_law_x1 q0 q1 q2 q3)) = (0 : Int32)
                        · refine o_ifY X47 hx (hb hby at_279) (teq hc279_48).1 (by decide) (pc' := 286) (by decide) ?_
                          refine o_iconst X47 hx (0 : Int32) (hb hby at_286) (pc' := 287) rfl (by decide) ?_
                          rw [← hOWE]
                          exact o_retZ X47 hx rfl hlk hrt (hb hby at_287) (by decide) (by decide) (by rw [e47]; exact ⟨(by rw [own_law_ret, if_neg hc125_28, if_neg hc132_29, if_pos hc139_30, if_pos hc155_32, if_neg hc172_34, if_neg hc187_36, if_neg hc202_38, if_neg hc217_40, if_neg hc232_42, if_neg hc247_44, if_neg hc263_46, if_pos hc279_48]), N47⟩)
                        · refine o_ifN X47 hx (hb hby at_279) (feq hc279_48).1 (pc' := 282) rfl ?_
                          refine o_iconst X47 hx (1 : Int32) (hb hby at_282) (pc' := 283) rfl (by decide) ?_
                          refine o_goto X47 hx (hb hby at_283) (by decide) (pc' := 287) (by decide) ?_
                          rw [← hOWE]
                          exact o_retZ X47 hx rfl hlk hrt (hb hby at_287) (by decide) (by decide) (by rw [e47]; exact ⟨(by rw [own_law_ret, if_neg hc125_28, if_neg hc132_29, if_pos hc139_30, if_pos hc155_32, if_neg hc172_34, if_neg hc187_36, if_neg hc202_38, if_neg hc217_40, if_neg hc232_42, if_neg hc247_44, if_neg hc263_46, if_neg hc279_48]), N47⟩)
        · refine o_ifN X31 hx (hb hby at_155) (feq hc155_32).1 (pc' := 158) rfl ?_
          refine o_iconst X31 hx (0 : Int32) (hb hby at_158) (pc' := 159) rfl (by decide) ?_
          rw [← hOWE]
          exact o_retZ X31 hx rfl hlk hrt (hb hby at_159) (by decide) (by decide) (by rw [e31]; exact ⟨(by rw [own_law_ret, if_neg hc125_28, if_neg hc132_29, if_pos hc139_30, if_neg hc155_32]), N31⟩)
      · refine o_ifY X27 hx (hb hby at_139) (flt hc139_30).2.2.2 (by decide) (pc' := 160) (by decide) ?_
        refine o_aload X27 hx (hb hby at_160) (pc' := 162) rfl rfl rfl ?_
        refine o_iconst X27 hx (0 : Int32) (hb hby at_162) (pc' := 163) rfl (by decide) ?_
        refine o_iload X27 hx (hb hby at_163) (pc' := 165) rfl rfl ?_
        refine o_iload X27 hx (hb hby at_165) (pc' := 167) rfl rfl ?_
        refine o_iload X27 hx (hb hby at_167) (pc' := 169) rfl rfl ?_
        refine o_callS X27 hx hZ 0 (argsL := [.ref b1, .int (0 : Int32), .int (own_law_x0 q0 q1 q2 q3), .int (own_law_x2 q0 q1 q2 q3), .int (own_law_x1 q0 q1 q2 q3)]) (rest := []) hown (w 10 _ rfl) (w 11 _ rfl) (w 3 _ rfl) (w 12 _ rfl) (by decide) (rm3_0 l Z a0 hw [] b1 (nar .byte (own_f1_ret q1 q0 (0 : Int32))) (nar .byte (own_f1_ret q1 q0 (1 : Int32))) (nar .byte (own_f1_ret q1 q0 (2 : Int32))) (nar .byte (own_f1_ret q1 q0 (3 : Int32))) (nar .byte (own_f1_ret q1 q0 (4 : Int32))) (nar .byte (own_f1_ret q1 q0 (5 : Int32))) (nar .byte (own_f1_ret q1 q0 (6 : Int32))) (nar .byte (own_f1_ret q1 q0 (7 : Int32))) (own_law_x0 q0 q1 q2 q3) (own_law_x2 q0 q1 q2 q3) (own_law_x1 q0 q1 q2 q3) k1 h25 n0 Z25 V25_) (by decide) (by decide) (cells' := 1) rfl (slots' := 8) rfl (by decide) (by decide) e27 (by rw [hml]; rfl) (lenOf pd_3 rfl) rfl rfl (hb hby at_169) (pc' := 172) rfl ?_
        intro T49 v49 L49 X49 hQ49
        obtain ⟨rfl, Nq49, e49⟩ := hQ49
        have N49 := Fr.app N27 Nq49
        show Go p e below _ (T49.setTop (mkF m 172 _ [.int (own_f3_0_ret (nar .byte (own_f1_ret q1 q0 (0 : Int32))) (nar .byte (own_f1_ret q1 q0 (1 : Int32))) (nar .byte (own_f1_ret q1 q0 (2 : Int32))) (nar .byte (own_f1_ret q1 q0 (3 : Int32))) (nar .byte (own_f1_ret q1 q0 (4 : Int32))) (nar .byte (own_f1_ret q1 q0 (5 : Int32))) (nar .byte (own_f1_ret q1 q0 (6 : Int32))) (nar .byte (own_f1_ret q1 q0 (7 : Int32))) (own_law_x0 q0 q1 q2 q3) (own_law_x2 q0 q1 q2 q3) (own_law_x1 q0 q1 q2 q3))]))
        by_cases hc172_50 : (own_f3_0_ret (nar .byte (own_f1_ret q1 q0 (0 : Int32))) (nar .byte (own_f1_ret q1 q0 (1 : Int32))) (nar .byte (own_f1_ret q1 q0 (2 : Int32))) (nar .byte (own_f1_ret q1 q0 (3 : Int32))) (nar .byte (own_f1_ret q1 q0 (4 : Int32))) (nar .byte (own_f1_ret q1 q0 (5 : Int32))) (nar .byte (own_f1_ret q1 q0 (6 : Int32))) (nar .byte (own_f1_ret q1 q0 (7 : Int32))) (own_law_x0 q0 q1 q2 q3) (own_law_x2 q0 q1 q2 q3) (own_law_x1 q0 q1 q2 q3)) = (0 : Int32)
        · refine o_ifY X49 hx (hb hby at_172) (teq hc172_50).1 (by decide) (pc' := 286) (by decide) ?_
          refine o_iconst X49 hx (0 : Int32) (hb hby at_286) (pc' := 287) rfl (by decide) ?_
          rw [← hOWE]
          exact o_retZ X49 hx rfl hlk hrt (hb hby at_287) (by decide) (by decide) (by rw [e49]; exact ⟨(by rw [own_law_ret, if_neg hc125_28, if_neg hc132_29, if_neg hc139_30, if_pos hc172_50]), N49⟩)
        · refine o_ifN X49 hx (hb hby at_172) (feq hc172_50).1 (pc' := 175) rfl ?_
          refine o_aload X49 hx (hb hby at_175) (pc' := 177) rfl rfl rfl ?_
          refine o_iconst X49 hx (1 : Int32) (hb hby at_177) (pc' := 178) rfl (by decide) ?_
          refine o_iload X49 hx (hb hby at_178) (pc' := 180) rfl rfl ?_
          refine o_iload X49 hx (hb hby at_180) (pc' := 182) rfl rfl ?_
          refine o_iload X49 hx (hb hby at_182) (pc' := 184) rfl rfl ?_
          refine o_callS X49 hx hZ 0 (argsL := [.ref b1, .int (1 : Int32), .int (own_law_x0 q0 q1 q2 q3), .int (own_law_x2 q0 q1 q2 q3), .int (own_law_x1 q0 q1 q2 q3)]) (rest := []) hown (w 10 _ rfl) (w 11 _ rfl) (w 3 _ rfl) (w 12 _ rfl) (by decide) (rm3_1 l Z a0 hw [] b1 (nar .byte (own_f1_ret q1 q0 (0 : Int32))) (nar .byte (own_f1_ret q1 q0 (1 : Int32))) (nar .byte (own_f1_ret q1 q0 (2 : Int32))) (nar .byte (own_f1_ret q1 q0 (3 : Int32))) (nar .byte (own_f1_ret q1 q0 (4 : Int32))) (nar .byte (own_f1_ret q1 q0 (5 : Int32))) (nar .byte (own_f1_ret q1 q0 (6 : Int32))) (nar .byte (own_f1_ret q1 q0 (7 : Int32))) (own_law_x0 q0 q1 q2 q3) (own_law_x2 q0 q1 q2 q3) (own_law_x1 q0 q1 q2 q3) k1 h25 n0 Z25 V25_) (by decide) (by decide) (cells' := 1) rfl (slots' := 8) rfl (by decide) (by decide) e49 (by rw [hml]; rfl) (lenOf pd_3 rfl) rfl rfl (hb hby at_184) (pc' := 187) rfl ?_
          intro T51 v51 L51 X51 hQ51
          obtain ⟨rfl, Nq51, e51⟩ := hQ51
          have N51 := Fr.app N49 Nq51
          show Go p e below _ (T51.setTop (mkF m 187 _ [.int (own_f3_1_ret (nar .byte (own_f1_ret q1 q0 (0 : Int32))) (nar .byte (own_f1_ret q1 q0 (1 : Int32))) (nar .byte (own_f1_ret q1 q0 (2 : Int32))) (nar .byte (own_f1_ret q1 q0 (3 : Int32))) (nar .byte (own_f1_ret q1 q0 (4 : Int32))) (nar .byte (own_f1_ret q1 q0 (5 : Int32))) (nar .byte (own_f1_ret q1 q0 (6 : Int32))) (nar .byte (own_f1_ret q1 q0 (7 : Int32))) (own_law_x0 q0 q1 q2 q3) (own_law_x2 q0 q1 q2 q3) (own_law_x1 q0 q1 q2 q3))]))
          by_cases hc187_52 : (own_f3_1_ret (nar .byte (own_f1_ret q1 q0 (0 : Int32))) (nar .byte (own_f1_ret q1 q0 (1 : Int32))) (nar .byte (own_f1_ret q1 q0 (2 : Int32))) (nar .byte (own_f1_ret q1 q0 (3 : Int32))) (nar .byte (own_f1_ret q1 q0 (4 : Int32))) (nar .byte (own_f1_ret q1 q0 (5 : Int32))) (nar .byte (own_f1_ret q1 q0 (6 : Int32))) (nar .byte (own_f1_ret q1 q0 (7 : Int32))) (own_law_x0 q0 q1 q2 q3) (own_law_x2 q0 q1 q2 q3) (own_law_x1 q0 q1 q2 q3)) = (0 : Int32)
          · refine o_ifY X51 hx (hb hby at_187) (teq hc187_52).1 (by decide) (pc' := 286) (by decide) ?_
            refine o_iconst X51 hx (0 : Int32) (hb hby at_286) (pc' := 287) rfl (by decide) ?_
            rw [← hOWE]
            exact o_retZ X51 hx rfl hlk hrt (hb hby at_287) (by decide) (by decide) (by rw [e51]; exact ⟨(by rw [own_law_ret, if_neg hc125_28, if_neg hc132_29, if_neg hc139_30, if_neg hc172_50, if_pos hc187_52]), N51⟩)
          · refine o_ifN X51 hx (hb hby at_187) (feq hc187_52).1 (pc' := 190) rfl ?_
            refine o_aload X51 hx (hb hby at_190) (pc' := 192) rfl rfl rfl ?_
            refine o_iconst X51 hx (2 : Int32) (hb hby at_192) (pc' := 193) rfl (by decide) ?_
            refine o_iload X51 hx (hb hby at_193) (pc' := 195) rfl rfl ?_
            refine o_iload X51 hx (hb hby at_195) (pc' := 197) rfl rfl ?_
            refine o_iload X51 hx (hb hby at_197) (pc' := 199) rfl rfl ?_
            refine o_callS X51 hx hZ 0 (argsL := [.ref b1, .int (2 : Int32), .int (own_law_x0 q0 q1 q2 q3), .int (own_law_x2 q0 q1 q2 q3), .int (own_law_x1 q0 q1 q2 q3)]) (rest := []) hown (w 10 _ rfl) (w 11 _ rfl) (w 3 _ rfl) (w 12 _ rfl) (by decide) (rm3_2 l Z a0 hw [] b1 (nar .byte (own_f1_ret q1 q0 (0 : Int32))) (nar .byte (own_f1_ret q1 q0 (1 : Int32))) (nar .byte (own_f1_ret q1 q0 (2 : Int32))) (nar .byte (own_f1_ret q1 q0 (3 : Int32))) (nar .byte (own_f1_ret q1 q0 (4 : Int32))) (nar .byte (own_f1_ret q1 q0 (5 : Int32))) (nar .byte (own_f1_ret q1 q0 (6 : Int32))) (nar .byte (own_f1_ret q1 q0 (7 : Int32))) (own_law_x0 q0 q1 q2 q3) (own_law_x2 q0 q1 q2 q3) (own_law_x1 q0 q1 q2 q3) k1 h25 n0 Z25 V25_) (by decide) (by decide) (cells' := 1) rfl (slots' := 8) rfl (by decide) (by decide) e51 (by rw [hml]; rfl) (lenOf pd_3 rfl) rfl rfl (hb hby at_199) (pc' := 202) rfl ?_
            intro T53 v53 L53 X53 hQ53
            obtain ⟨rfl, Nq53, e53⟩ := hQ53
            have N53 := Fr.app N51 Nq53
            show Go p e below _ (T53.setTop (mkF m 202 _ [.int (own_f3_2_ret (nar .byte (own_f1_ret q1 q0 (0 : Int32))) (nar .byte (own_f1_ret q1 q0 (1 : Int32))) (nar .byte (own_f1_ret q1 q0 (2 : Int32))) (nar .byte (own_f1_ret q1 q0 (3 : Int32))) (nar .byte (own_f1_ret q1 q0 (4 : Int32))) (nar .byte (own_f1_ret q1 q0 (5 : Int32))) (nar .byte (own_f1_ret q1 q0 (6 : Int32))) (nar .byte (own_f1_ret q1 q0 (7 : Int32))) (own_law_x0 q0 q1 q2 q3) (own_law_x2 q0 q1 q2 q3) (own_law_x1 q0 q1 q2 q3))]))
            by_cases hc202_54 : (own_f3_2_ret (nar .byte (own_f1_ret q1 q0 (0 : Int32))) (nar .byte (own_f1_ret q1 q0 (1 : Int32))) (nar .byte (own_f1_ret q1 q0 (2 : Int32))) (nar .byte (own_f1_ret q1 q0 (3 : Int32))) (nar .byte (own_f1_ret q1 q0 (4 : Int32))) (nar .byte (own_f1_ret q1 q0 (5 : Int32))) (nar .byte (own_f1_ret q1 q0 (6 : Int32))) (nar .byte (own_f1_ret q1 q0 (7 : Int32))) (own_law_x0 q0 q1 q2 q3) (own_law_x2 q0 q1 q2 q3) (own_law_x1 q0 q1 q2 q3)) = (0 : Int32)
            · refine o_ifY X53 hx (hb hby at_202) (teq hc202_54).1 (by decide) (pc' := 286) (by decide) ?_
              refine o_iconst X53 hx (0 : Int32) (hb hby at_286) (pc' := 287) rfl (by decide) ?_
              rw [← hOWE]
              exact o_retZ X53 hx rfl hlk hrt (hb hby at_287) (by decide) (by decide) (by rw [e53]; exact ⟨(by rw [own_law_ret, if_neg hc125_28, if_neg hc132_29, if_neg hc139_30, if_neg hc172_50, if_neg hc187_52, if_pos hc202_54]), N53⟩)
            · refine o_ifN X53 hx (hb hby at_202) (feq hc202_54).1 (pc' := 205) rfl ?_
              refine o_aload X53 hx (hb hby at_205) (pc' := 207) rfl rfl rfl ?_
              refine o_iconst X53 hx (3 : Int32) (hb hby at_207) (pc' := 208) rfl (by decide) ?_
              refine o_iload X53 hx (hb hby at_208) (pc' := 210) rfl rfl ?_
              refine o_iload X53 hx (hb hby at_210) (pc' := 212) rfl rfl ?_
              refine o_iload X53 hx (hb hby at_212) (pc' := 214) rfl rfl ?_
              refine o_callS X53 hx hZ 0 (argsL := [.ref b1, .int (3 : Int32), .int (own_law_x0 q0 q1 q2 q3), .int (own_law_x2 q0 q1 q2 q3), .int (own_law_x1 q0 q1 q2 q3)]) (rest := []) hown (w 10 _ rfl) (w 11 _ rfl) (w 3 _ rfl) (w 12 _ rfl) (by decide) (rm3_3 l Z a0 hw [] b1 (nar .byte (own_f1_ret q1 q0 (0 : Int32))) (nar .byte (own_f1_ret q1 q0 (1 : Int32))) (nar .byte (own_f1_ret q1 q0 (2 : Int32))) (nar .byte (own_f1_ret q1 q0 (3 : Int32))) (nar .byte (own_f1_ret q1 q0 (4 : Int32))) (nar .byte (own_f1_ret q1 q0 (5 : Int32))) (nar .byte (own_f1_ret q1 q0 (6 : Int32))) (nar .byte (own_f1_ret q1 q0 (7 : Int32))) (own_law_x0 q0 q1 q2 q3) (own_law_x2 q0 q1 q2 q3) (own_law_x1 q0 q1 q2 q3) k1 h25 n0 Z25 V25_) (by decide) (by decide) (cells' := 1) rfl (slots' := 8) rfl (by decide) (by decide) e53 (by rw [hml]; rfl) (lenOf pd_3 rfl) rfl rfl (hb hby at_214) (pc' := 217) rfl ?_
              intro T55 v55 L55 X55 hQ55
              obtain ⟨rfl, Nq55, e55⟩ := hQ55
              have N55 := Fr.app N53 Nq55
              show Go p e below _ (T55.setTop (mkF m 217 _ [.int (own_f3_3_ret (nar .byte (own_f1_ret q1 q0 (0 : Int32))) (nar .byte (own_f1_ret q1 q0 (1 : Int32))) (nar .byte (own_f1_ret q1 q0 (2 : Int32))) (nar .byte (own_f1_ret q1 q0 (3 : Int32))) (nar .byte (own_f1_ret q1 q0 (4 : Int32))) (nar .byte (own_f1_ret q1 q0 (5 : Int32))) (nar .byte (own_f1_ret q1 q0 (6 : Int32))) (nar .byte (own_f1_ret q1 q0 (7 : Int32))) (own_law_x0 q0 q1 q2 q3) (own_law_x2 q0 q1 q2 q3) (own_law_x1 q0 q1 q2 q3))]))
              by_cases hc217_56 : (own_f3_3_ret (nar .byte (own_f1_ret q1 q0 (0 : Int32))) (nar .byte (own_f1_ret q1 q0 (1 : Int32))) (nar .byte (own_f1_ret q1 q0 (2 : Int32))) (nar .byte (own_f1_ret q1 q0 (3 : Int32))) (nar .byte (own_f1_ret q1 q0 (4 : Int32))) (nar .byte (own_f1_ret q1 q0 (5 : Int32))) (nar .byte (own_f1_ret q1 q0 (6 : Int32))) (nar .byte (own_f1_ret q1 q0 (7 : Int32))) (own_law_x0 q0 q1 q2 q3) (own_law_x2 q0 q1 q2 q3) (own_law_x1 q0 q1 q2 q3)) = (0 : Int32)
              · refine o_ifY X55 hx (hb hby at_217) (teq hc217_56).1 (by decide) (pc' := 286) (by decide) ?_
                refine o_iconst X55 hx (0 : Int32) (hb hby at_286) (pc' := 287) rfl (by decide) ?_
                rw [← hOWE]
                exact o_retZ X55 hx rfl hlk hrt (hb hby at_287) (by decide) (by decide) (by rw [e55]; exact ⟨(by rw [own_law_ret, if_neg hc125_28, if_neg hc132_29, if_neg hc139_30, if_neg hc172_50, if_neg hc187_52, if_neg hc202_54, if_pos hc217_56]), N55⟩)
              · refine o_ifN X55 hx (hb hby at_217) (feq hc217_56).1 (pc' := 220) rfl ?_
                refine o_aload X55 hx (hb hby at_220) (pc' := 222) rfl rfl rfl ?_
                refine o_iconst X55 hx (4 : Int32) (hb hby at_222) (pc' := 223) rfl (by decide) ?_
                refine o_iload X55 hx (hb hby at_223) (pc' := 225) rfl rfl ?_
                refine o_iload X55 hx (hb hby at_225) (pc' := 227) rfl rfl ?_
                refine o_iload X55 hx (hb hby at_227) (pc' := 229) rfl rfl ?_
                refine o_callS X55 hx hZ 0 (argsL := [.ref b1, .int (4 : Int32), .int (own_law_x0 q0 q1 q2 q3), .int (own_law_x2 q0 q1 q2 q3), .int (own_law_x1 q0 q1 q2 q3)]) (rest := []) hown (w 10 _ rfl) (w 11 _ rfl) (w 3 _ rfl) (w 12 _ rfl) (by decide) (rm3_4 l Z a0 hw [] b1 (nar .byte (own_f1_ret q1 q0 (0 : Int32))) (nar .byte (own_f1_ret q1 q0 (1 : Int32))) (nar .byte (own_f1_ret q1 q0 (2 : Int32))) (nar .byte (own_f1_ret q1 q0 (3 : Int32))) (nar .byte (own_f1_ret q1 q0 (4 : Int32))) (nar .byte (own_f1_ret q1 q0 (5 : Int32))) (nar .byte (own_f1_ret q1 q0 (6 : Int32))) (nar .byte (own_f1_ret q1 q0 (7 : Int32))) (own_law_x0 q0 q1 q2 q3) (own_law_x2 q0 q1 q2 q3) (own_law_x1 q0 q1 q2 q3) k1 h25 n0 Z25 V25_) (by decide) (by decide) (cells' := 1) rfl (slots' := 8) rfl (by decide) (by decide) e55 (by rw [hml]; rfl) (lenOf pd_3 rfl) rfl rfl (hb hby at_229) (pc' := 232) rfl ?_
                intro T57 v57 L57 X57 hQ57
                obtain ⟨rfl, Nq57, e57⟩ := hQ57
                have N57 := Fr.app N55 Nq57
                show Go p e below _ (T57.setTop (mkF m 232 _ [.int (own_f3_4_ret (nar .byte (own_f1_ret q1 q0 (0 : Int32))) (nar .byte (own_f1_ret q1 q0 (1 : Int32))) (nar .byte (own_f1_ret q1 q0 (2 : Int32))) (nar .byte (own_f1_ret q1 q0 (3 : Int32))) (nar .byte (own_f1_ret q1 q0 (4 : Int32))) (nar .byte (own_f1_ret q1 q0 (5 : Int32))) (nar .byte (own_f1_ret q1 q0 (6 : Int32))) (nar .byte (own_f1_ret q1 q0 (7 : Int32))) (own_law_x0 q0 q1 q2 q3) (own_law_x2 q0 q1 q2 q3) (own_law_x1 q0 q1 q2 q3))]))
                by_cases hc232_58 : (own_f3_4_ret (nar .byte (own_f1_ret q1 q0 (0 : Int32))) (nar .byte (own_f1_ret q1 q0 (1 : Int32))) (nar .byte (own_f1_ret q1 q0 (2 : Int32))) (nar .byte (own_f1_ret q1 q0 (3 : Int32))) (nar .byte (own_f1_ret q1 q0 (4 : Int32))) (nar .byte (own_f1_ret q1 q0 (5 : Int32))) (nar .byte (own_f1_ret q1 q0 (6 : Int32))) (nar .byte (own_f1_ret q1 q0 (7 : Int32))) (own_law_x0 q0 q1 q2 q3) (own_law_x2 q0 q1 q2 q3) (own_law_x1 q0 q1 q2 q3)) = (0 : Int32)
                · refine o_ifY X57 hx (hb hby at_232) (teq hc232_58).1 (by decide) (pc' := 286) (by decide) ?_
                  refine o_iconst X57 hx (0 : Int32) (hb hby at_286) (pc' := 287) rfl (by decide) ?_
                  rw [← hOWE]
                  exact o_retZ X57 hx rfl hlk hrt (hb hby at_287) (by decide) (by decide) (by rw [e57]; exact ⟨(by rw [own_law_ret, if_neg hc125_28, if_neg hc132_29, if_neg hc139_30, if_neg hc172_50, if_neg hc187_52, if_neg hc202_54, if_neg hc217_56, if_pos hc232_58]), N57⟩)
                · refine o_ifN X57 hx (hb hby at_232) (feq hc232_58).1 (pc' := 235) rfl ?_
                  refine o_aload X57 hx (hb hby at_235) (pc' := 237) rfl rfl rfl ?_
                  refine o_iconst X57 hx (5 : Int32) (hb hby at_237) (pc' := 238) rfl (by decide) ?_
                  refine o_iload X57 hx (hb hby at_238) (pc' := 240) rfl rfl ?_
                  refine o_iload X57 hx (hb hby at_240) (pc' := 242) rfl rfl ?_
                  refine o_iload X57 hx (hb hby at_242) (pc' := 244) rfl rfl ?_
                  refine o_callS X57 hx hZ 0 (argsL := [.ref b1, .int (5 : Int32), .int (own_law_x0 q0 q1 q2 q3), .int (own_law_x2 q0 q1 q2 q3), .int (own_law_x1 q0 q1 q2 q3)]) (rest := []) hown (w 10 _ rfl) (w 11 _ rfl) (w 3 _ rfl) (w 12 _ rfl) (by decide) (rm3_5 l Z a0 hw [] b1 (nar .byte (own_f1_ret q1 q0 (0 : Int32))) (nar .byte (own_f1_ret q1 q0 (1 : Int32))) (nar .byte (own_f1_ret q1 q0 (2 : Int32))) (nar .byte (own_f1_ret q1 q0 (3 : Int32))) (nar .byte (own_f1_ret q1 q0 (4 : Int32))) (nar .byte (own_f1_ret q1 q0 (5 : Int32))) (nar .byte (own_f1_ret q1 q0 (6 : Int32))) (nar .byte (own_f1_ret q1 q0 (7 : Int32))) (own_law_x0 q0 q1 q2 q3) (own_law_x2 q0 q1 q2 q3) (own_law_x1 q0 q1 q2 q3) k1 h25 n0 Z25 V25_) (by decide) (by decide) (cells' := 1) rfl (slots' := 8) rfl (by decide) (by decide) e57 (by rw [hml]; rfl) (lenOf pd_3 rfl) rfl rfl (hb hby at_244) (pc' := 247) rfl ?_
                  intro T59 v59 L59 X59 hQ59
                  obtain ⟨rfl, Nq59, e59⟩ := hQ59
                  have N59 := Fr.app N57 Nq59
                  show Go p e below _ (T59.setTop (mkF m 247 _ [.int (own_f3_5_ret (nar .byte (own_f1_ret q1 q0 (0 : Int32))) (nar .byte (own_f1_ret q1 q0 (1 : Int32))) (nar .byte (own_f1_ret q1 q0 (2 : Int32))) (nar .byte (own_f1_ret q1 q0 (3 : Int32))) (nar .byte (own_f1_ret q1 q0 (4 : Int32))) (nar .byte (own_f1_ret q1 q0 (5 : Int32))) (nar .byte (own_f1_ret q1 q0 (6 : Int32))) (nar .byte (own_f1_ret q1 q0 (7 : Int32))) (own_law_x0 q0 q1 q2 q3) (own_law_x2 q0 q1 q2 q3) (own_law_x1 q0 q1 q2 q3))]))
                  by_cases hc247_60 : (own_f3_5_ret (nar .byte (own_f1_ret q1 q0 (0 : Int32))) (nar .byte (own_f1_ret q1 q0 (1 : Int32))) (nar .byte (own_f1_ret q1 q0 (2 : Int32))) (nar .byte (own_f1_ret q1 q0 (3 : Int32))) (nar .byte (own_f1_ret q1 q0 (4 : Int32))) (nar .byte (own_f1_ret q1 q0 (5 : Int32))) (nar .byte (own_f1_ret q1 q0 (6 : Int32))) (nar .byte (own_f1_ret q1 q0 (7 : Int32))) (own_law_x0 q0 q1 q2 q3) (own_law_x2 q0 q1 q2 q3) (own_law_x1 q0 q1 q2 q3)) = (0 : Int32)
                  · refine o_ifY X59 hx (hb hby at_247) (teq hc247_60).1 (by decide) (pc' := 286) (by decide) ?_
                    refine o_iconst X59 hx (0 : Int32) (hb hby at_286) (pc' := 287) rfl (by decide) ?_
                    rw [← hOWE]
                    exact o_retZ X59 hx rfl hlk hrt (hb hby at_287) (by decide) (by decide) (by rw [e59]; exact ⟨(by rw [own_law_ret, if_neg hc125_28, if_neg hc132_29, if_neg hc139_30, if_neg hc172_50, if_neg hc187_52, if_neg hc202_54, if_neg hc217_56, if_neg hc232_58, if_pos hc247_60]), N59⟩)
                  · refine o_ifN X59 hx (hb hby at_247) (feq hc247_60).1 (pc' := 250) rfl ?_
                    refine o_aload X59 hx (hb hby at_250) (pc' := 252) rfl rfl rfl ?_
                    refine o_bipush X59 hx (6 : Int32) (hb hby at_252) (pc' := 254) rfl (by decide) ?_
                    refine o_iload X59 hx (hb hby at_254) (pc' := 256) rfl rfl ?_
                    refine o_iload X59 hx (hb hby at_256) (pc' := 258) rfl rfl ?_
                    refine o_iload X59 hx (hb hby at_258) (pc' := 260) rfl rfl ?_
                    refine o_callS X59 hx hZ 0 (argsL := [.ref b1, .int (6 : Int32), .int (own_law_x0 q0 q1 q2 q3), .int (own_law_x2 q0 q1 q2 q3), .int (own_law_x1 q0 q1 q2 q3)]) (rest := []) hown (w 10 _ rfl) (w 11 _ rfl) (w 3 _ rfl) (w 12 _ rfl) (by decide) (rm3_6 l Z a0 hw [] b1 (nar .byte (own_f1_ret q1 q0 (0 : Int32))) (nar .byte (own_f1_ret q1 q0 (1 : Int32))) (nar .byte (own_f1_ret q1 q0 (2 : Int32))) (nar .byte (own_f1_ret q1 q0 (3 : Int32))) (nar .byte (own_f1_ret q1 q0 (4 : Int32))) (nar .byte (own_f1_ret q1 q0 (5 : Int32))) (nar .byte (own_f1_ret q1 q0 (6 : Int32))) (nar .byte (own_f1_ret q1 q0 (7 : Int32))) (own_law_x0 q0 q1 q2 q3) (own_law_x2 q0 q1 q2 q3) (own_law_x1 q0 q1 q2 q3) k1 h25 n0 Z25 V25_) (by decide) (by decide) (cells' := 1) rfl (slots' := 8) rfl (by decide) (by decide) e59 (by rw [hml]; rfl) (lenOf pd_3 rfl) rfl rfl (hb hby at_260) (pc' := 263) rfl ?_
                    intro T61 v61 L61 X61 hQ61
                    obtain ⟨rfl, Nq61, e61⟩ := hQ61
                    have N61 := Fr.app N59 Nq61
                    show Go p e below _ (T61.setTop (mkF m 263 _ [.int (own_f3_6_ret (nar .byte (own_f1_ret q1 q0 (0 : Int32))) (nar .byte (own_f1_ret q1 q0 (1 : Int32))) (nar .byte (own_f1_ret q1 q0 (2 : Int32))) (nar .byte (own_f1_ret q1 q0 (3 : Int32))) (nar .byte (own_f1_ret q1 q0 (4 : Int32))) (nar .byte (own_f1_ret q1 q0 (5 : Int32))) (nar .byte (own_f1_ret q1 q0 (6 : Int32))) (nar .byte (own_f1_ret q1 q0 (7 : Int32))) (own_law_x0 q0 q1 q2 q3) (own_law_x2 q0 q1 q2 q3) (own_law_x1 q0 q1 q2 q3))]))
                    by_cases hc263_62 : (own_f3_6_ret (nar .byte (own_f1_ret q1 q0 (0 : Int32))) (nar .byte (own_f1_ret q1 q0 (1 : Int32))) (nar .byte (own_f1_ret q1 q0 (2 : Int32))) (nar .byte (own_f1_ret q1 q0 (3 : Int32))) (nar .byte (own_f1_ret q1 q0 (4 : Int32))) (nar .byte (own_f1_ret q1 q0 (5 : Int32))) (nar .byte (own_f1_ret q1 q0 (6 : Int32))) (nar .byte (own_f1_ret q1 q0 (7 : Int32))) (own_law_x0 q0 q1 q2 q3) (own_law_x2 q0 q1 q2 q3) (own_law_x1 q0 q1 q2 q3)) = (0 : Int32)
                    · refine o_ifY X61 hx (hb hby at_263) (teq hc263_62).1 (by decide) (pc' := 286) (by decide) ?_
                      refine o_iconst X61 hx (0 : Int32) (hb hby at_286) (pc' := 287) rfl (by decide) ?_
                      rw [← hOWE]
                      exact o_retZ X61 hx rfl hlk hrt (hb hby at_287) (by decide) (by decide) (by rw [e61]; exact ⟨(by rw [own_law_ret, if_neg hc125_28, if_neg hc132_29, if_neg hc139_30, if_neg hc172_50, if_neg hc187_52, if_neg hc202_54, if_neg hc217_56, if_neg hc232_58, if_neg hc247_60, if_pos hc263_62]), N61⟩)
                    · refine o_ifN X61 hx (hb hby at_263) (feq hc263_62).1 (pc' := 266) rfl ?_
                      refine o_aload X61 hx (hb hby at_266) (pc' := 268) rfl rfl rfl ?_
                      refine o_bipush X61 hx (7 : Int32) (hb hby at_268) (pc' := 270) rfl (by decide) ?_
                      refine o_iload X61 hx (hb hby at_270) (pc' := 272) rfl rfl ?_
                      refine o_iload X61 hx (hb hby at_272) (pc' := 274) rfl rfl ?_
                      refine o_iload X61 hx (hb hby at_274) (pc' := 276) rfl rfl ?_
                      refine o_callS X61 hx hZ 0 (argsL := [.ref b1, .int (7 : Int32), .int (own_law_x0 q0 q1 q2 q3), .int (own_law_x2 q0 q1 q2 q3), .int (own_law_x1 q0 q1 q2 q3)]) (rest := []) hown (w 10 _ rfl) (w 11 _ rfl) (w 3 _ rfl) (w 12 _ rfl) (by decide) (rm3_7 l Z a0 hw [] b1 (nar .byte (own_f1_ret q1 q0 (0 : Int32))) (nar .byte (own_f1_ret q1 q0 (1 : Int32))) (nar .byte (own_f1_ret q1 q0 (2 : Int32))) (nar .byte (own_f1_ret q1 q0 (3 : Int32))) (nar .byte (own_f1_ret q1 q0 (4 : Int32))) (nar .byte (own_f1_ret q1 q0 (5 : Int32))) (nar .byte (own_f1_ret q1 q0 (6 : Int32))) (nar .byte (own_f1_ret q1 q0 (7 : Int32))) (own_law_x0 q0 q1 q2 q3) (own_law_x2 q0 q1 q2 q3) (own_law_x1 q0 q1 q2 q3) k1 h25 n0 Z25 V25_) (by decide) (by decide) (cells' := 1) rfl (slots' := 8) rfl (by decide) (by decide) e61 (by rw [hml]; rfl) (lenOf pd_3 rfl) rfl rfl (hb hby at_276) (pc' := 279) rfl ?_
                      intro T63 v63 L63 X63 hQ63
                      obtain ⟨rfl, Nq63, e63⟩ := hQ63
                      have N63 := Fr.app N61 Nq63
                      show Go p e below _ (T63.setTop (mkF m 279 _ [.int (own_f3_7_ret (nar .byte (own_f1_ret q1 q0 (0 : Int32))) (nar .byte (own_f1_ret q1 q0 (1 : Int32))) (nar .byte (own_f1_ret q1 q0 (2 : Int32))) (nar .byte (own_f1_ret q1 q0 (3 : Int32))) (nar .byte (own_f1_ret q1 q0 (4 : Int32))) (nar .byte (own_f1_ret q1 q0 (5 : Int32))) (nar .byte (own_f1_ret q1 q0 (6 : Int32))) (nar .byte (own_f1_ret q1 q0 (7 : Int32))) (own_law_x0 q0 q1 q2 q3) (own_law_x2 q0 q1 q2 q3) (own_law_x1 q0 q1 q2 q3))]))
                      by_cases hc279_64 : (own_f3_7_ret (nar .byte (own_f1_ret q1 q0 (0 : Int32))) (nar .byte (own_f1_ret q1 q0 (1 : Int32))) (nar .byte (own_f1_ret q1 q0 (2 : Int32))) (nar .byte (own_f1_ret q1 q0 (3 : Int32))) (nar .byte (own_f1_ret q1 q0 (4 : Int32))) (nar .byte (own_f1_ret q1 q0 (5 : Int32))) (nar .byte (own_f1_ret q1 q0 (6 : Int32))) (nar .byte (own_f1_ret q1 q0 (7 : Int32))) (own_law_x0 q0 q1 q2 q3) (own_law_x2 q0 q1 q2 q3) (own_law_x1 q0 q1 q2 q3)) = (0 : Int32)
                      · refine o_ifY X63 hx (hb hby at_279) (teq hc279_64).1 (by decide) (pc' := 286) (by decide) ?_
                        refine o_iconst X63 hx (0 : Int32) (hb hby at_286) (pc' := 287) rfl (by decide) ?_
                        rw [← hOWE]
                        exact o_retZ X63 hx rfl hlk hrt (hb hby at_287) (by decide) (by decide) (by rw [e63]; exact ⟨(by rw [own_law_ret, if_neg hc125_28, if_neg hc132_29, if_neg hc139_30, if_neg hc172_50, if_neg hc187_52, if_neg hc202_54, if_neg hc217_56, if_neg hc232_58, if_neg hc247_60, if_neg hc263_62, if_pos hc279_64]), N63⟩)
                      · refine o_ifN X63 hx (hb hby at_279) (feq hc279_64).1 (pc' := 282) rfl ?_
                        refine o_iconst X63 hx (1 : Int32) (hb hby at_282) (pc' := 283) rfl (by decide) ?_
                        refine o_goto X63 hx (hb hby at_283) (by decide) (pc' := 287) (by decide) ?_
                        rw [← hOWE]
                        exact o_retZ X63 hx rfl hlk hrt (hb hby at_287) (by decide) (by decide) (by rw [e63]; exact ⟨(by rw [own_law_ret, if_neg hc125_28, if_neg hc132_29, if_neg hc139_30, if_neg hc172_50, if_neg hc187_52, if_neg hc202_54, if_neg hc217_56, if_neg hc232_58, if_neg hc247_60, if_neg hc263_62, if_neg hc279_64]), N63⟩)
theorem own_tr (f : Nat → Int32) (a : Nat) : ∀ n, own_trim f a n ≤ n ∧ (a ≤ n → a ≤ own_trim f a n) ∧ (a < own_trim f a n → ¬ f (own_trim f a n - 1) = 32 ∧ ¬ f (own_trim f a n - 1) = 0) ∧ ∀ p, own_trim f a n ≤ p → p < n → f p = 32 ∨ f p = 0 := by
  intro n
  induction n with
  | zero => exact ⟨Nat.le_refl _, fun h => h, fun h => absurd h (Nat.not_lt_zero _), fun p _ h => absurd h (Nat.not_lt_zero _)⟩
  | succ n ih =>
    rw [own_trim]
    by_cases h1 : n + 1 ≤ a
    · rw [if_pos h1]
      exact ⟨Nat.le_refl _, fun h => h, fun h => absurd h (by omega), fun p h h' => absurd h (by omega)⟩
    · rw [if_neg h1]
      obtain ⟨i1, i2, i3, i4⟩ := ih
      by_cases h2 : f n = 32
      · rw [if_pos h2]
        refine ⟨by omega, fun _ => i2 (by omega), i3, fun p h h' => ?_⟩
        by_cases hp : p = n
        · rw [hp]; exact Or.inl h2
        · exact i4 p h (by omega)
      · rw [if_neg h2]
        by_cases h3 : f n = 0
        · rw [if_pos h3]
          refine ⟨by omega, fun _ => i2 (by omega), i3, fun p h h' => ?_⟩
          by_cases hp : p = n
          · rw [hp]; exact Or.inr h3
          · exact i4 p h (by omega)
        · rw [if_neg h3]
          exact ⟨Nat.le_refl _, fun h => h, fun _ => ⟨h2, h3⟩, fun p h h' => absurd h (by omega)⟩
theorem own_pad1 (x : Int32) (h : x = 32 ∨ x = 0) : own_f4_ret x = 1 := by
  unfold own_f4_ret
  rcases h with rfl | rfl <;> decide
theorem own_pad0 (x : Int32) (h : ¬ x = 32) (h' : ¬ x = 0) : own_f4_ret x = 0 := by
  unfold own_f4_ret
  rw [if_neg h, if_neg h']
theorem own_main (q0 : Int64) (q1 q2 q3 : Int32) : own_law_ret q0 q1 q2 q3 = 1 := by
  have ha := own_at8 q0 q1 q2 q3
  have hl := own_len8 q0 q1 q2 q3
  obtain ⟨hb1, hb2, hb3⟩ := own_hb q0 q1 q2 q3
  have n0 : ¬ own_law_x0 q0 q1 q2 q3 < 0 := by rw [Int32.lt_iff_toInt_lt, show (0 : Int32).toInt = 0 from rfl]; omega
  have n1 : ¬ own_law_x1 q0 q1 q2 q3 < 0 := by rw [Int32.lt_iff_toInt_lt, show (0 : Int32).toInt = 0 from rfl]; omega
  have e0 := nat_of n0
  have e1 := nat_of n1
  have hx2 : own_law_x2 q0 q1 q2 q3 = Int32.ofNat (own_trim (own_b8 (nar .byte (own_f1_ret q1 q0 (0 : Int32))) (nar .byte (own_f1_ret q1 q0 (1 : Int32))) (nar .byte (own_f1_ret q1 q0 (2 : Int32))) (nar .byte (own_f1_ret q1 q0 (3 : Int32))) (nar .byte (own_f1_ret q1 q0 (4 : Int32))) (nar .byte (own_f1_ret q1 q0 (5 : Int32))) (nar .byte (own_f1_ret q1 q0 (6 : Int32))) (nar .byte (own_f1_ret q1 q0 (7 : Int32)))) (own_law_x0 q0 q1 q2 q3).toNatClampNeg ((own_law_x0 q0 q1 q2 q3).toNatClampNeg + (own_law_x1 q0 q1 q2 q3).toNatClampNeg)) - own_law_x0 q0 q1 q2 q3 := rfl
  obtain ⟨t1, t2, t3, t4⟩ := own_tr (own_b8 (nar .byte (own_f1_ret q1 q0 (0 : Int32))) (nar .byte (own_f1_ret q1 q0 (1 : Int32))) (nar .byte (own_f1_ret q1 q0 (2 : Int32))) (nar .byte (own_f1_ret q1 q0 (3 : Int32))) (nar .byte (own_f1_ret q1 q0 (4 : Int32))) (nar .byte (own_f1_ret q1 q0 (5 : Int32))) (nar .byte (own_f1_ret q1 q0 (6 : Int32))) (nar .byte (own_f1_ret q1 q0 (7 : Int32)))) (own_law_x0 q0 q1 q2 q3).toNatClampNeg ((own_law_x0 q0 q1 q2 q3).toNatClampNeg + (own_law_x1 q0 q1 q2 q3).toNatClampNeg)
  have t2 := t2 (by omega)
  generalize hT : own_trim (own_b8 (nar .byte (own_f1_ret q1 q0 (0 : Int32))) (nar .byte (own_f1_ret q1 q0 (1 : Int32))) (nar .byte (own_f1_ret q1 q0 (2 : Int32))) (nar .byte (own_f1_ret q1 q0 (3 : Int32))) (nar .byte (own_f1_ret q1 q0 (4 : Int32))) (nar .byte (own_f1_ret q1 q0 (5 : Int32))) (nar .byte (own_f1_ret q1 q0 (6 : Int32))) (nar .byte (own_f1_ret q1 q0 (7 : Int32)))) (own_law_x0 q0 q1 q2 q3).toNatClampNeg ((own_law_x0 q0 q1 q2 q3).toNatClampNeg + (own_law_x1 q0 q1 q2 q3).toNatClampNeg) = t at *
  have k1 : (own_law_x2 q0 q1 q2 q3).toInt = t - (own_law_x0 q0 q1 q2 q3).toInt := by
    have a := c_isub (Int32.ofNat t) (own_law_x0 q0 q1 q2 q3)
    have b := rng32 (Int32.ofNat t - own_law_x0 q0 q1 q2 q3)
    rw [own_of8 (by omega)] at a
    rw [hx2]
    omega
  have k2 : (own_law_x0 q0 q1 q2 q3 + own_law_x2 q0 q1 q2 q3).toInt = t := by
    have a := c_iadd (own_law_x0 q0 q1 q2 q3) (own_law_x2 q0 q1 q2 q3)
    have b := rng32 (own_law_x0 q0 q1 q2 q3 + own_law_x2 q0 q1 q2 q3)
    omega
  have k3 : (own_law_x0 q0 q1 q2 q3 + own_law_x1 q0 q1 q2 q3).toInt = (own_law_x0 q0 q1 q2 q3).toInt + (own_law_x1 q0 q1 q2 q3).toInt := by
    have a := c_iadd (own_law_x0 q0 q1 q2 q3) (own_law_x1 q0 q1 q2 q3)
    have b := rng32 (own_law_x0 q0 q1 q2 q3 + own_law_x1 q0 q1 q2 q3)
    omega
  have ok0 : own_f3_0_ret (nar .byte (own_f1_ret q1 q0 (0 : Int32))) (nar .byte (own_f1_ret q1 q0 (1 : Int32))) (nar .byte (own_f1_ret q1 q0 (2 : Int32))) (nar .byte (own_f1_ret q1 q0 (3 : Int32))) (nar .byte (own_f1_ret q1 q0 (4 : Int32))) (nar .byte (own_f1_ret q1 q0 (5 : Int32))) (nar .byte (own_f1_ret q1 q0 (6 : Int32))) (nar .byte (own_f1_ret q1 q0 (7 : Int32))) (own_law_x0 q0 q1 q2 q3) (own_law_x2 q0 q1 q2 q3) (own_law_x1 q0 q1 q2 q3) = 1 := by
    unfold own_f3_0_ret
    by_cases a : (0 : Int32) < own_law_x0 q0 q1 q2 q3 + own_law_x2 q0 q1 q2 q3
    · rw [if_pos a]
    · rw [if_neg a]
      by_cases b : (0 : Int32) < own_law_x0 q0 q1 q2 q3 + own_law_x1 q0 q1 q2 q3
      · rw [if_pos b]
        rw [Int32.lt_iff_toInt_lt, show (0 : Int32).toInt = 0 from rfl] at a b
        exact own_pad1 _ (t4 0 (by omega) (by omega))
      · rw [if_neg b]
  have ok1 : own_f3_1_ret (nar .byte (own_f1_ret q1 q0 (0 : Int32))) (nar .byte (own_f1_ret q1 q0 (1 : Int32))) (nar .byte (own_f1_ret q1 q0 (2 : Int32))) (nar .byte (own_f1_ret q1 q0 (3 : Int32))) (nar .byte (own_f1_ret q1 q0 (4 : Int32))) (nar .byte (own_f1_ret q1 q0 (5 : Int32))) (nar .byte (own_f1_ret q1 q0 (6 : Int32))) (nar .byte (own_f1_ret q1 q0 (7 : Int32))) (own_law_x0 q0 q1 q2 q3) (own_law_x2 q0 q1 q2 q3) (own_law_x1 q0 q1 q2 q3) = 1 := by
    unfold own_f3_1_ret
    by_cases a : (1 : Int32) < own_law_x0 q0 q1 q2 q3 + own_law_x2 q0 q1 q2 q3
    · rw [if_pos a]
    · rw [if_neg a]
      by_cases b : (1 : Int32) < own_law_x0 q0 q1 q2 q3 + own_law_x1 q0 q1 q2 q3
      · rw [if_pos b]
        rw [Int32.lt_iff_toInt_lt, show (1 : Int32).toInt = 1 from rfl] at a b
        exact own_pad1 _ (t4 1 (by omega) (by omega))
      · rw [if_neg b]
  have ok2 : own_f3_2_ret (nar .byte (own_f1_ret q1 q0 (0 : Int32))) (nar .byte (own_f1_ret q1 q0 (1 : Int32))) (nar .byte (own_f1_ret q1 q0 (2 : Int32))) (nar .byte (own_f1_ret q1 q0 (3 : Int32))) (nar .byte (own_f1_ret q1 q0 (4 : Int32))) (nar .byte (own_f1_ret q1 q0 (5 : Int32))) (nar .byte (own_f1_ret q1 q0 (6 : Int32))) (nar .byte (own_f1_ret q1 q0 (7 : Int32))) (own_law_x0 q0 q1 q2 q3) (own_law_x2 q0 q1 q2 q3) (own_law_x1 q0 q1 q2 q3) = 1 := by
    unfold own_f3_2_ret
    by_cases a : (2 : Int32) < own_law_x0 q0 q1 q2 q3 + own_law_x2 q0 q1 q2 q3
    · rw [if_pos a]
    · rw [if_neg a]
      by_cases b : (2 : Int32) < own_law_x0 q0 q1 q2 q3 + own_law_x1 q0 q1 q2 q3
      · rw [if_pos b]
        rw [Int32.lt_iff_toInt_lt, show (2 : Int32).toInt = 2 from rfl] at a b
        exact own_pad1 _ (t4 2 (by omega) (by omega))
      · rw [if_neg b]
  have ok3 : own_f3_3_ret (nar .byte (own_f1_ret q1 q0 (0 : Int32))) (nar .byte (own_f1_ret q1 q0 (1 : Int32))) (nar .byte (own_f1_ret q1 q0 (2 : Int32))) (nar .byte (own_f1_ret q1 q0 (3 : Int32))) (nar .byte (own_f1_ret q1 q0 (4 : Int32))) (nar .byte (own_f1_ret q1 q0 (5 : Int32))) (nar .byte (own_f1_ret q1 q0 (6 : Int32))) (nar .byte (own_f1_ret q1 q0 (7 : Int32))) (own_law_x0 q0 q1 q2 q3) (own_law_x2 q0 q1 q2 q3) (own_law_x1 q0 q1 q2 q3) = 1 := by
    unfold own_f3_3_ret
    by_cases a : (3 : Int32) < own_law_x0 q0 q1 q2 q3 + own_law_x2 q0 q1 q2 q3
    · rw [if_pos a]
    · rw [if_neg a]
      by_cases b : (3 : Int32) < own_law_x0 q0 q1 q2 q3 + own_law_x1 q0 q1 q2 q3
      · rw [if_pos b]
        rw [Int32.lt_iff_toInt_lt, show (3 : Int32).toInt = 3 from rfl] at a b
        exact own_pad1 _ (t4 3 (by omega) (by omega))
      · rw [if_neg b]
  have ok4 : own_f3_4_ret (nar .byte (own_f1_ret q1 q0 (0 : Int32))) (nar .byte (own_f1_ret q1 q0 (1 : Int32))) (nar .byte (own_f1_ret q1 q0 (2 : Int32))) (nar .byte (own_f1_ret q1 q0 (3 : Int32))) (nar .byte (own_f1_ret q1 q0 (4 : Int32))) (nar .byte (own_f1_ret q1 q0 (5 : Int32))) (nar .byte (own_f1_ret q1 q0 (6 : Int32))) (nar .byte (own_f1_ret q1 q0 (7 : Int32))) (own_law_x0 q0 q1 q2 q3) (own_law_x2 q0 q1 q2 q3) (own_law_x1 q0 q1 q2 q3) = 1 := by
    unfold own_f3_4_ret
    by_cases a : (4 : Int32) < own_law_x0 q0 q1 q2 q3 + own_law_x2 q0 q1 q2 q3
    · rw [if_pos a]
    · rw [if_neg a]
      by_cases b : (4 : Int32) < own_law_x0 q0 q1 q2 q3 + own_law_x1 q0 q1 q2 q3
      · rw [if_pos b]
        rw [Int32.lt_iff_toInt_lt, show (4 : Int32).toInt = 4 from rfl] at a b
        exact own_pad1 _ (t4 4 (by omega) (by omega))
      · rw [if_neg b]
  have ok5 : own_f3_5_ret (nar .byte (own_f1_ret q1 q0 (0 : Int32))) (nar .byte (own_f1_ret q1 q0 (1 : Int32))) (nar .byte (own_f1_ret q1 q0 (2 : Int32))) (nar .byte (own_f1_ret q1 q0 (3 : Int32))) (nar .byte (own_f1_ret q1 q0 (4 : Int32))) (nar .byte (own_f1_ret q1 q0 (5 : Int32))) (nar .byte (own_f1_ret q1 q0 (6 : Int32))) (nar .byte (own_f1_ret q1 q0 (7 : Int32))) (own_law_x0 q0 q1 q2 q3) (own_law_x2 q0 q1 q2 q3) (own_law_x1 q0 q1 q2 q3) = 1 := by
    unfold own_f3_5_ret
    by_cases a : (5 : Int32) < own_law_x0 q0 q1 q2 q3 + own_law_x2 q0 q1 q2 q3
    · rw [if_pos a]
    · rw [if_neg a]
      by_cases b : (5 : Int32) < own_law_x0 q0 q1 q2 q3 + own_law_x1 q0 q1 q2 q3
      · rw [if_pos b]
        rw [Int32.lt_iff_toInt_lt, show (5 : Int32).toInt = 5 from rfl] at a b
        exact own_pad1 _ (t4 5 (by omega) (by omega))
      · rw [if_neg b]
  have ok6 : own_f3_6_ret (nar .byte (own_f1_ret q1 q0 (0 : Int32))) (nar .byte (own_f1_ret q1 q0 (1 : Int32))) (nar .byte (own_f1_ret q1 q0 (2 : Int32))) (nar .byte (own_f1_ret q1 q0 (3 : Int32))) (nar .byte (own_f1_ret q1 q0 (4 : Int32))) (nar .byte (own_f1_ret q1 q0 (5 : Int32))) (nar .byte (own_f1_ret q1 q0 (6 : Int32))) (nar .byte (own_f1_ret q1 q0 (7 : Int32))) (own_law_x0 q0 q1 q2 q3) (own_law_x2 q0 q1 q2 q3) (own_law_x1 q0 q1 q2 q3) = 1 := by
    unfold own_f3_6_ret
    by_cases a : (6 : Int32) < own_law_x0 q0 q1 q2 q3 + own_law_x2 q0 q1 q2 q3
    · rw [if_pos a]
    · rw [if_neg a]
      by_cases b : (6 : Int32) < own_law_x0 q0 q1 q2 q3 + own_law_x1 q0 q1 q2 q3
      · rw [if_pos b]
        rw [Int32.lt_iff_toInt_lt, show (6 : Int32).toInt = 6 from rfl] at a b
        exact own_pad1 _ (t4 6 (by omega) (by omega))
      · rw [if_neg b]
  have ok7 : own_f3_7_ret (nar .byte (own_f1_ret q1 q0 (0 : Int32))) (nar .byte (own_f1_ret q1 q0 (1 : Int32))) (nar .byte (own_f1_ret q1 q0 (2 : Int32))) (nar .byte (own_f1_ret q1 q0 (3 : Int32))) (nar .byte (own_f1_ret q1 q0 (4 : Int32))) (nar .byte (own_f1_ret q1 q0 (5 : Int32))) (nar .byte (own_f1_ret q1 q0 (6 : Int32))) (nar .byte (own_f1_ret q1 q0 (7 : Int32))) (own_law_x0 q0 q1 q2 q3) (own_law_x2 q0 q1 q2 q3) (own_law_x1 q0 q1 q2 q3) = 1 := by
    unfold own_f3_7_ret
    by_cases a : (7 : Int32) < own_law_x0 q0 q1 q2 q3 + own_law_x2 q0 q1 q2 q3
    · rw [if_pos a]
    · rw [if_neg a]
      by_cases b : (7 : Int32) < own_law_x0 q0 q1 q2 q3 + own_law_x1 q0 q1 q2 q3
      · rw [if_pos b]
        rw [Int32.lt_iff_toInt_lt, show (7 : Int32).toInt = 7 from rfl] at a b
        exact own_pad1 _ (t4 7 (by omega) (by omega))
      · rw [if_neg b]
  have h1 : ¬ own_law_x2 q0 q1 q2 q3 < (0 : Int32) := by rw [Int32.lt_iff_toInt_lt, show (0 : Int32).toInt = 0 from rfl]; omega
  have h2 : ¬ own_law_x1 q0 q1 q2 q3 < own_law_x2 q0 q1 q2 q3 := by rw [Int32.lt_iff_toInt_lt]; omega
  have z : ¬ (1 : Int32) = 0 := by decide
  unfold own_law_ret
  rw [if_neg h1, if_neg h2, ok0, ok1, ok2, ok3, ok4, ok5, ok6, ok7]
  simp only [if_neg z]
  by_cases h3 : (0 : Int32) < own_law_x2 q0 q1 q2 q3
  · rw [if_pos h3]
    have h4 : own_f4_ret ((own_b8 (nar .byte (own_f1_ret q1 q0 (0 : Int32))) (nar .byte (own_f1_ret q1 q0 (1 : Int32))) (nar .byte (own_f1_ret q1 q0 (2 : Int32))) (nar .byte (own_f1_ret q1 q0 (3 : Int32))) (nar .byte (own_f1_ret q1 q0 (4 : Int32))) (nar .byte (own_f1_ret q1 q0 (5 : Int32))) (nar .byte (own_f1_ret q1 q0 (6 : Int32))) (nar .byte (own_f1_ret q1 q0 (7 : Int32)))) ((own_law_x0 q0 q1 q2 q3 + own_law_x2 q0 q1 q2 q3) - (1 : Int32)).toNatClampNeg) = 0 := by
      have g := own_idx q0 q1 q2 q3 h3 h2
      have g1 := nat_of g.1
      have a := c_isub (own_law_x0 q0 q1 q2 q3 + own_law_x2 q0 q1 q2 q3) 1
      have b := rng32 (own_law_x0 q0 q1 q2 q3 + own_law_x2 q0 q1 q2 q3 - 1)
      rw [show (1 : Int32).toInt = 1 from rfl] at a
      rw [Int32.lt_iff_toInt_lt, show (0 : Int32).toInt = 0 from rfl] at h3
      have c : ((own_law_x0 q0 q1 q2 q3 + own_law_x2 q0 q1 q2 q3) - (1 : Int32)).toNatClampNeg = t - 1 := by omega
      rw [c]
      obtain ⟨u1, u2⟩ := t3 (by omega)
      exact own_pad0 _ u1 u2
    exact if_pos h4
  · rw [if_neg h3]
set_option maxRecDepth 65536 in
set_option maxHeartbeats 40000000 in
theorem comes_1 {Post : Tables → Env → Array Value → State → Outcome → State → Prop} (hpost : ∀ tb e args s v u, (limb_1_1.after args s (.returned v) u = true ∧ limb_1_2.after args s (.returned v) u = true ∧ True) → FrameEnd s (.returned v) u (Jvm.fieldLocs frame_1_writes args s ++ Jvm.arrayLocs frame_1_arrays args s ++ Jvm.staticLocs frame_1_statics s) 16 128 → Post tb e args s (.returned v) u) :
    ArmFor flags0 classFile x code maxLocals ret World_1 tables_1 room_1 Calls_1 rest_1 Pre_1 Post := by
  intro l hfl _ _ p e ha hc hk s m args below hf hA hF happ hP
  obtain ⟨hcalls, hrest, hpre⟩ := hP
  obtain ⟨-, -, -, hnamed, -, -, -, hat⟩ := (Spec.applies_iff hf).mp happ
  obtain ⟨hg, hn⟩ := and_e (Cond.before_iff.mp (show (Jvm.Cond.and given_1 narrow_1).before args s = true from hpre))
  obtain ⟨hcnt, r0⟩ := and_e hg
  obtain ⟨a0, r1⟩ := and_e r0
  obtain ⟨a1, r2⟩ := and_e r1
  obtain ⟨a2, r3⟩ := and_e r2
  obtain ⟨w0, w1, w2, w3, rfl⟩ : ∃ w0 w1 w2 w3 : Value, args = #[w0, w1, w2, w3] := by
    have hs : args.size = 4 := by simpa [Cond.value, given_1] using hcnt
    obtain ⟨L⟩ := args
    match L, hs with
    | [w0, w1, w2, w3], _ => exact ⟨w0, w1, w2, w3, rfl⟩
  have hw := fun d (hd : d ∈ tables_1) => atoms_spec (ws := Jvm.Cond.code x code maxLocals ret :: tables_1) hat d (List.mem_cons_of_mem _ hd)
  obtain ⟨q0, y0⟩ := isL_v a0
  obtain rfl : w0 = (.long q0) := Option.some.inj y0
  obtain ⟨q1, y1⟩ := is_v a1
  obtain rfl : w1 = (.int q1) := Option.some.inj y1
  obtain ⟨q2, y2⟩ := is_v a2
  obtain rfl : w2 = (.int q2) := Option.some.inj y2
  obtain ⟨q3, y3⟩ := is_v r3
  obtain rfl : w3 = (.int q3) := Option.some.inj y3
  obtain ⟨n, o, h1, h2, h3, _, L, rfl, ⟨rfl, N⟩, hq⟩ := rm0 l s _ hw tables_1 q0 q1 q2 q3 s.heap s.heap.size (Nat.le_refl _) p e ha hc hk s m _ below hf ((Spec.applies_iff_loose hf).mp happ).1 ⟨rfl, State.Warmed39.refl s, rfl⟩ trivial
  refine ⟨n, _, h1, h2, h3, hpost _ _ _ _ _ _ ⟨Cond.after_iff.mpr rfl, Cond.after_iff.mpr (eq_i res_at (Term.int_eval (1)) (congrArg Value.int (own_main q0 q1 q2 q3))), trivial⟩ ⟨hq.1, hq.2.1, (hq.2.2.sift fun y hy => Or.inr (N y hy)).mono (by decide) (by decide)⟩⟩
theorem main_1_1 : Claimed_1_1 := comes_1 fun _ _ _ _ _ _ h hF => ⟨h.1, hF⟩
theorem main_1_2 : Claimed_1_2 := comes_1 fun _ _ _ _ _ _ h hF => ⟨h.2.1, hF⟩
end Jvm.Pilot.@@N@@
namespace Jvm.Pilot.@@N@@
open Jvm Jvm.ClassFile Sem Op Lib Jvm.Free Jvm.Stand Jvm.Pilot.@@N@@.Jvm.D
/-! MADE BY PROGRAM (witnessworld.py) out of the Statement's table words and the real class files: 9 classes; the members and pool entries that the words name. The judged class is class 1, her method 4. -/
namespace start1
open Jvm.ClassFile
def u (s : String) : CpInfo := .utf8 (stringToUtf16 s)
/-- a pool by its gaps: so many unusable entries, then the entry; so many at the end -/
def gap : Nat → List CpInfo → List CpInfo
  | 0, r => r
  | n + 1, r => .unusable :: gap n r
def poolList (es : List (Nat × CpInfo)) (last : Nat) : List CpInfo := es.foldr (fun e r => gap e.1 (e.2 :: r)) (gap last [])
def pool (es : List (Nat × CpInfo)) (last : Nat) : Array CpInfo := ⟨poolList es last⟩
def fileOf (pool : Array CpInfo) (this : Nat) (attrs : Array Attribute := #[]) (ms : Array MethodInfo := #[]) (fl : Nat := 33) (sup : Nat := 0) (ifs : Array Nat := #[]) (fds : Array FieldInfo := #[]) : ClassFile where
  minorVersion := 0
  majorVersion := 65
  constantPool := pool
  accessFlags := fl
  thisClass := this
  superClass := sup
  interfaces := ifs
  fields := fds
  methods := ms
  attributes := attrs
def plain (name : String) (sup : Option ClassId) : Class where
  name := name
  kind := .ordinary
  loader := none
  accessFlags := 33
  super := sup
  interfaces := #[]
  cf := none
  fields := #[]
  methods := #[]
  instanceTypes := #[]
  staticTypes := #[]
  resolved := #[]
  callSites := []
  init := .initialized
  statics := none
  mirror := none

def pool0 : Array CpInfo := pool [(5, u "<init>"), (0, u "()V"), (1, .class_ 10), (1, u "java/lang/Object")] 113

def k0m0 : Method := { name := "<init>", desc := "()V", sig := { parameters := [], returnType := none }, accessFlags := 1, code := none }
/-- java/lang/Object -/
def k0 : Class := { plain "java/lang/Object" none with
  accessFlags := 33
  interfaces := #[]
  cf := some (fileOf pool0 8 #[] #[{ accessFlags := 1, nameIndex := 5, descriptorIndex := 6, attributes := #[] }] 33 0 #[] #[])
  fields := #[]
  methods := #[k0m0]
  instanceTypes := #[]
  staticTypes := #[]
  resolved := Array.replicate 124 none
  statics := none }

def pool1 : Array CpInfo := pool [(2, .class_ 4), (1, u "java/lang/Object"), (0, u "<init>"), (0, u "()V"), (0, .methodref 8 9), (0, .class_ 10), (0, .nameAndType 11 12), (0, u "com/example/fieldcast/fieldcast/StringDecoderUnpaddedPinLaw"), (0, u "pad"), (0, u "(B)Z"), (0, .methodref 8 14), (0, .nameAndType 15 16), (0, u "pick"), (0, u "(IJI)B"), (0, .integer 2147483647), (0, .methodref 19 20), (0, .class_ 21), (0, .nameAndType 22 23), (0, u "com/example/fieldcast/fieldcast/StringDecoder"), (0, u "unpadded"), (0, u "([BII)I"), (0, .methodref 8 25), (0, .nameAndType 26 27), (0, u "ok"), (0, u "([BIIII)Z"), (3, u "law"), (0, u "(JIII)Z")] 4

def k1m0 : Method := { name := "<init>", desc := "()V", sig := { parameters := [], returnType := none }, accessFlags := 1, code := none }
def k1c1 : Code := { maxStack := 4, maxLocals := 5, code := method_2_code, exceptionTable := #[], attributes := #[] }
def k1m1 : Method := { name := "pick", desc := "(IJI)B", sig := { parameters := [.int, .long, .int], returnType := some .byte }, accessFlags := 10, code := some k1c1 }
def k1c2 : Code := { maxStack := 2, maxLocals := 1, code := method_3_code, exceptionTable := #[], attributes := #[] }
def k1m2 : Method := { name := "pad", desc := "(B)Z", sig := { parameters := [.byte], returnType := some .boolean }, accessFlags := 10, code := some k1c2 }
def k1c3 : Code := { maxStack := 3, maxLocals := 5, code := method_4_code, exceptionTable := #[], attributes := #[] }
def k1m3 : Method := { name := "ok", desc := "([BIIII)Z", sig := { parameters := [(.array .byte), .int, .int, .int, .int], returnType := some .boolean }, accessFlags := 10, code := some k1c3 }
def k1c4 : Code := { maxStack := 6, maxLocals := 9, code := code, exceptionTable := #[], attributes := #[] }
def k1m4 : Method := { name := "law", desc := "(JIII)Z", sig := { parameters := [.long, .int, .int, .int], returnType := some .boolean }, accessFlags := 9, code := some k1c4 }
/-- com/example/fieldcast/fieldcast/StringDecoderUnpaddedPinLaw -/
def k1 : Class := { plain "com/example/fieldcast/fieldcast/StringDecoderUnpaddedPinLaw" (some 0) with
  accessFlags := 49
  interfaces := #[]
  cf := some (fileOf pool1 8 #[] #[{ accessFlags := 1, nameIndex := 5, descriptorIndex := 6, attributes := #[] }, { accessFlags := 10, nameIndex := 15, descriptorIndex := 16, attributes := #[] }, { accessFlags := 10, nameIndex := 11, descriptorIndex := 12, attributes := #[] }, { accessFlags := 10, nameIndex := 26, descriptorIndex := 27, attributes := #[] }, { accessFlags := 9, nameIndex := 31, descriptorIndex := 32, attributes := #[] }] 49 2 #[] #[])
  fields := #[]
  methods := #[k1m0, k1m1, k1m2, k1m3, k1m4]
  instanceTypes := #[]
  staticTypes := #[]
  resolved := Array.replicate 37 none
  statics := none }

def pool2 : Array CpInfo := pool [(2, .class_ 4), (1, u "java/lang/Object"), (9, .class_ 16), (1, u "com/example/fieldcast/fieldcast/StringDecoder"), (0, u "noBytes"), (0, u "Ljava/nio/ByteBuffer;"), (7, u "chars"), (0, u "Ljava/nio/CharBuffer;"), (23, u "decoder"), (0, u "Ljava/nio/charset/CharsetDecoder;"), (2, u "unpadded"), (0, u "([BII)I")] 67

def k2c0 : Code := { maxStack := 3, maxLocals := 4, code := prog_66_method_5_code, exceptionTable := #[], attributes := #[] }
def k2m0 : Method := { name := "unpadded", desc := "([BII)I", sig := { parameters := [(.array .byte), .int, .int], returnType := some .int }, accessFlags := 8, code := some k2c0 }
/-- com/example/fieldcast/fieldcast/StringDecoder -/
def k2 : Class := { plain "com/example/fieldcast/fieldcast/StringDecoder" (some 0) with
  accessFlags := 48
  interfaces := #[]
  cf := some (fileOf pool2 14 #[] #[{ accessFlags := 8, nameIndex := 55, descriptorIndex := 56, attributes := #[] }] 48 2 #[] #[{ accessFlags := 18, nameIndex := 51, descriptorIndex := 52, attributes := #[] }, { accessFlags := 18, nameIndex := 17, descriptorIndex := 18, attributes := #[] }, { accessFlags := 2, nameIndex := 26, descriptorIndex := 27, attributes := #[] }])
  fields := #[{ name := "decoder", type := (.object "java/nio/charset/CharsetDecoder"), accessFlags := 18, slot := 0, constantValue := 0 }, { name := "noBytes", type := (.object "java/nio/ByteBuffer"), accessFlags := 18, slot := 1, constantValue := 0 }, { name := "chars", type := (.object "java/nio/CharBuffer"), accessFlags := 2, slot := 2, constantValue := 0 }]
  methods := #[k2m0]
  instanceTypes := #[(.object "java/nio/charset/CharsetDecoder"), (.object "java/nio/ByteBuffer"), (.object "java/nio/CharBuffer")]
  staticTypes := #[]
  resolved := Array.replicate 124 none
  statics := none }

def pool3 : Array CpInfo := pool [(1, u "java/lang/Cloneable"), (0, .class_ 1), (0, u "java/lang/Object"), (0, .class_ 3)] 3

/-- java/lang/Cloneable -/
def k3 : Class := { plain "java/lang/Cloneable" (some 0) with
  accessFlags := 1537
  interfaces := #[]
  cf := some (fileOf pool3 2 #[] #[] 1537 4 #[] #[])
  fields := #[]
  methods := #[]
  instanceTypes := #[]
  staticTypes := #[]
  resolved := Array.replicate 8 none
  statics := none }

def pool4 : Array CpInfo := pool [(1, u "java/io/Serializable"), (0, .class_ 1), (0, u "java/lang/Object"), (0, .class_ 3)] 3

/-- java/io/Serializable -/
def k4 : Class := { plain "java/io/Serializable" (some 0) with
  accessFlags := 1537
  interfaces := #[]
  cf := some (fileOf pool4 2 #[] #[] 1537 4 #[] #[])
  fields := #[]
  methods := #[]
  instanceTypes := #[]
  staticTypes := #[]
  resolved := Array.replicate 8 none
  statics := none }

/-- the primitive byte -/
def k5 : Class := { plain "byte" none with kind := .primitive 'B', accessFlags := 0x411 }
/-- [B -/
def k6 : Class := { plain "[B" (some 0) with kind := .array 5 .byte, interfaces := #[3, 4], accessFlags := 1041 }

/-- the primitive int -/
def k7 : Class := { plain "int" none with kind := .primitive 'I', accessFlags := 0x411 }
/-- [I -/
def k8 : Class := { plain "[I" (some 0) with kind := .array 7 .int, interfaces := #[3, 4], accessFlags := 1041 }

def heap : Heap := #[]
def classes : Array Class := #[k0, k1, k2, k3, k4, k5, k6, k7, k8]
def interned : List (Array UInt16 × Addr) := []
def slotsUsed : Nat := 0
def theMethod : MethodId := ⟨1, 4⟩
def args0 : Array Value := #[.long 5, .int 7, .int 7, .int 7]
def aboutOver (below : List Frame) : State where
  vm := { classes := classes, interned := interned.toArray }
  heap := heap
  slotsUsed := slotsUsed
  threads := #[{ frames := .invoking theMethod args0 :: below }]
def below0 : List Frame := [.native { method := ⟨0, 0⟩, args := #[] }]
def about1 : State := aboutOver below0
def p0 : Program := .bare "" "" ""
def e0 : Env := launch0.env 0 0 0
theorem w_frames : about1.frames = Frame.invoking theMethod args0 :: below0 := rfl
set_option maxRecDepth 65536 in
theorem w_args : argsFit about1.vm theMethod args0 = true := by decide +kernel
set_option maxRecDepth 65536 in
theorem w_heap : heapFits about1 = true := by decide +kernel
set_option maxRecDepth 65536 in
theorem w_runnable : about1.curStatus? = some .runnable := by decide +kernel
set_option maxRecDepth 65536 in
theorem w_alone : about1.alone = true := by decide +kernel
set_option maxRecDepth 65536 in
theorem w_named : about1.methodNamed? x = some theMethod := by decide +kernel
set_option maxRecDepth 65536 in
theorem w_hears : about1.hears theMethod below0 = true := by decide +kernel
set_option maxRecDepth 65536 in
theorem w_ripe : about1.ripe theMethod args0 below0 = true := by decide +kernel
theorem w_running : about1.status = .running := rfl
set_option maxRecDepth 65536 in
theorem w_room : about1.hasRoom e0.platform room_1 = true :=
  launch0.hasRoom_least _ room_1 (by decide +kernel) (by decide +kernel) (by decide +kernel) (by decide +kernel) (by decide +kernel) (by decide +kernel)
theorem allAtoms_all (ts : List Jvm.Cond) (a : Array Jvm.Value) (st : Jvm.State) : (allAtoms ts).before a st = ts.all (fun c => c.before a st) := by
  induction ts with
  | nil => rfl
  | cons c t ih =>
    show (Jvm.Cond.and c (allAtoms t)).before a st = _
    rw [Jvm.Cond.before_and, ih, List.all_cons]
def words1 : List Jvm.Cond := Jvm.Cond.code x code maxLocals ret :: tables_1
/-- a 'code' word, met by the world's own term for the bytes: nothing is compared byte by byte -/
theorem code_word {y : MethodName} {bytes : ByteArray} {mx : Nat} {rt : Option FieldType} {a : Array Value} {s : State} {m : MethodId} {meth : Method} {c : Code} (h1 : s.methodNamed? y = some m) (h2 : s.vm.method? m = some meth) (h3 : meth.code = some c) (h4 : c.code = bytes)
    (h5 : (c.maxLocals == mx && c.exceptionTable.isEmpty && decide (c.maxStack ≤ mostOperands) && decide (meth.sig.returnType = rt) && !meth.locks && decide (parseMethodDescriptor y.desc = some meth.sig)) = true) : (Jvm.Cond.code y bytes mx rt).before a s = true := by
  simp only [Bool.and_eq_true, beq_iff_eq, Bool.not_eq_true', decide_eq_true_eq] at h5
  obtain ⟨⟨⟨⟨⟨g1, g2⟩, g3⟩, g4⟩, g5⟩, g6⟩ := h5
  simp [Cond.before, Cond.holds, Cond.value, h1, h2, h3, h4, g1, g2, g3, g4, g5, g6]
def isCode : Jvm.Cond → Bool
  | .code _ _ _ _ => true
  | _ => false
theorem all_split {L : List Jvm.Cond} {P : Jvm.Cond → Bool} (h1 : L.all (fun c => isCode c || P c) = true) (h2 : ∀ c ∈ L.filter isCode, P c = true) : L.all P = true := by
  refine List.all_eq_true.mpr fun c hc => ?_
  have h := List.all_eq_true.mp h1 c hc
  rcases Bool.eq_false_or_eq_true (isCode c) with hi | hi
  · exact h2 c (List.mem_filter.mpr ⟨hc, hi⟩)
  · simpa [hi] using h
set_option maxRecDepth 65536 in
theorem w_c0 : (Jvm.Cond.code x code maxLocals ret).before args0 about1 = true := code_word (m := ⟨1, 4⟩) (meth := k1m4) (c := k1c4) (by decide +kernel) rfl rfl rfl (by decide +kernel)
set_option maxRecDepth 65536 in
theorem w_c1 : (Jvm.Cond.code ({ cls := "com/example/fieldcast/fieldcast/StringDecoderUnpaddedPinLaw", name := "pick", desc := "(IJI)B" } : Jvm.MethodName) method_2_code (5 : Nat) (Option.some Jvm.ClassFile.FieldType.byte)).before args0 about1 = true := code_word (m := ⟨1, 1⟩) (meth := k1m1) (c := k1c1) (by decide +kernel) rfl rfl rfl (by decide +kernel)
set_option maxRecDepth 65536 in
theorem w_c2 : (Jvm.Cond.code ({ cls := "com/example/fieldcast/fieldcast/StringDecoder", name := "unpadded", desc := "([BII)I" } : Jvm.MethodName) prog_66_method_5_code (4 : Nat) (Option.some Jvm.ClassFile.FieldType.int)).before args0 about1 = true := code_word (m := ⟨2, 0⟩) (meth := k2m0) (c := k2c0) (by decide +kernel) rfl rfl rfl (by decide +kernel)
set_option maxRecDepth 65536 in
theorem w_c3 : (Jvm.Cond.code ({ cls := "com/example/fieldcast/fieldcast/StringDecoderUnpaddedPinLaw", name := "ok", desc := "([BIIII)Z" } : Jvm.MethodName) method_4_code (5 : Nat) (Option.some Jvm.ClassFile.FieldType.boolean)).before args0 about1 = true := code_word (m := ⟨1, 3⟩) (meth := k1m3) (c := k1c3) (by decide +kernel) rfl rfl rfl (by decide +kernel)
set_option maxRecDepth 65536 in
theorem w_c4 : (Jvm.Cond.code ({ cls := "com/example/fieldcast/fieldcast/StringDecoderUnpaddedPinLaw", name := "pad", desc := "(B)Z" } : Jvm.MethodName) method_3_code (1 : Nat) (Option.some Jvm.ClassFile.FieldType.boolean)).before args0 about1 = true := code_word (m := ⟨1, 2⟩) (meth := k1m2) (c := k1c2) (by decide +kernel) rfl rfl rfl (by decide +kernel)
def codes1 : List Jvm.Cond := [Jvm.Cond.code x code maxLocals ret, Jvm.Cond.code ({ cls := "com/example/fieldcast/fieldcast/StringDecoderUnpaddedPinLaw", name := "pick", desc := "(IJI)B" } : Jvm.MethodName) method_2_code (5 : Nat) (Option.some Jvm.ClassFile.FieldType.byte), Jvm.Cond.code ({ cls := "com/example/fieldcast/fieldcast/StringDecoder", name := "unpadded", desc := "([BII)I" } : Jvm.MethodName) prog_66_method_5_code (4 : Nat) (Option.some Jvm.ClassFile.FieldType.int), Jvm.Cond.code ({ cls := "com/example/fieldcast/fieldcast/StringDecoderUnpaddedPinLaw", name := "ok", desc := "([BIIII)Z" } : Jvm.MethodName) method_4_code (5 : Nat) (Option.some Jvm.ClassFile.FieldType.boolean), Jvm.Cond.code ({ cls := "com/example/fieldcast/fieldcast/StringDecoderUnpaddedPinLaw", name := "pad", desc := "(B)Z" } : Jvm.MethodName) method_3_code (1 : Nat) (Option.some Jvm.ClassFile.FieldType.boolean)]
set_option maxRecDepth 65536 in
theorem codes_eq : words1.filter isCode = codes1 := rfl
theorem w_codes : ∀ c ∈ words1.filter isCode, c.before args0 about1 = true := by
  rw [codes_eq]
  intro c hc
  simp only [codes1, List.mem_cons, List.not_mem_nil, or_false] at hc
  rcases hc with rfl | rfl | rfl | rfl | rfl
  · exact w_c0
  · exact w_c1
  · exact w_c2
  · exact w_c3
  · exact w_c4
set_option maxRecDepth 65536 in
theorem w_t1 : words1.all (fun c => isCode c || c.before args0 about1) = true := by decide +kernel
theorem w_tables : (allAtoms (Jvm.Cond.code x code maxLocals ret :: tables_1)).before args0 about1 = true := by
  rw [allAtoms_all]
  show words1.all (fun c => c.before args0 about1) = true
  refine all_split ?_ w_codes
  rw [w_t1]
set_option maxRecDepth 65536 in
theorem w_case : (Jvm.Cond.and given_1 narrow_1).before args0 about1 = true := by decide +kernel
theorem w_applies : (headSpec (Jvm.Cond.code x code maxLocals ret :: tables_1) room_1).applies x e0.platform about1 = true :=
  (Spec.applies_iff w_frames).mpr ⟨w_running, w_runnable, w_alone, w_named, w_hears, w_ripe, w_room, w_tables⟩
theorem atStart : AtStart classFile x code maxLocals ret World_1 tables_1 room_1 Calls_1 rest_1 Pre_1 launch0 p0 e0 about1 theMethod args0 below0 :=
  ⟨lists_1, trivial, launch0.admits_env _ _ _, launch0.least_env, fairChoices_fair.cas, fairChoices_fair.clock, w_frames, w_args, w_heap, w_applies, trivial, trivial, w_case⟩
end start1
theorem witness_1 : WitnessClaimed_1 := ⟨start1.p0, start1.e0, start1.about1, start1.theMethod, start1.args0, start1.below0, start1.atStart⟩
end Jvm.Pilot.@@N@@
