import JvmDerived
import JvmDerived.Pilot.@@N@@Statement
import JvmDerived.Pilot.@@N@@Code
set_option linter.unusedVariables false
set_option linter.unusedSimpArgs false
namespace Jvm.Pilot.@@N@@
open Jvm Jvm.ClassFile Sem Op Lib Jvm.Free Jvm.Stand Jvm.LawKit Jvm.RoadKit Bundle Jvm.Pilot.@@N@@.Jvm.D
/-- the body's goal from a state on -/
def Go (p : Program) (e : Env) (below : List Frame) (P : Outcome → State → Prop) (U : State) : Prop :=
  ∃ s₂ o, Steps p.tables e below U s₂ ∧ s₂.status = .running ∧ Ended s₂ below o ∧ P o s₂
/-- the unsigned shifts, the remainders -/
def uI (x y : Int32) : Int32 := (x.toUInt32 >>> (y &&& 31).toUInt32).toInt32
def uL (x : Int64) (y : Int32) : Int64 := (x.toUInt64 >>> (y &&& 0x3f).toInt64.toUInt64).toInt64
def sL (x : Int64) (y : Int32) : Int64 := x >>> (y &&& 0x3f).toInt64
def lL (x : Int64) (y : Int32) : Int64 := x <<< (y &&& 0x3f).toInt64
theorem own_posJ {x : Int64} (h : 0 < x) : x ≠ 0 := fun q => by rw [q] at h; exact absurd h (by decide)
theorem own_narZ {z : Int32} (h : z = 0 ∨ z = 1) : narrow .boolean (.int z) = .int z := by rcases h with rfl | rfl <;> rfl
section Own
variable {p : Program} {l : Launch} {e : Env} {R : Room} {s : State} {m : MethodId} {args : Array Value} {below : List Frame} {meth : Method} {c : Code} {T : State} {locs : List Loc} {cells slots : Nat} {P : Outcome → State → Prop} {pc pc' : Nat} {L L' : Array Slot} {S : List Value} {Z : State} {a0 : Array Value} {h : Heap}
theorem Go.via {U U' : State} (q : ∀ t, Steps p.tables e below U' t → Steps p.tables e below U t) (k : Go p e below P U') : Go p e below P U := by
  obtain ⟨s₂, o, h1, h2⟩ := k
  exact ⟨s₂, o, q _ h1, h2⟩
theorem Go.tr {U U' : State} (q : Steps p.tables e below U U') (k : Go p e below P U') : Go p e below P U := k.via fun _ h => q.trans h
theorem o_iload (X : Stand p l e R s m args below meth c T locs cells slots) (hx : p.tables.exec = Jvm.exec) {k : Nat} {v : Int32} (hd : decode c.code pc = .ok (.iload k, 2)) (hp : pc + 2 = pc') (hl : L[k]? = some (.val (.int v))) (K : Go p e below P (T.setTop (mkF m pc' L (.int v :: S)))) : Go p e below P (T.setTop (mkF m pc L (S))) := by
  subst hp; exact K.via fun t k => XS.iload X.here hx rfl hd hl k
theorem o_lload (X : Stand p l e R s m args below meth c T locs cells slots) (hx : p.tables.exec = Jvm.exec) {k : Nat} {v : Int64} (hd : decode c.code pc = .ok (.lload k, 2)) (hp : pc + 2 = pc') (hl : L[k]? = some (.val (.long v))) (K : Go p e below P (T.setTop (mkF m pc' L (.long v :: S)))) : Go p e below P (T.setTop (mkF m pc L (S))) := by
  subst hp; exact K.via fun t k => XS.lload X.here hx rfl hd hl k
theorem o_lloadN (X : Stand p l e R s m args below meth c T locs cells slots) (hx : p.tables.exec = Jvm.exec) {k : Fin 4} {v : Int64} (hd : decode c.code pc = .ok (.lload_n k, 1)) (hp : pc + 1 = pc') (hl : L[k.val]? = some (.val (.long v))) (K : Go p e below P (T.setTop (mkF m pc' L (.long v :: S)))) : Go p e below P (T.setTop (mkF m pc L (S))) := by
  subst hp; exact K.via fun t k => XS.lloadN X.here hx rfl hd hl k
theorem o_aload (X : Stand p l e R s m args below meth c T locs cells slots) (hx : p.tables.exec = Jvm.exec) {k : Nat} {v : Value} (hd : decode c.code pc = .ok (.aload k, 2)) (hp : pc + 2 = pc') (hl : L[k]? = some (.val v)) (hv : v.isRef = true) (K : Go p e below P (T.setTop (mkF m pc' L (v :: S)))) : Go p e below P (T.setTop (mkF m pc L (S))) := by
  subst hp; exact K.via fun t k => XS.aload X.here hx rfl hd hl hv k
theorem o_aloadN (X : Stand p l e R s m args below meth c T locs cells slots) (hx : p.tables.exec = Jvm.exec) {k : Fin 4} {v : Value} (hd : decode c.code pc = .ok (.aload_n k, 1)) (hp : pc + 1 = pc') (hl : L[k.val]? = some (.val v)) (hv : v.isRef = true) (K : Go p e below P (T.setTop (mkF m pc' L (v :: S)))) : Go p e below P (T.setTop (mkF m pc L (S))) := by
  subst hp; exact K.via fun t k => XS.aloadN X.here hx rfl hd hl hv k
theorem o_istore (X : Stand p l e R s m args below meth c T locs cells slots) (hx : p.tables.exec = Jvm.exec) {k : Nat} {x : Int32} (hd : decode c.code pc = .ok (.istore k, 2)) (hp : pc + 2 = pc') (hl : storeLocals L k (.int x) = some L') (K : Go p e below P (T.setTop (mkF m pc' L' (S)))) : Go p e below P (T.setTop (mkF m pc L (.int x :: S))) := by
  subst hp; exact K.via fun t k => XS.istore X.here hx rfl hd rfl hl k
theorem o_lstore (X : Stand p l e R s m args below meth c T locs cells slots) (hx : p.tables.exec = Jvm.exec) {k : Nat} {x : Int64} (hd : decode c.code pc = .ok (.lstore k, 2)) (hp : pc + 2 = pc') (hl : storeLocals L k (.long x) = some L') (K : Go p e below P (T.setTop (mkF m pc' L' (S)))) : Go p e below P (T.setTop (mkF m pc L (.long x :: S))) := by
  subst hp; exact K.via fun t k => XS.lstore X.here hx rfl hd rfl hl k
theorem o_astore (X : Stand p l e R s m args below meth c T locs cells slots) (hx : p.tables.exec = Jvm.exec) {k : Nat} {x : Value} (hd : decode c.code pc = .ok (.astore k, 2)) (hp : pc + 2 = pc') (hv : x.isRef = true) (hl : storeLocals L k x = some L') (K : Go p e below P (T.setTop (mkF m pc' L' (S)))) : Go p e below P (T.setTop (mkF m pc L (x :: S))) := by
  subst hp; exact K.via fun t k => XS.astore X.here hx rfl hd rfl hv hl k
theorem o_iconst (X : Stand p l e R s m args below meth c T locs cells slots) (hx : p.tables.exec = Jvm.exec) {i : Int} (v : Int32) (hd : decode c.code pc = .ok (.iconst i, 1)) (hp : pc + 1 = pc') (hv : Int32.ofInt i = v) (K : Go p e below P (T.setTop (mkF m pc' L (.int v :: S)))) : Go p e below P (T.setTop (mkF m pc L (S))) := by
  subst hp; exact K.via fun t k => XS.iconst X.here hx rfl hd (hv ▸ k)
theorem o_bipush (X : Stand p l e R s m args below meth c T locs cells slots) (hx : p.tables.exec = Jvm.exec) {i : Int} (v : Int32) (hd : decode c.code pc = .ok (.bipush i, 2)) (hp : pc + 2 = pc') (hv : (Int8.ofInt i).toInt32 = v) (K : Go p e below P (T.setTop (mkF m pc' L (.int v :: S)))) : Go p e below P (T.setTop (mkF m pc L (S))) := by
  subst hp; exact K.via fun t k => XS.bipush X.here hx rfl hd (hv ▸ k)
theorem o_lconst (X : Stand p l e R s m args below meth c T locs cells slots) (hx : p.tables.exec = Jvm.exec) {i : Fin 2} (v : Int64) (hd : decode c.code pc = .ok (.lconst i, 1)) (hp : pc + 1 = pc') (hv : Int64.ofNat i = v) (K : Go p e below P (T.setTop (mkF m pc' L (.long v :: S)))) : Go p e below P (T.setTop (mkF m pc L (S))) := by
  subst hp; exact K.via fun t k => XS.lconst X.here hx rfl hd (hv ▸ k)
theorem o_iand (X : Stand p l e R s m args below meth c T locs cells slots) (hx : p.tables.exec = Jvm.exec) {x y : Int32} (hd : decode c.code pc = .ok (.iand, 1)) (hp : pc + 1 = pc')  (K : Go p e below P (T.setTop (mkF m pc' L (.int (x &&& y) :: S)))) : Go p e below P (T.setTop (mkF m pc L (.int y :: .int x :: S))) := by
  subst hp; exact K.via fun t k => XS.iand X.here hx rfl hd rfl k
theorem o_ladd (X : Stand p l e R s m args below meth c T locs cells slots) (hx : p.tables.exec = Jvm.exec) {x y : Int64} (hd : decode c.code pc = .ok (.ladd, 1)) (hp : pc + 1 = pc')  (K : Go p e below P (T.setTop (mkF m pc' L (.long (x + y) :: S)))) : Go p e below P (T.setTop (mkF m pc L (.long y :: .long x :: S))) := by
  subst hp; exact K.via fun t k => XS.ladd X.here hx rfl hd rfl k
theorem o_lsub (X : Stand p l e R s m args below meth c T locs cells slots) (hx : p.tables.exec = Jvm.exec) {x y : Int64} (hd : decode c.code pc = .ok (.lsub, 1)) (hp : pc + 1 = pc')  (K : Go p e below P (T.setTop (mkF m pc' L (.long (x - y) :: S)))) : Go p e below P (T.setTop (mkF m pc L (.long y :: .long x :: S))) := by
  subst hp; exact K.via fun t k => XS.lsub X.here hx rfl hd rfl k
theorem o_lmul (X : Stand p l e R s m args below meth c T locs cells slots) (hx : p.tables.exec = Jvm.exec) {x y : Int64} (hd : decode c.code pc = .ok (.lmul, 1)) (hp : pc + 1 = pc')  (K : Go p e below P (T.setTop (mkF m pc' L (.long (x * y) :: S)))) : Go p e below P (T.setTop (mkF m pc L (.long y :: .long x :: S))) := by
  subst hp; exact K.via fun t k => XS.lmul X.here hx rfl hd rfl k
theorem o_land (X : Stand p l e R s m args below meth c T locs cells slots) (hx : p.tables.exec = Jvm.exec) {x y : Int64} (hd : decode c.code pc = .ok (.land, 1)) (hp : pc + 1 = pc')  (K : Go p e below P (T.setTop (mkF m pc' L (.long (x &&& y) :: S)))) : Go p e below P (T.setTop (mkF m pc L (.long y :: .long x :: S))) := by
  subst hp; exact K.via fun t k => XS.land X.here hx rfl hd rfl k
theorem o_iushr (X : Stand p l e R s m args below meth c T locs cells slots) (hx : p.tables.exec = Jvm.exec) {x y : Int32} (hd : decode c.code pc = .ok (.iushr, 1)) (hp : pc + 1 = pc')  (K : Go p e below P (T.setTop (mkF m pc' L (.int (uI x y) :: S)))) : Go p e below P (T.setTop (mkF m pc L (.int y :: .int x :: S))) := by
  subst hp; exact K.via fun t k => XS.iushr X.here hx rfl hd rfl k
theorem o_lushr (X : Stand p l e R s m args below meth c T locs cells slots) (hx : p.tables.exec = Jvm.exec) {x : Int64} {y : Int32} (hd : decode c.code pc = .ok (.lushr, 1)) (hp : pc + 1 = pc')  (K : Go p e below P (T.setTop (mkF m pc' L (.long (uL x y) :: S)))) : Go p e below P (T.setTop (mkF m pc L (.int y :: .long x :: S))) := by
  subst hp; exact K.via fun t k => XS.lushr X.here hx rfl hd rfl k
theorem o_ldiv (X : Stand p l e R s m args below meth c T locs cells slots) (hx : p.tables.exec = Jvm.exec) {x y : Int64} (hd : decode c.code pc = .ok (.ldiv, 1)) (hp : pc + 1 = pc') (hy : y ≠ 0) (K : Go p e below P (T.setTop (mkF m pc' L (.long (x / y) :: S)))) : Go p e below P (T.setTop (mkF m pc L (.long y :: .long x :: S))) := by
  subst hp; exact K.via fun t k => XS.ldiv X.here hx rfl hd rfl hy k
theorem o_dup (X : Stand p l e R s m args below meth c T locs cells slots) (hx : p.tables.exec = Jvm.exec) {x : Value} (hd : decode c.code pc = .ok (.dup, 1)) (hp : pc + 1 = pc') (hc : x.category = 1) (K : Go p e below P (T.setTop (mkF m pc' L (x :: x :: S)))) : Go p e below P (T.setTop (mkF m pc L (x :: S))) := by
  subst hp; exact K.via fun t k => XS.dup X.here hx rfl hd rfl hc k
theorem o_goto (X : Stand p l e R s m args below meth c T locs cells slots) (hx : p.tables.exec = Jvm.exec) {o : Int} (hd : decode c.code pc = .ok (.goto o, 3)) (ho : 0 ≤ (pc : Int) + o) (hp : ((pc : Int) + o).toNat = pc') (K : Go p e below P (T.setTop (mkF m pc' L S))) : Go p e below P (T.setTop (mkF m pc L S)) :=
  K.via fun t k => XS.goto X.here hx rfl rfl hd ho hp k
theorem o_ifY (X : Stand p l e R s m args below meth c T locs cells slots) (hx : p.tables.exec = Jvm.exec) {cd : ClassFile.Cond} {x : Int32} {o : Int} (hd : decode c.code pc = .ok (.ifCond cd o, 3)) (hc : if_icmp.holds cd x 0 = true) (ho : 0 ≤ (pc : Int) + o) (hp : ((pc : Int) + o).toNat = pc') (K : Go p e below P (T.setTop (mkF m pc' L S))) : Go p e below P (T.setTop (mkF m pc L (.int x :: S))) :=
  K.via fun t k => XS.ifYes X.here hx rfl rfl hd rfl ((if0 _ _).trans hc) ho hp k
theorem o_ifN (X : Stand p l e R s m args below meth c T locs cells slots) (hx : p.tables.exec = Jvm.exec) {cd : ClassFile.Cond} {x : Int32} {o : Int} (hd : decode c.code pc = .ok (.ifCond cd o, 3)) (hc : if_icmp.holds cd x 0 = false) (hp : pc + 3 = pc') (K : Go p e below P (T.setTop (mkF m pc' L S))) : Go p e below P (T.setTop (mkF m pc L (.int x :: S))) := by
  subst hp; exact K.via fun t k => XS.ifNo X.here hx rfl hd rfl ((if0 _ _).trans hc) k
theorem o_cmpY (X : Stand p l e R s m args below meth c T locs cells slots) (hx : p.tables.exec = Jvm.exec) {cd : ClassFile.Cond} {x y : Int32} {o : Int} (hd : decode c.code pc = .ok (.if_icmp cd o, 3)) (hc : if_icmp.holds cd x y = true) (ho : 0 ≤ (pc : Int) + o) (hp : ((pc : Int) + o).toNat = pc') (K : Go p e below P (T.setTop (mkF m pc' L S))) : Go p e below P (T.setTop (mkF m pc L (.int y :: .int x :: S))) :=
  K.via fun t k => XS.icmpYes X.here hx rfl rfl hd rfl hc ho hp k
theorem o_cmpN (X : Stand p l e R s m args below meth c T locs cells slots) (hx : p.tables.exec = Jvm.exec) {cd : ClassFile.Cond} {x y : Int32} {o : Int} (hd : decode c.code pc = .ok (.if_icmp cd o, 3)) (hc : if_icmp.holds cd x y = false) (hp : pc + 3 = pc') (K : Go p e below P (T.setTop (mkF m pc' L S))) : Go p e below P (T.setTop (mkF m pc L (.int y :: .int x :: S))) := by
  subst hp; exact K.via fun t k => XS.icmpNo X.here hx rfl hd rfl hc k
theorem o_lcmp (X : Stand p l e R s m args below meth c T locs cells slots) (hx : p.tables.exec = Jvm.exec) {x y : Int64} (hd : decode c.code pc = .ok (.lcmp, 1)) (hp : pc + 1 = pc') (K : Go p e below P (T.setTop (mkF m pc' L (.int (lcmpW x y) :: S)))) : Go p e below P (T.setTop (mkF m pc L (.long y :: .long x :: S))) := by
  subst hp; exact K.via fun t k => XS.lcmp X.here hx rfl hd rfl k
theorem tltL {x y : Int64} (q : x < y) : if_icmp.holds .lt (lcmpW x y) 0 = true ∧ if_icmp.holds .ge (lcmpW x y) 0 = false ∧ if_icmp.holds .gt (lcmpW y x) 0 = true ∧ if_icmp.holds .le (lcmpW y x) 0 = false :=
  ⟨(tlt ((lw_lt x y).mpr q)).1, (tlt ((lw_lt x y).mpr q)).2.1, (tlt ((lw_gt y x).mpr q)).2.2.1, (tlt ((lw_gt y x).mpr q)).2.2.2⟩
theorem fltL {x y : Int64} (q : ¬ x < y) : if_icmp.holds .lt (lcmpW x y) 0 = false ∧ if_icmp.holds .ge (lcmpW x y) 0 = true ∧ if_icmp.holds .gt (lcmpW y x) 0 = false ∧ if_icmp.holds .le (lcmpW y x) 0 = true :=
  ⟨(flt (mt (lw_lt x y).mp q)).1, (flt (mt (lw_lt x y).mp q)).2.1, (flt (mt (lw_gt y x).mp q)).2.2.1, (flt (mt (lw_gt y x).mp q)).2.2.2⟩
theorem teqL {x y : Int64} (q : x = y) : if_icmp.holds .eq (lcmpW x y) 0 = true ∧ if_icmp.holds .ne (lcmpW x y) 0 = false := teq ((lw_eq x y).mpr q)
theorem feqL {x y : Int64} (q : ¬ x = y) : if_icmp.holds .eq (lcmpW x y) 0 = false ∧ if_icmp.holds .ne (lcmpW x y) 0 = true := feq (mt (lw_eq x y).mp q)
theorem o_ldcJ (X : Stand p l e R s m args below meth c T locs cells slots) (hx : p.tables.exec = Jvm.exec) (hZ : Z.Warmed39 s.vm) {own : String} {index : Nat} (v : Int64) (hown : s.vm.findClass own = some m.cls) (w : (Cond.constantLong own index v).before a0 Z = true) (hd : decode c.code pc = .ok (.ldc2_w index, 3)) (hp : pc + 3 = pc') (K : Go p e below P (T.setTop (mkF m pc' L (.long v :: S)))) : Go p e below P (T.setTop (mkF m pc L S)) := by
  subst hp; exact K.via (X.ldc2Long hx hown (mvT hZ w) (g := mkF m pc L S) rfl hd)
/-- what a body's end owes -/
abbrev Owe (s : State) (Q : Option Value → Heap → List Loc → Prop) (C D : Nat) : Outcome → State → Prop := fun o U' => ∃ v L, o = .returned v ∧ Q v U'.heap L ∧ FrameEnd s o U' L C D
/-- a body's contract -/
abbrev Con (l : Launch) (y : MethodName) (bytes : ByteArray) (ml : Nat) (ret : Option FieldType) (ws : List Jvm.Cond) (rm : Room) (as' : Array Value) (Z : State) (h0 : Heap) (Q : Option Value → Heap → List Loc → Prop) (C D : Nat) : Prop :=
  MetFree l y (head1 (Jvm.Cond.code y bytes ml ret :: ws) rm) (fun b U => b = as' ∧ Z.Warmed39 U.vm ∧ U.heap = h0) (fun _ _ _ _ _ => True) (fun _ U o U' => ∃ v L, o = .returned v ∧ Q v U'.heap L ∧ FrameEnd U o U' L C D)
theorem own_body {y : MethodName} {bytes : ByteArray} {ml : Nat} {ret : Option FieldType} {ws : List Jvm.Cond} {rm : Room} {as' : Array Value} {h0 : Heap} {Q : Option Value → Heap → List Loc → Prop} {C D : Nat} (hpl : plainFor y = true)
    (K : ∀ (p : Program) (e : Env) (s : State) (m : MethodId) (below : List Frame) (meth : Method) (c : Code) (s₁ : State), p.tables.exec = Jvm.exec → c.code = bytes → meth.locks = false → c.maxLocals = ml → s.vm.findClass y.cls = some m.cls → meth.name = y.name → meth.sig.returnType = ret → Z.Warmed39 s.vm →
      Stand p l e rm s m as' below meth c s₁ [] 0 0 → s₁.heap = h0 → Go p e below (Owe s Q C D) (s₁.setTop (entryFrame m as' ml))) : Con l y bytes ml ret ws rm as' Z h0 Q C D := by
  refine MetFree.of_bodySF hpl hisR ?_
  intro p e s m args below meth c s₁ Bd hml0 hP hK
  obtain ⟨rfl, hZ, hh⟩ := hP
  exact K p e s m below meth c s₁ Bd.exec Bd.bytes (BodyLoose.notSynchronized Bd) hml0 (findClass_of_methodNamed Bd.named) (name_of_methodNamed Bd.named Bd.method).1 Bd.returns hZ (Stand.of_body Bd) (by rw [← hh, Bd.state]; rfl)
theorem o_ret (X : Stand p l e R s m args below meth c T locs cells slots) (hx : p.tables.exec = Jvm.exec) {Q : Option Value → Heap → List Loc → Prop} {C D : Nat} {w : Value} {t : FieldType} {i : Instr} (hlocks : meth.locks = false) (hret : meth.sig.returnType = some t) (hn : narrow t w = w)
    (hi : (i = .ireturn ∧ (t = .int ∨ t = .boolean ∨ t = .byte ∨ t = .char ∨ t = .short) ∧ ∃ z, w = .int z) ∨ (i = .lreturn ∧ t = .long ∧ ∃ z, w = .long z) ∨ (i = .dreturn ∧ t = .double ∧ ∃ z, w = .double z) ∨ (i = .freturn ∧ t = .float ∧ ∃ z, w = .float z) ∨ (i = .areturn ∧ t.isReference = true ∧ w.isRef = true))
    (hd : decode c.code pc = .ok (i, 1)) (hc : cells ≤ C) (hs : slots ≤ D) (hq : Q (some w) T.heap locs) : Go p e below (Owe s Q C D) (T.setTop (mkF m pc L (w :: S))) := by
  obtain ⟨fs, hr, hrun, hended, hW, hsame⟩ := X.leave (v := some w) (fun h => by rw [hret] at h; cases h) hlocks
  exact ⟨_, _, retOut X hx hret hn hi hd hr, hrun, hended, _, _, rfl, hq, ⟨_, rfl⟩, hW, hsame.mono hc hs⟩
theorem o_retJ (X : Stand p l e R s m args below meth c T locs cells slots) (hx : p.tables.exec = Jvm.exec) {Q : Option Value → Heap → List Loc → Prop} {C D : Nat} {z : Int64} (hlocks : meth.locks = false) (hret : meth.sig.returnType = some .long) (hd : decode c.code pc = .ok (.lreturn, 1)) (hc : cells ≤ C) (hs : slots ≤ D) (hq : Q (some (.long z)) T.heap locs) : Go p e below (Owe s Q C D) (T.setTop (mkF m pc L (.long z :: S))) :=
  o_ret X hx hlocks hret rfl (Or.inr (Or.inl ⟨rfl, rfl, z, rfl⟩)) hd hc hs hq
theorem o_retZ (X : Stand p l e R s m args below meth c T locs cells slots) (hx : p.tables.exec = Jvm.exec) {Q : Option Value → Heap → List Loc → Prop} {C D : Nat} {z : Int32} (hz : narrow .boolean (.int z) = .int z) (hlocks : meth.locks = false) (hret : meth.sig.returnType = some .boolean) (hd : decode c.code pc = .ok (.ireturn, 1)) (hc : cells ≤ C) (hs : slots ≤ D) (hq : Q (some (.int z)) T.heap locs) : Go p e below (Owe s Q C D) (T.setTop (mkF m pc L (.int z :: S))) :=
  o_ret X hx hlocks hret hz (Or.inl ⟨rfl, Or.inr (Or.inl rfl), z, rfl⟩) hd hc hs hq
theorem o_retV (X : Stand p l e R s m args below meth c T locs cells slots) (hx : p.tables.exec = Jvm.exec) {Q : Option Value → Heap → List Loc → Prop} {C D : Nat} (hlocks : meth.locks = false) (hret : meth.sig.returnType = none) (hd : decode c.code pc = .ok (.return_, 1)) (hc : cells ≤ C) (hs : slots ≤ D) (hq : Q none T.heap locs) : Go p e below (Owe s Q C D) (T.setTop (mkF m pc L [])) := by
  obtain ⟨fs, hr, hrun, hended, hW, hsame⟩ := X.leave (v := none) (fun _ => rfl) hlocks
  exact ⟨_, _, X.returnOut hx hret hd hr, hrun, hended, _, _, rfl, hq, ⟨_, rfl⟩, hW, hsame.mono hc hs⟩
theorem o_callS (X : Stand p l e R s m args below meth c T locs cells slots) (hx : p.tables.exec = Jvm.exec) (hZ : Z.Warmed39 s.vm) {own : String} {index : Nat} {y : MethodName} {bytes : ByteArray} {maxL : Nat} {ret : Option FieldType} {rm : Room} (W : Nat) {argsL rest : List Value} {Q : Option Value → Heap → List Loc → Prop} {cells' slots' : Nat}
    (hown : s.vm.findClass own = some m.cls) (w1 : (Cond.methodLink own index y).before a0 Z = true) (w2 : (Cond.static y).before a0 Z = true) (w3 : (Cond.initialized y.cls).before a0 Z = true) (w4 : (Cond.code y bytes maxL ret).before a0 Z = true) (hy : y.cls ≠ "java/lang/invoke/MethodHandle" ∧ y.cls ≠ "java/lang/invoke/VarHandle")
    (hM : MetFree l y (head1 [Cond.code y bytes maxL ret] rm) (fun a U => a = argsL.toArray ∧ Z.Warmed39 U.vm ∧ U.heap = h) (fun _ _ _ _ _ => True) (fun _ U o U' => ∃ v L, o = .returned v ∧ Q v U'.heap L ∧ FrameEnd U o U' L rm.cells rm.slots))
    (hf : rm.frames + 1 ≤ R.frames) (hl : W + (maxL + 11) + rm.locals ≤ R.locals) (hcc : cells + rm.cells = cells') (hss : slots + rm.slots = slots') (hc : cells' ≤ R.cells) (hs : slots' ≤ R.slots) (eT : T.heap = h) (hsize : L.size = c.maxLocals) (hlen : ∀ sig, parseMethodDescriptor y.desc = some sig → argsL.length = sig.parameters.length) (hstk : S = argsL.reverse ++ rest)
    (hW : (rest.map fun v => v.category).sum = W) (hd : decode c.code pc = .ok (.invokestatic index, 3)) (hp : pc + 3 = pc') (K : ∀ T' v Lc, Stand p l e R s m args below meth c T' (locs ++ Lc) cells' slots' → Q v T'.heap Lc → Go p e below P (T'.setTop (mkF m pc' L (v.toList ++ rest)))) : Go p e below P (T.setTop (mkF m pc L S)) := by
  subst hp hcc hss
  obtain ⟨v, _, ⟨T', L', k', n'⟩, -, X', ⟨Lc, hQ, l', y', z'⟩, st⟩ := Jvm.LawKit.callS X hx hown (mvT hZ w1) (mvT hZ w2) (mvT hZ w3) (mvT hZ w4) hy (backOf (W := W) hM hZ w4 w3 hf hl) (g := mkF m pc L S) rfl hsize (argsL := argsL) (rest := rest) hlen hstk (by show 2 * 0 + _ ≤ _; rw [hW]; exact Nat.le_of_eq (by simp)) hd (fun _ _ => ⟨rfl, eT, hc, hs⟩)
  dsimp only [Pt.U, Pt.locs, Pt.cells, Pt.slots] at X' l' y' z' st hQ
  subst l' y' z'
  exact (K T' v Lc X' hQ).via st
theorem o_callI (X : Stand p l e R s m args below meth c T locs cells slots) (hx : p.tables.exec = Jvm.exec) (hZ : Z.Warmed39 s.vm) {own : String} {index : Nat} {y : MethodName} {bytes : ByteArray} {maxL : Nat} {rm : Room} (W : Nat) {argsL rest : List Value} {a : Addr} {Q : Option Value → Heap → List Loc → Prop} {cells' slots' : Nat}
    (hn : y.name = "<init>") (hown : s.vm.findClass own = some m.cls) (w1 : (Cond.methodLink own index y).before a0 Z = true) (w2 : (Cond.instanceMethod y).before a0 Z = true) (w3 : (Cond.initialized y.cls).before a0 Z = true) (w4 : (Cond.code y bytes maxL none).before a0 Z = true) (hy : y.cls ≠ "java/lang/invoke/MethodHandle" ∧ y.cls ≠ "java/lang/invoke/VarHandle")
    (hM : MetFree l y (head1 [Cond.code y bytes maxL none] rm) (fun b U => b = (.ref a :: argsL).toArray ∧ Z.Warmed39 U.vm ∧ U.heap = h) (fun _ _ _ _ _ => True) (fun _ U o U' => ∃ v L, o = .returned v ∧ Q v U'.heap L ∧ FrameEnd U o U' L rm.cells rm.slots))
    (hf : rm.frames + 1 ≤ R.frames) (hl : W + (maxL + 11) + rm.locals ≤ R.locals) (hcc : cells + rm.cells = cells') (hss : slots + rm.slots = slots') (hc : cells' ≤ R.cells) (hs : slots' ≤ R.slots) (eT : T.heap = h) (hsize : L.size = c.maxLocals) (hlen : ∀ sig, parseMethodDescriptor y.desc = some sig → argsL.length = sig.parameters.length) (hstk : S = argsL.reverse ++ .ref a :: rest)
    (hW : (rest.map fun v => v.category).sum = W) (hd : decode c.code pc = .ok (.invokespecial index, 3)) (hp : pc + 3 = pc') (K : ∀ T' v Lc, Stand p l e R s m args below meth c T' (locs ++ Lc) cells' slots' → Q v T'.heap Lc → Go p e below P (T'.setTop (mkF m pc' L (v.toList ++ rest)))) : Go p e below P (T.setTop (mkF m pc L S)) := by
  subst hp hcc hss
  obtain ⟨v, _, ⟨T', L', k', n'⟩, -, X', ⟨Lc, hQ, l', y', z'⟩, st⟩ := X.specialBack hx hn hown (mvT hZ w1) (mvT hZ w2) (mvT hZ w4) hy (backOf (W := W) hM hZ w4 w3 hf hl) (g := mkF m pc L S) rfl hsize (Steps.refl _) (a := a) (argsL := argsL) (rest := rest) hlen hstk (by show 2 * 0 + _ ≤ _; rw [hW]; exact Nat.le_of_eq (by simp)) hd (fun _ _ => ⟨rfl, eT, hc, hs⟩)
  dsimp only [Pt.U, Pt.locs, Pt.cells, Pt.slots] at X' l' y' z' st hQ
  subst l' y' z'
  exact (K T' v Lc X' hQ).tr st
theorem o_callV (X : Stand p l e R s m args below meth c T locs cells slots) (hx : p.tables.exec = Jvm.exec) (hZ : Z.Warmed39 s.vm) {own C : String} {index : Nat} {y : MethodName} {bytes : ByteArray} {maxL : Nat} {ret : Option FieldType} {rm : Room} (W : Nat) {argsL rest : List Value} {a : Addr} {Q : Option Value → Heap → List Loc → Prop} {cells' slots' : Nat}
    (hown : s.vm.findClass own = some m.cls) (w1 : (Cond.methodLink own index y).before a0 Z = true) (w2 : (Cond.declares y).before a0 Z = true) (w5 : (Cond.selects C y y).before a0 Z = true) (w6 : (Cond.instanceMethod y).before a0 Z = true) (w3 : (Cond.initialized y.cls).before a0 Z = true) (w4 : (Cond.code y bytes maxL ret).before a0 Z = true) (hy : y.cls ≠ "java/lang/invoke/MethodHandle" ∧ y.cls ≠ "java/lang/invoke/VarHandle")
    (hM : MetFree l y (head1 [Cond.code y bytes maxL ret] rm) (fun b U => b = (.ref a :: argsL).toArray ∧ Z.Warmed39 U.vm ∧ U.heap = h) (fun _ _ _ _ _ => True) (fun _ U o U' => ∃ v L, o = .returned v ∧ Q v U'.heap L ∧ FrameEnd U o U' L rm.cells rm.slots))
    (hE : Exa Z h a C) (hf : rm.frames + 1 ≤ R.frames) (hl : W + (maxL + 11) + rm.locals ≤ R.locals) (hcc : cells + rm.cells = cells') (hss : slots + rm.slots = slots') (hc : cells' ≤ R.cells) (hs : slots' ≤ R.slots) (eT : T.heap = h) (hsize : L.size = c.maxLocals) (hlen : ∀ sig, parseMethodDescriptor y.desc = some sig → argsL.length = sig.parameters.length) (hstk : S = argsL.reverse ++ .ref a :: rest)
    (hW : (rest.map fun v => v.category).sum = W) (hd : decode c.code pc = .ok (.invokevirtual index, 3)) (hp : pc + 3 = pc') (K : ∀ T' v Lc, Stand p l e R s m args below meth c T' (locs ++ Lc) cells' slots' → Q v T'.heap Lc → Go p e below P (T'.setTop (mkF m pc' L (v.toList ++ rest)))) : Go p e below P (T.setTop (mkF m pc L S)) := by
  subst hp hcc hss
  obtain ⟨cq, kq, qa, qb, qc⟩ := isOf hZ eT hE
  obtain ⟨v, _, ⟨T', L', k', n'⟩, -, X', ⟨Lc, hQ, l', y', z'⟩, st⟩ := X.virtualBack hx (y := y) (z := y) hown (mvT hZ w1) (mvT hZ w2) (notFace_of_selects (args := #[]) (mvT hZ w5)) (mvT hZ w5) (mvT hZ w6) hy (backOf (W := W) hM hZ w4 w3 hf hl) qa qc (g := mkF m pc L S) rfl hsize (Steps.refl _) (argsL := argsL) (rest := rest) hlen hstk (by show 2 * 0 + _ ≤ _; rw [hW]; exact Nat.le_of_eq (by simp)) hd (fun _ _ => ⟨rfl, eT, hc, hs⟩)
  dsimp only [Pt.U, Pt.locs, Pt.cells, Pt.slots] at X' l' y' z' st hQ
  subst l' y' z'
  exact (K T' v Lc X' hQ).tr st
theorem o_new (X : Stand p l e R s m args below meth c T locs cells slots) (hx : p.tables.exec = Jvm.exec) (hZ : Z.Warmed39 s.vm) {own C : String} {index n : Nat} {cells' slots' : Nat} (hown : s.vm.findClass own = some m.cls) (w1 : (Cond.classLink own index C).before a0 Z = true) (w2 : (Cond.instantiable C n).before a0 Z = true) (w3 : (Cond.initialized C).before a0 Z = true) (eT : T.heap = h)
    (hd : decode c.code pc = .ok (.new index, 3)) (hp : pc + 3 = pc') (hcc : cells + 1 = cells') (hss : slots + n = slots') (hc : cells' ≤ R.cells) (hs : slots' ≤ R.slots)
    (K : ∀ T' h' a, a = h.size → Stand p l e R s m args below meth c T' locs cells' slots' → T'.heap = h' → Ext h h' → Exa Z h' a C → (∀ {O nm d : String} {ty : FieldType}, Laid Z a0 C O nm d → parseFieldDescriptor d = some ty → Fld Z h' a O nm d (defaultValue ty)) → Go p e below P (T'.setTop (mkF m pc' L (.ref a :: S)))) : Go p e below P (T.setTop (mkF m pc L S)) := by
  subst hp hcc hss
  obtain ⟨T', h', X', e', E', A', D', -, st⟩ := newO X hx hZ hown w1 w2 w3 eT (g := mkF m pc L S) rfl hd hc hs
  exact (K T' h' h.size rfl X' e' E' A' D').via st
theorem o_initO (X : Stand p l e R s m args below meth c T locs cells slots) (hx : p.tables.exec = Jvm.exec) (hZ : Z.Warmed39 s.vm) {own : String} {index : Nat} {a : Addr} (W : Nat) (hown : s.vm.findClass own = some m.cls) (w1 : (Cond.methodLink own index Lib.objectInit).before a0 Z = true) (w2 : (Cond.instanceMethod Lib.objectInit).before a0 Z = true) (w3 : (Cond.code Lib.objectInit ⟨#[0xb1]⟩ 1 none).before a0 Z = true) (eT : T.heap = h) (hsize : L.size = c.maxLocals)
    (hd : decode c.code pc = .ok (.invokespecial index, 3)) (hp : pc + 3 = pc') (hf : 1 ≤ R.frames) (hW : (S.map fun v => v.category).sum = W) (hl : W + 12 ≤ R.locals) (K : ∀ T', Stand p l e R s m args below meth c T' locs cells slots → T'.heap = h → Go p e below P (T'.setTop (mkF m pc' L S))) : Go p e below P (T.setTop (mkF m pc L (.ref a :: S))) := by
  subst hp
  obtain ⟨T', X', e', st⟩ := initO X hx hZ hown w1 w2 w3 eT (g := mkF m pc L (.ref a :: S)) rfl hsize rfl hd hf (W := W) (by show 2 * 0 + _ ≤ _; rw [hW]; exact Nat.le_of_eq (by simp)) hl
  exact (K T' X' e').via st
theorem o_getF (X : Stand p l e R s m args below meth c T locs cells slots) (hx : p.tables.exec = Jvm.exec) (hZ : Z.Warmed39 s.vm) {own O n d : String} {index : Nat} {a : Addr} {v : Value} (hown : s.vm.findClass own = some m.cls) (w : (Cond.fieldLink own index O n d).before a0 Z = true) (eT : T.heap = h) (F : Fld Z h a O n d v) (hd : decode c.code pc = .ok (.getfield index, 3)) (hp : pc + 3 = pc')
    (K : ∀ T', Stand p l e R s m args below meth c T' locs cells slots → T'.heap = h → Go p e below P (T'.setTop (mkF m pc' L (v :: S)))) : Go p e below P (T.setTop (mkF m pc L (.ref a :: S))) := by
  subst hp
  obtain ⟨T', X', e', st⟩ := getF X hx hZ hown (host := "") (Or.inl w) Via.refl eT F (g := mkF m pc L (.ref a :: S)) rfl rfl hd
  exact (K T' X' e').via st
theorem o_putF (X : Stand p l e R s m args below meth c T locs cells slots) (hx : p.tables.exec = Jvm.exec) (hZ : Z.Warmed39 s.vm) {own O n d C : String} {index kk : Nat} {a : Addr} {v old : Value} {ty : FieldType} (hown : s.vm.findClass own = some m.cls) (w : (Cond.fieldLink own index O n d).before a0 Z = true) (eT : T.heap = h) (F : Fld Z h a O n d old) (E : Exa Z h a C)
    (LL : (Cond.lays C O n d).before a0 Z = true ∨ ((Cond.laysFinal C O n d).before a0 Z = true ∧ own = O ∧ meth.name = "<init>")) (wi : (Cond.instantiable C kk).before a0 Z = true) (hty : parseFieldDescriptor d = some ty) (hn : narrow ty v = v) (hf : fits ty v = true) (hd : decode c.code pc = .ok (.putfield index, 3)) (hp : pc + 3 = pc')
    (K : ∀ T' h', Stand p l e R s m args below meth c T' (locs ++ [⟨a, Jvm.RoadKit.slotOf Z O n d⟩]) cells slots → T'.heap = h' → Wr h h' a (Jvm.RoadKit.slotOf Z O n d) v → Go p e below P (T'.setTop (mkF m pc' L S))) : Go p e below P (T.setTop (mkF m pc L (v :: .ref a :: S))) := by
  subst hp
  obtain ⟨T', h', X', e', W', st⟩ := putF X hx hZ hown (host := "") (Or.inl w) Via.refl eT F E LL wi hty hn hf (g := mkF m pc L (v :: .ref a :: S)) rfl rfl hd
  exact (K T' h' X' e' W').via st
end Own
theorem pd_0 : parseMethodDescriptor "(J)V" = some ⟨[.long], none⟩ := by decide +kernel
theorem pd_1 : parseMethodDescriptor "(JJ)V" = some ⟨[.long, .long], none⟩ := by decide +kernel
theorem pd_2 : parseMethodDescriptor "(JJJ)Z" = some ⟨[.long, .long, .long], some .boolean⟩ := by decide +kernel
theorem pd_3 : parseMethodDescriptor "()J" = some ⟨[], some .long⟩ := by decide +kernel
theorem pd_4 : parseMethodDescriptor "()Z" = some ⟨[], some .boolean⟩ := by decide +kernel
theorem d1_0 : decode prog_37_method_1_code 0 = .ok (.aload_n 0, 1) := by decide +kernel
theorem d1_1 : decode prog_37_method_1_code 1 = .ok (.invokespecial 1, 3) := by decide +kernel
theorem d1_4 : decode prog_37_method_1_code 4 = .ok (.aload_n 0, 1) := by decide +kernel
theorem d1_5 : decode prog_37_method_1_code 5 = .ok (.lload_n 1, 1) := by decide +kernel
theorem d1_6 : decode prog_37_method_1_code 6 = .ok (.putfield 7, 3) := by decide +kernel
theorem d1_9 : decode prog_37_method_1_code 9 = .ok (.return_, 1) := by decide +kernel
theorem pn_1 : plainName "com/example/darta/darta/analysis/ReloadCount" = true := by first | (simp [plainName, overriddenIn]; done) | decide +kernel
theorem ef_1 (m : MethodId) (x0 : Addr) (x1 : Int64) : entryFrame m #[(.ref x0), (.long x1)] 3 = mkF m 0 #[.val (.ref x0), .val (.long x1), .second] [] := by first | (simp [entryFrame, mkF, argsToLocals, Value.category]; done) | rfl
def Q1 (Z : State) (aa : Addr) (u0 : Value) (y1 : Int64) (y2 : Int32) (x1 : Int64) (h0 : Heap) (n0 : Nat) (v : Option Value) (h : Heap) (L : List Loc) : Prop := v = none ∧ Fr n0 L ∧ Keep h0 h [aa] ∧ Exa Z h aa "com/example/darta/darta/analysis/ReloadCount" ∧ Fld Z h aa "com/example/darta/darta/analysis/ReloadCount" "limit" "J" (.long x1) ∧ Fld Z h aa "com/example/darta/darta/analysis/ReloadCount" "count" "J" (.long y1) ∧ Fld Z h aa "com/example/darta/darta/analysis/ReloadCount" "exceeded" "Z" (.int y2)
set_option maxRecDepth 65536 in
set_option maxHeartbeats 40000000 in
theorem rm1 (l : Launch) (Z : State) (a0 : Array Value) (hw : ∀ d ∈ tables_1, d.before a0 Z = true) (ws : List Jvm.Cond) (aa : Addr) (u0 : Value) (y1 : Int64) (y2 : Int32) (x1 : Int64) (h0 : Heap) (n0 : Nat) (Z0 : n0 ≤ h0.size) (E_aa : Exa Z h0 aa "com/example/darta/darta/analysis/ReloadCount") (F_limit_aa : Fld Z h0 aa "com/example/darta/darta/analysis/ReloadCount" "limit" "J" u0) (F_count_aa : Fld Z h0 aa "com/example/darta/darta/analysis/ReloadCount" "count" "J" (.long y1)) (F_exceeded_aa : Fld Z h0 aa "com/example/darta/darta/analysis/ReloadCount" "exceeded" "Z" (.int y2)) (g_aa : n0 ≤ aa) :
    Con l (⟨"com/example/darta/darta/analysis/ReloadCount", "<init>", "(J)V"⟩ : MethodName) prog_37_method_1_code 3 none ws ({ frames := 1, cells := 0, slots := 0, locals := 12 } : Room) #[(.ref aa), (.long x1)] Z h0 (Q1 Z aa u0 y1 y2 x1 h0 n0) ({ frames := 1, cells := 0, slots := 0, locals := 12 } : Room).cells ({ frames := 1, cells := 0, slots := 0, locals := 12 } : Room).slots := by
  refine own_body (plainFor_of_name pn_1) ?_
  intro p e s m below meth c s₁ hx hby hlk hml hown hnm hrt hZ X0 e0
  have w : ∀ (k : Nat) (d : Jvm.Cond), tables_1[k]? = some d → d.before a0 Z = true := fun k d h => hw d (List.mem_of_getElem? h)
  have N0 := Fr.nil n0
  have K0 := Keep.refl h0 [aa]
  rw [ef_1]
  generalize hOWE : Owe s _ _ _ = OWE
  refine o_aloadN X0 hx (hb hby d1_0) (pc' := 1) rfl rfl rfl ?_
  refine o_initO X0 hx hZ 0 hown (w 7 _ rfl) (w 8 _ rfl) (w 9 _ rfl) e0 (by rw [hml]; rfl) (hb hby d1_1) (pc' := 4) rfl (by decide) rfl (by decide) ?_
  intro T1 X1 e1
  refine o_aloadN X1 hx (hb hby d1_4) (pc' := 5) rfl rfl rfl ?_
  refine o_lloadN X1 hx (hb hby d1_5) (pc' := 6) rfl rfl ?_
  refine o_putF X1 hx hZ hown (w 10 _ rfl) e1 F_limit_aa E_aa (Or.inr ⟨(w 11 _ rfl), rfl, hnm⟩) (w 2 _ rfl) (ty := .long) (by decide) rfl rfl (hb hby d1_6) (pc' := 9) rfl ?_
  intro T2 h2 X2 e2 W2
  have Fw2 := Fld.same W2 F_limit_aa
  have E3_aa := Exa.wr W2 E_aa
  have F3_aa_count := Fld.other W2 F_count_aa (Or.inr (slot_ne (C := "com/example/darta/darta/analysis/ReloadCount") (a0 := a0) (Or.inl (w 18 _ rfl)) (Or.inr (w 11 _ rfl)) (by decide) (t := .long) (t' := .long) (by decide) (by decide)))
  have F3_aa_exceeded := Fld.other W2 F_exceeded_aa (Or.inr (slot_ne (C := "com/example/darta/darta/analysis/ReloadCount") (a0 := a0) (Or.inl (w 20 _ rfl)) (Or.inr (w 11 _ rfl)) (by decide) (t := .boolean) (t' := .long) (by decide) (by decide)))
  have N2 := Fr.snoc X2 N0 g_aa
  have Z2 : n0 ≤ h2.size := by rw [W2.size]; exact Z0
  have K2 := Keep.wr K0 W2 (Or.inl (List.mem_of_getElem? (i := 0) rfl))
  rw [← hOWE]
  exact o_retV X2 hx hlk hrt (hb hby d1_9) (by decide) (by decide) (by rw [e2]; exact ⟨rfl, N2, K2, E3_aa, Fw2, F3_aa_count, F3_aa_exceeded⟩)
theorem d3_0 : decode prog_37_method_2_code 0 = .ok (.lload_n 3, 1) := by decide +kernel
theorem d3_1 : decode prog_37_method_2_code 1 = .ok (.lconst 0, 1) := by decide +kernel
theorem d3_2 : decode prog_37_method_2_code 2 = .ok (.lcmp, 1) := by decide +kernel
theorem d3_3 : decode prog_37_method_2_code 3 = .ok (.ifCond .le 27, 3) := by decide +kernel
theorem d3_6 : decode prog_37_method_2_code 6 = .ok (.lload_n 1, 1) := by decide +kernel
theorem d3_7 : decode prog_37_method_2_code 7 = .ok (.aload_n 0, 1) := by decide +kernel
theorem d3_8 : decode prog_37_method_2_code 8 = .ok (.getfield 7, 3) := by decide +kernel
theorem d3_11 : decode prog_37_method_2_code 11 = .ok (.aload_n 0, 1) := by decide +kernel
theorem d3_12 : decode prog_37_method_2_code 12 = .ok (.getfield 13, 3) := by decide +kernel
theorem d3_15 : decode prog_37_method_2_code 15 = .ok (.lsub, 1) := by decide +kernel
theorem d3_16 : decode prog_37_method_2_code 16 = .ok (.lload_n 3, 1) := by decide +kernel
theorem d3_17 : decode prog_37_method_2_code 17 = .ok (.ldiv, 1) := by decide +kernel
theorem d3_18 : decode prog_37_method_2_code 18 = .ok (.lcmp, 1) := by decide +kernel
theorem d3_19 : decode prog_37_method_2_code 19 = .ok (.ifCond .le 11, 3) := by decide +kernel
theorem d3_22 : decode prog_37_method_2_code 22 = .ok (.aload_n 0, 1) := by decide +kernel
theorem d3_23 : decode prog_37_method_2_code 23 = .ok (.iconst 1, 1) := by decide +kernel
theorem d3_24 : decode prog_37_method_2_code 24 = .ok (.putfield 16, 3) := by decide +kernel
theorem d3_27 : decode prog_37_method_2_code 27 = .ok (.goto 15, 3) := by decide +kernel
theorem d3_30 : decode prog_37_method_2_code 30 = .ok (.aload_n 0, 1) := by decide +kernel
theorem d3_31 : decode prog_37_method_2_code 31 = .ok (.dup, 1) := by decide +kernel
theorem d3_32 : decode prog_37_method_2_code 32 = .ok (.getfield 13, 3) := by decide +kernel
theorem d3_35 : decode prog_37_method_2_code 35 = .ok (.lload_n 1, 1) := by decide +kernel
theorem d3_36 : decode prog_37_method_2_code 36 = .ok (.lload_n 3, 1) := by decide +kernel
theorem d3_37 : decode prog_37_method_2_code 37 = .ok (.lmul, 1) := by decide +kernel
theorem d3_38 : decode prog_37_method_2_code 38 = .ok (.ladd, 1) := by decide +kernel
theorem d3_39 : decode prog_37_method_2_code 39 = .ok (.putfield 13, 3) := by decide +kernel
theorem d3_42 : decode prog_37_method_2_code 42 = .ok (.return_, 1) := by decide +kernel
theorem ef_3 (m : MethodId) (x0 : Addr) (x1 : Int64) (x2 : Int64) : entryFrame m #[(.ref x0), (.long x1), (.long x2)] 5 = mkF m 0 #[.val (.ref x0), .val (.long x1), .second, .val (.long x2), .second] [] := by first | (simp [entryFrame, mkF, argsToLocals, Value.category]; done) | rfl
def own_f3_F_aa_count (y0 : Int64) (y1 : Int64) (y2 : Int32) (x1 : Int64) (x2 : Int64) : Int64 := (if (0 : Int64) < x2 then (if ((y0 - y1) / x2) < x1 then y1 else (y1 + (x1 * x2))) else (y1 + (x1 * x2)))
def own_f3_F_aa_exceeded (y0 : Int64) (y1 : Int64) (y2 : Int32) (x1 : Int64) (x2 : Int64) : Int32 := (if (0 : Int64) < x2 then (if ((y0 - y1) / x2) < x1 then (1 : Int32) else y2) else y2)
def Q3 (Z : State) (aa : Addr) (y0 : Int64) (y1 : Int64) (y2 : Int32) (x1 : Int64) (x2 : Int64) (h0 : Heap) (n0 : Nat) (v : Option Value) (h : Heap) (L : List Loc) : Prop := v = none ∧ Fr n0 L ∧ Keep h0 h [aa] ∧ Exa Z h aa "com/example/darta/darta/analysis/ReloadCount" ∧ Fld Z h aa "com/example/darta/darta/analysis/ReloadCount" "limit" "J" (.long y0) ∧ Fld Z h aa "com/example/darta/darta/analysis/ReloadCount" "count" "J" (.long (own_f3_F_aa_count y0 y1 y2 x1 x2)) ∧ Fld Z h aa "com/example/darta/darta/analysis/ReloadCount" "exceeded" "Z" (.int (own_f3_F_aa_exceeded y0 y1 y2 x1 x2))
set_option maxRecDepth 65536 in
set_option maxHeartbeats 40000000 in
theorem rm3 (l : Launch) (Z : State) (a0 : Array Value) (hw : ∀ d ∈ tables_1, d.before a0 Z = true) (ws : List Jvm.Cond) (aa : Addr) (y0 : Int64) (y1 : Int64) (y2 : Int32) (x1 : Int64) (x2 : Int64) (h0 : Heap) (n0 : Nat) (Z0 : n0 ≤ h0.size) (E_aa : Exa Z h0 aa "com/example/darta/darta/analysis/ReloadCount") (F_limit_aa : Fld Z h0 aa "com/example/darta/darta/analysis/ReloadCount" "limit" "J" (.long y0)) (F_count_aa : Fld Z h0 aa "com/example/darta/darta/analysis/ReloadCount" "count" "J" (.long y1)) (F_exceeded_aa : Fld Z h0 aa "com/example/darta/darta/analysis/ReloadCount" "exceeded" "Z" (.int y2)) (g_aa : n0 ≤ aa) :
    Con l (⟨"com/example/darta/darta/analysis/ReloadCount", "add", "(JJ)V"⟩ : MethodName) prog_37_method_2_code 5 none ws ({ frames := 0, cells := 0, slots := 0, locals := 0 } : Room) #[(.ref aa), (.long x1), (.long x2)] Z h0 (Q3 Z aa y0 y1 y2 x1 x2 h0 n0) ({ frames := 0, cells := 0, slots := 0, locals := 0 } : Room).cells ({ frames := 0, cells := 0, slots := 0, locals := 0 } : Room).slots := by
  refine own_body (plainFor_of_name pn_1) ?_
  intro p e s m below meth c s₁ hx hby hlk hml hown hnm hrt hZ X0 e0
  have w : ∀ (k : Nat) (d : Jvm.Cond), tables_1[k]? = some d → d.before a0 Z = true := fun k d h => hw d (List.mem_of_getElem? h)
  have N0 := Fr.nil n0
  have K0 := Keep.refl h0 [aa]
  rw [ef_3]
  generalize hOWE : Owe s _ _ _ = OWE
  refine o_lloadN X0 hx (hb hby d3_0) (pc' := 1) rfl rfl ?_
  refine o_lconst X0 hx (0 : Int64) (hb hby d3_1) (pc' := 2) rfl (by decide) ?_
  refine o_lcmp X0 hx (hb hby d3_2) (pc' := 3) rfl ?_
  by_cases hc3_1 : (0 : Int64) < x2
  · refine o_ifN X0 hx (hb hby d3_3) (tltL hc3_1).2.2.2 (pc' := 6) rfl ?_
    refine o_lloadN X0 hx (hb hby d3_6) (pc' := 7) rfl rfl ?_
    refine o_aloadN X0 hx (hb hby d3_7) (pc' := 8) rfl rfl rfl ?_
    refine o_getF X0 hx hZ hown (w 10 _ rfl) e0 F_limit_aa (hb hby d3_8) (pc' := 11) rfl ?_
    intro T2 X2 e2
    refine o_aloadN X2 hx (hb hby d3_11) (pc' := 12) rfl rfl rfl ?_
    refine o_getF X2 hx hZ hown (w 17 _ rfl) e2 F_count_aa (hb hby d3_12) (pc' := 15) rfl ?_
    intro T3 X3 e3
    refine o_lsub X3 hx (hb hby d3_15) (pc' := 16) rfl ?_
    refine o_lloadN X3 hx (hb hby d3_16) (pc' := 17) rfl rfl ?_
    refine o_ldiv X3 hx (hb hby d3_17) (pc' := 18) rfl (own_posJ hc3_1) ?_
    refine o_lcmp X3 hx (hb hby d3_18) (pc' := 19) rfl ?_
    by_cases hc19_4 : ((y0 - y1) / x2) < x1
    · refine o_ifN X3 hx (hb hby d3_19) (tltL hc19_4).2.2.2 (pc' := 22) rfl ?_
      refine o_aloadN X3 hx (hb hby d3_22) (pc' := 23) rfl rfl rfl ?_
      refine o_iconst X3 hx (1 : Int32) (hb hby d3_23) (pc' := 24) rfl (by decide) ?_
      refine o_putF X3 hx hZ hown (w 19 _ rfl) e3 F_exceeded_aa E_aa (Or.inl (w 20 _ rfl)) (w 2 _ rfl) (ty := .boolean) (by decide) rfl rfl (hb hby d3_24) (pc' := 27) rfl ?_
      intro T5 h5 X5 e5 W5
      have Fw5 := Fld.same W5 F_exceeded_aa
      have E6_aa := Exa.wr W5 E_aa
      have F6_aa_limit := Fld.other W5 F_limit_aa (Or.inr (slot_ne (C := "com/example/darta/darta/analysis/ReloadCount") (a0 := a0) (Or.inr (w 11 _ rfl)) (Or.inl (w 20 _ rfl)) (by decide) (t := .long) (t' := .boolean) (by decide) (by decide)))
      have F6_aa_count := Fld.other W5 F_count_aa (Or.inr (slot_ne (C := "com/example/darta/darta/analysis/ReloadCount") (a0 := a0) (Or.inl (w 18 _ rfl)) (Or.inl (w 20 _ rfl)) (by decide) (t := .long) (t' := .boolean) (by decide) (by decide)))
      have N5 := Fr.snoc X5 N0 g_aa
      have Z5 : n0 ≤ h5.size := by rw [W5.size]; exact Z0
      have K5 := Keep.wr K0 W5 (Or.inl (List.mem_of_getElem? (i := 0) rfl))
      refine o_goto X5 hx (hb hby d3_27) (by decide) (pc' := 42) (by decide) ?_
      rw [← hOWE]
      exact o_retV X5 hx hlk hrt (hb hby d3_42) (by decide) (by decide) (by rw [e5]; exact ⟨rfl, N5, K5, E6_aa, F6_aa_limit, (by rw [own_f3_F_aa_count, if_pos hc3_1, if_pos hc19_4]; exact F6_aa_count), (by rw [own_f3_F_aa_exceeded, if_pos hc3_1, if_pos hc19_4]; exact Fw5)⟩)
    · refine o_ifY X3 hx (hb hby d3_19) (fltL hc19_4).2.2.2 (by decide) (pc' := 30) (by decide) ?_
      refine o_aloadN X3 hx (hb hby d3_30) (pc' := 31) rfl rfl rfl ?_
      refine o_dup X3 hx (hb hby d3_31) (pc' := 32) rfl rfl ?_
      refine o_getF X3 hx hZ hown (w 17 _ rfl) e3 F_count_aa (hb hby d3_32) (pc' := 35) rfl ?_
      intro T7 X7 e7
      refine o_lloadN X7 hx (hb hby d3_35) (pc' := 36) rfl rfl ?_
      refine o_lloadN X7 hx (hb hby d3_36) (pc' := 37) rfl rfl ?_
      refine o_lmul X7 hx (hb hby d3_37) (pc' := 38) rfl ?_
      refine o_ladd X7 hx (hb hby d3_38) (pc' := 39) rfl ?_
      refine o_putF X7 hx hZ hown (w 17 _ rfl) e7 F_count_aa E_aa (Or.inl (w 18 _ rfl)) (w 2 _ rfl) (ty := .long) (by decide) rfl rfl (hb hby d3_39) (pc' := 42) rfl ?_
      intro T8 h8 X8 e8 W8
      have Fw8 := Fld.same W8 F_count_aa
      have E9_aa := Exa.wr W8 E_aa
      have F9_aa_limit := Fld.other W8 F_limit_aa (Or.inr (slot_ne (C := "com/example/darta/darta/analysis/ReloadCount") (a0 := a0) (Or.inr (w 11 _ rfl)) (Or.inl (w 18 _ rfl)) (by decide) (t := .long) (t' := .long) (by decide) (by decide)))
      have F9_aa_exceeded := Fld.other W8 F_exceeded_aa (Or.inr (slot_ne (C := "com/example/darta/darta/analysis/ReloadCount") (a0 := a0) (Or.inl (w 20 _ rfl)) (Or.inl (w 18 _ rfl)) (by decide) (t := .boolean) (t' := .long) (by decide) (by decide)))
      have N8 := Fr.snoc X8 N0 g_aa
      have Z8 : n0 ≤ h8.size := by rw [W8.size]; exact Z0
      have K8 := Keep.wr K0 W8 (Or.inl (List.mem_of_getElem? (i := 0) rfl))
      rw [← hOWE]
      exact o_retV X8 hx hlk hrt (hb hby d3_42) (by decide) (by decide) (by rw [e8]; exact ⟨rfl, N8, K8, E9_aa, F9_aa_limit, (by rw [own_f3_F_aa_count, if_pos hc3_1, if_neg hc19_4]; exact Fw8), (by rw [own_f3_F_aa_exceeded, if_pos hc3_1, if_neg hc19_4]; exact F9_aa_exceeded)⟩)
  · refine o_ifY X0 hx (hb hby d3_3) (fltL hc3_1).2.2.2 (by decide) (pc' := 30) (by decide) ?_
    refine o_aloadN X0 hx (hb hby d3_30) (pc' := 31) rfl rfl rfl ?_
    refine o_dup X0 hx (hb hby d3_31) (pc' := 32) rfl rfl ?_
    refine o_getF X0 hx hZ hown (w 17 _ rfl) e0 F_count_aa (hb hby d3_32) (pc' := 35) rfl ?_
    intro T10 X10 e10
    refine o_lloadN X10 hx (hb hby d3_35) (pc' := 36) rfl rfl ?_
    refine o_lloadN X10 hx (hb hby d3_36) (pc' := 37) rfl rfl ?_
    refine o_lmul X10 hx (hb hby d3_37) (pc' := 38) rfl ?_
    refine o_ladd X10 hx (hb hby d3_38) (pc' := 39) rfl ?_
    refine o_putF X10 hx hZ hown (w 17 _ rfl) e10 F_count_aa E_aa (Or.inl (w 18 _ rfl)) (w 2 _ rfl) (ty := .long) (by decide) rfl rfl (hb hby d3_39) (pc' := 42) rfl ?_
    intro T11 h11 X11 e11 W11
    have Fw11 := Fld.same W11 F_count_aa
    have E12_aa := Exa.wr W11 E_aa
    have F12_aa_limit := Fld.other W11 F_limit_aa (Or.inr (slot_ne (C := "com/example/darta/darta/analysis/ReloadCount") (a0 := a0) (Or.inr (w 11 _ rfl)) (Or.inl (w 18 _ rfl)) (by decide) (t := .long) (t' := .long) (by decide) (by decide)))
    have F12_aa_exceeded := Fld.other W11 F_exceeded_aa (Or.inr (slot_ne (C := "com/example/darta/darta/analysis/ReloadCount") (a0 := a0) (Or.inl (w 20 _ rfl)) (Or.inl (w 18 _ rfl)) (by decide) (t := .boolean) (t' := .long) (by decide) (by decide)))
    have N11 := Fr.snoc X11 N0 g_aa
    have Z11 : n0 ≤ h11.size := by rw [W11.size]; exact Z0
    have K11 := Keep.wr K0 W11 (Or.inl (List.mem_of_getElem? (i := 0) rfl))
    rw [← hOWE]
    exact o_retV X11 hx hlk hrt (hb hby d3_42) (by decide) (by decide) (by rw [e11]; exact ⟨rfl, N11, K11, E12_aa, F12_aa_limit, (by rw [own_f3_F_aa_count, if_neg hc3_1]; exact Fw11), (by rw [own_f3_F_aa_exceeded, if_neg hc3_1]; exact F12_aa_exceeded)⟩)
theorem d4_0 : decode method_2_code 0 = .ok (.lload_n 0, 1) := by decide +kernel
theorem d4_1 : decode method_2_code 1 = .ok (.lconst 0, 1) := by decide +kernel
theorem d4_2 : decode method_2_code 2 = .ok (.lcmp, 1) := by decide +kernel
theorem d4_3 : decode method_2_code 3 = .ok (.ifCond .eq 16, 3) := by decide +kernel
theorem d4_6 : decode method_2_code 6 = .ok (.lload_n 2, 1) := by decide +kernel
theorem d4_7 : decode method_2_code 7 = .ok (.lload 4, 2) := by decide +kernel
theorem d4_9 : decode method_2_code 9 = .ok (.lload_n 0, 1) := by decide +kernel
theorem d4_10 : decode method_2_code 10 = .ok (.ldiv, 1) := by decide +kernel
theorem d4_11 : decode method_2_code 11 = .ok (.lcmp, 1) := by decide +kernel
theorem d4_12 : decode method_2_code 12 = .ok (.ifCond .le 7, 3) := by decide +kernel
theorem d4_15 : decode method_2_code 15 = .ok (.iconst 1, 1) := by decide +kernel
theorem d4_16 : decode method_2_code 16 = .ok (.goto 4, 3) := by decide +kernel
theorem d4_19 : decode method_2_code 19 = .ok (.iconst 0, 1) := by decide +kernel
theorem d4_20 : decode method_2_code 20 = .ok (.ireturn, 1) := by decide +kernel
theorem pn_4 : plainName "com/example/darta/darta/analysis/ReloadCountAddPinLaw" = true := by first | (simp [plainName, overriddenIn]; done) | decide +kernel
theorem ef_4 (m : MethodId) (x0 : Int64) (x1 : Int64) (x2 : Int64) : entryFrame m #[(.long x0), (.long x1), (.long x2)] 6 = mkF m 0 #[.val (.long x0), .second, .val (.long x1), .second, .val (.long x2), .second] [] := by first | (simp [entryFrame, mkF, argsToLocals, Value.category]; done) | rfl
def own_f4_ret (x1 : Int64) (x2 : Int64) (x3 : Int64) : Int32 := (if x1 = (0 : Int64) then (0 : Int32) else (if (x3 / x1) < x2 then (1 : Int32) else (0 : Int32)))
theorem own_f4_ret_01 (x1 : Int64) (x2 : Int64) (x3 : Int64) : (own_f4_ret x1 x2 x3) = 0 ∨ (own_f4_ret x1 x2 x3) = 1 := by
  unfold own_f4_ret
  repeat' split
  all_goals first | exact Or.inl rfl | exact Or.inr rfl
def Q4 (Z : State) (x1 : Int64) (x2 : Int64) (x3 : Int64) (h0 : Heap) (n0 : Nat) (v : Option Value) (h : Heap) (L : List Loc) : Prop := v = some (.int (own_f4_ret x1 x2 x3)) ∧ Fr n0 L ∧ h = h0
set_option maxRecDepth 65536 in
set_option maxHeartbeats 40000000 in
theorem rm4 (l : Launch) (Z : State) (a0 : Array Value) (hw : ∀ d ∈ tables_1, d.before a0 Z = true) (ws : List Jvm.Cond) (x1 : Int64) (x2 : Int64) (x3 : Int64) (h0 : Heap) (n0 : Nat) (Z0 : n0 ≤ h0.size)  :
    Con l (⟨"com/example/darta/darta/analysis/ReloadCountAddPinLaw", "over", "(JJJ)Z"⟩ : MethodName) method_2_code 6 (some .boolean) ws ({ frames := 0, cells := 0, slots := 0, locals := 0 } : Room) #[(.long x1), (.long x2), (.long x3)] Z h0 (Q4 Z x1 x2 x3 h0 n0) ({ frames := 0, cells := 0, slots := 0, locals := 0 } : Room).cells ({ frames := 0, cells := 0, slots := 0, locals := 0 } : Room).slots := by
  refine own_body (plainFor_of_name pn_4) ?_
  intro p e s m below meth c s₁ hx hby hlk hml hown hnm hrt hZ X0 e0
  have w : ∀ (k : Nat) (d : Jvm.Cond), tables_1[k]? = some d → d.before a0 Z = true := fun k d h => hw d (List.mem_of_getElem? h)
  have N0 := Fr.nil n0
  rw [ef_4]
  generalize hOWE : Owe s _ _ _ = OWE
  refine o_lloadN X0 hx (hb hby d4_0) (pc' := 1) rfl rfl ?_
  refine o_lconst X0 hx (0 : Int64) (hb hby d4_1) (pc' := 2) rfl (by decide) ?_
  refine o_lcmp X0 hx (hb hby d4_2) (pc' := 3) rfl ?_
  by_cases hc3_1 : x1 = (0 : Int64)
  · refine o_ifY X0 hx (hb hby d4_3) (teqL hc3_1).1 (by decide) (pc' := 19) (by decide) ?_
    refine o_iconst X0 hx (0 : Int32) (hb hby d4_19) (pc' := 20) rfl (by decide) ?_
    rw [← hOWE]
    exact o_retZ X0 hx rfl hlk hrt (hb hby d4_20) (by decide) (by decide) (by rw [e0]; exact ⟨(by rw [own_f4_ret, if_pos hc3_1]), N0, rfl⟩)
  · refine o_ifN X0 hx (hb hby d4_3) (feqL hc3_1).1 (pc' := 6) rfl ?_
    refine o_lloadN X0 hx (hb hby d4_6) (pc' := 7) rfl rfl ?_
    refine o_lload X0 hx (hb hby d4_7) (pc' := 9) rfl rfl ?_
    refine o_lloadN X0 hx (hb hby d4_9) (pc' := 10) rfl rfl ?_
    refine o_ldiv X0 hx (hb hby d4_10) (pc' := 11) rfl hc3_1 ?_
    refine o_lcmp X0 hx (hb hby d4_11) (pc' := 12) rfl ?_
    by_cases hc12_2 : (x3 / x1) < x2
    · refine o_ifN X0 hx (hb hby d4_12) (tltL hc12_2).2.2.2 (pc' := 15) rfl ?_
      refine o_iconst X0 hx (1 : Int32) (hb hby d4_15) (pc' := 16) rfl (by decide) ?_
      refine o_goto X0 hx (hb hby d4_16) (by decide) (pc' := 20) (by decide) ?_
      rw [← hOWE]
      exact o_retZ X0 hx rfl hlk hrt (hb hby d4_20) (by decide) (by decide) (by rw [e0]; exact ⟨(by rw [own_f4_ret, if_neg hc3_1, if_pos hc12_2]), N0, rfl⟩)
    · refine o_ifY X0 hx (hb hby d4_12) (fltL hc12_2).2.2.2 (by decide) (pc' := 19) (by decide) ?_
      refine o_iconst X0 hx (0 : Int32) (hb hby d4_19) (pc' := 20) rfl (by decide) ?_
      rw [← hOWE]
      exact o_retZ X0 hx rfl hlk hrt (hb hby d4_20) (by decide) (by decide) (by rw [e0]; exact ⟨(by rw [own_f4_ret, if_neg hc3_1, if_neg hc12_2]), N0, rfl⟩)
theorem d5_0 : decode prog_37_method_9_code 0 = .ok (.aload_n 0, 1) := by decide +kernel
theorem d5_1 : decode prog_37_method_9_code 1 = .ok (.getfield 13, 3) := by decide +kernel
theorem d5_4 : decode prog_37_method_9_code 4 = .ok (.lreturn, 1) := by decide +kernel
theorem ef_5 (m : MethodId) (x0 : Addr) : entryFrame m #[(.ref x0)] 1 = mkF m 0 #[.val (.ref x0)] [] := by first | (simp [entryFrame, mkF, argsToLocals, Value.category]; done) | rfl
def Q5 (Z : State) (aa : Addr) (y1 : Int64) (h0 : Heap) (n0 : Nat) (v : Option Value) (h : Heap) (L : List Loc) : Prop := v = some (.long y1) ∧ Fr n0 L ∧ h = h0
set_option maxRecDepth 65536 in
set_option maxHeartbeats 40000000 in
theorem rm5 (l : Launch) (Z : State) (a0 : Array Value) (hw : ∀ d ∈ tables_1, d.before a0 Z = true) (ws : List Jvm.Cond) (aa : Addr) (y1 : Int64) (h0 : Heap) (n0 : Nat) (Z0 : n0 ≤ h0.size) (F_count_aa : Fld Z h0 aa "com/example/darta/darta/analysis/ReloadCount" "count" "J" (.long y1)) :
    Con l (⟨"com/example/darta/darta/analysis/ReloadCount", "count", "()J"⟩ : MethodName) prog_37_method_9_code 1 (some .long) ws ({ frames := 0, cells := 0, slots := 0, locals := 0 } : Room) #[(.ref aa)] Z h0 (Q5 Z aa y1 h0 n0) ({ frames := 0, cells := 0, slots := 0, locals := 0 } : Room).cells ({ frames := 0, cells := 0, slots := 0, locals := 0 } : Room).slots := by
  refine own_body (plainFor_of_name pn_1) ?_
  intro p e s m below meth c s₁ hx hby hlk hml hown hnm hrt hZ X0 e0
  have w : ∀ (k : Nat) (d : Jvm.Cond), tables_1[k]? = some d → d.before a0 Z = true := fun k d h => hw d (List.mem_of_getElem? h)
  have N0 := Fr.nil n0
  rw [ef_5]
  generalize hOWE : Owe s _ _ _ = OWE
  refine o_aloadN X0 hx (hb hby d5_0) (pc' := 1) rfl rfl rfl ?_
  refine o_getF X0 hx hZ hown (w 17 _ rfl) e0 F_count_aa (hb hby d5_1) (pc' := 4) rfl ?_
  intro T1 X1 e1
  rw [← hOWE]
  exact o_retJ X1 hx hlk hrt (hb hby d5_4) (by decide) (by decide) (by rw [e1]; exact ⟨rfl, N0, rfl⟩)
theorem d6_0 : decode prog_37_method_8_code 0 = .ok (.aload_n 0, 1) := by decide +kernel
theorem d6_1 : decode prog_37_method_8_code 1 = .ok (.getfield 16, 3) := by decide +kernel
theorem d6_4 : decode prog_37_method_8_code 4 = .ok (.ireturn, 1) := by decide +kernel
theorem ef_6 (m : MethodId) (x0 : Addr) : entryFrame m #[(.ref x0)] 1 = mkF m 0 #[.val (.ref x0)] [] := by first | (simp [entryFrame, mkF, argsToLocals, Value.category]; done) | rfl
def Q6 (Z : State) (aa : Addr) (y2 : Int32) (h0 : Heap) (n0 : Nat) (v : Option Value) (h : Heap) (L : List Loc) : Prop := v = some (.int y2) ∧ Fr n0 L ∧ h = h0
set_option maxRecDepth 65536 in
set_option maxHeartbeats 40000000 in
theorem rm6 (l : Launch) (Z : State) (a0 : Array Value) (hw : ∀ d ∈ tables_1, d.before a0 Z = true) (ws : List Jvm.Cond) (aa : Addr) (y2 : Int32) (h0 : Heap) (n0 : Nat) (Z0 : n0 ≤ h0.size) (F_exceeded_aa : Fld Z h0 aa "com/example/darta/darta/analysis/ReloadCount" "exceeded" "Z" (.int y2)) (hz : narrow .boolean (.int y2) = .int y2) :
    Con l (⟨"com/example/darta/darta/analysis/ReloadCount", "exceeded", "()Z"⟩ : MethodName) prog_37_method_8_code 1 (some .boolean) ws ({ frames := 0, cells := 0, slots := 0, locals := 0 } : Room) #[(.ref aa)] Z h0 (Q6 Z aa y2 h0 n0) ({ frames := 0, cells := 0, slots := 0, locals := 0 } : Room).cells ({ frames := 0, cells := 0, slots := 0, locals := 0 } : Room).slots := by
  refine own_body (plainFor_of_name pn_1) ?_
  intro p e s m below meth c s₁ hx hby hlk hml hown hnm hrt hZ X0 e0
  have w : ∀ (k : Nat) (d : Jvm.Cond), tables_1[k]? = some d → d.before a0 Z = true := fun k d h => hw d (List.mem_of_getElem? h)
  have N0 := Fr.nil n0
  rw [ef_6]
  generalize hOWE : Owe s _ _ _ = OWE
  refine o_aloadN X0 hx (hb hby d6_0) (pc' := 1) rfl rfl rfl ?_
  refine o_getF X0 hx hZ hown (w 19 _ rfl) e0 F_exceeded_aa (hb hby d6_1) (pc' := 4) rfl ?_
  intro T1 X1 e1
  rw [← hOWE]
  exact o_retZ X1 hx hz hlk hrt (hb hby d6_4) (by decide) (by decide) (by rw [e1]; exact ⟨rfl, N0, rfl⟩)
theorem d7_0 : decode prog_37_method_6_code 0 = .ok (.aload_n 0, 1) := by decide +kernel
theorem d7_1 : decode prog_37_method_6_code 1 = .ok (.getfield 7, 3) := by decide +kernel
theorem d7_4 : decode prog_37_method_6_code 4 = .ok (.aload_n 0, 1) := by decide +kernel
theorem d7_5 : decode prog_37_method_6_code 5 = .ok (.getfield 13, 3) := by decide +kernel
theorem d7_8 : decode prog_37_method_6_code 8 = .ok (.lsub, 1) := by decide +kernel
theorem d7_9 : decode prog_37_method_6_code 9 = .ok (.lreturn, 1) := by decide +kernel
theorem ef_7 (m : MethodId) (x0 : Addr) : entryFrame m #[(.ref x0)] 1 = mkF m 0 #[.val (.ref x0)] [] := by first | (simp [entryFrame, mkF, argsToLocals, Value.category]; done) | rfl
def Q7 (Z : State) (aa : Addr) (y0 : Int64) (y1 : Int64) (h0 : Heap) (n0 : Nat) (v : Option Value) (h : Heap) (L : List Loc) : Prop := v = some (.long (y0 - y1)) ∧ Fr n0 L ∧ h = h0
set_option maxRecDepth 65536 in
set_option maxHeartbeats 40000000 in
theorem rm7 (l : Launch) (Z : State) (a0 : Array Value) (hw : ∀ d ∈ tables_1, d.before a0 Z = true) (ws : List Jvm.Cond) (aa : Addr) (y0 : Int64) (y1 : Int64) (h0 : Heap) (n0 : Nat) (Z0 : n0 ≤ h0.size) (F_limit_aa : Fld Z h0 aa "com/example/darta/darta/analysis/ReloadCount" "limit" "J" (.long y0)) (F_count_aa : Fld Z h0 aa "com/example/darta/darta/analysis/ReloadCount" "count" "J" (.long y1)) :
    Con l (⟨"com/example/darta/darta/analysis/ReloadCount", "left", "()J"⟩ : MethodName) prog_37_method_6_code 1 (some .long) ws ({ frames := 0, cells := 0, slots := 0, locals := 0 } : Room) #[(.ref aa)] Z h0 (Q7 Z aa y0 y1 h0 n0) ({ frames := 0, cells := 0, slots := 0, locals := 0 } : Room).cells ({ frames := 0, cells := 0, slots := 0, locals := 0 } : Room).slots := by
  refine own_body (plainFor_of_name pn_1) ?_
  intro p e s m below meth c s₁ hx hby hlk hml hown hnm hrt hZ X0 e0
  have w : ∀ (k : Nat) (d : Jvm.Cond), tables_1[k]? = some d → d.before a0 Z = true := fun k d h => hw d (List.mem_of_getElem? h)
  have N0 := Fr.nil n0
  rw [ef_7]
  generalize hOWE : Owe s _ _ _ = OWE
  refine o_aloadN X0 hx (hb hby d7_0) (pc' := 1) rfl rfl rfl ?_
  refine o_getF X0 hx hZ hown (w 10 _ rfl) e0 F_limit_aa (hb hby d7_1) (pc' := 4) rfl ?_
  intro T1 X1 e1
  refine o_aloadN X1 hx (hb hby d7_4) (pc' := 5) rfl rfl rfl ?_
  refine o_getF X1 hx hZ hown (w 17 _ rfl) e1 F_count_aa (hb hby d7_5) (pc' := 8) rfl ?_
  intro T2 X2 e2
  refine o_lsub X2 hx (hb hby d7_8) (pc' := 9) rfl ?_
  rw [← hOWE]
  exact o_retJ X2 hx hlk hrt (hb hby d7_9) (by decide) (by decide) (by rw [e2]; exact ⟨rfl, N0, rfl⟩)
theorem own_ex01 {y0 y1 : Int64} {y2 : Int32} {x1 x2 : Int64} (h : y2 = 0 ∨ y2 = 1) : own_f3_F_aa_exceeded y0 y1 y2 x1 x2 = 0 ∨ own_f3_F_aa_exceeded y0 y1 y2 x1 x2 = 1 := by
  unfold own_f3_F_aa_exceeded
  split
  · split
    · exact Or.inr rfl
    · exact h
  · exact h
theorem ef_0 (m : MethodId) (x0 : Int64) (x1 : Int64) (x2 : Int64) (x3 : Int64) (x4 : Int64) (x5 : Int32) : entryFrame m #[(.long x0), (.long x1), (.long x2), (.long x3), (.long x4), (.int x5)] maxLocals = mkF m 0 #[.val (.long x0), .second, .val (.long x1), .second, .val (.long x2), .second, .val (.long x3), .second, .val (.long x4), .second, .val (.int x5), .unset, .unset, .unset, .unset, .unset, .unset, .unset, .unset, .unset, .unset, .unset, .unset, .unset, .unset, .unset, .unset, .unset, .unset, .unset, .unset] [] := by first | (simp [entryFrame, mkF, argsToLocals, Value.category, maxLocals]; done) | rfl
def own_law_x0 (q0 : Int64) (q1 : Int64) (q2 : Int64) (q3 : Int64) (q4 : Int64) (q5 : Int32) : Int64 := (uL (q0 &&& (9223372036854775807 : Int64)) (q5 &&& (63 : Int32)))
def own_law_x1 (q0 : Int64) (q1 : Int64) (q2 : Int64) (q3 : Int64) (q4 : Int64) (q5 : Int32) : Int64 := (uL (q1 &&& (9223372036854775807 : Int64)) ((uI q5 (6 : Int32)) &&& (63 : Int32)))
def own_law_x2 (q0 : Int64) (q1 : Int64) (q2 : Int64) (q3 : Int64) (q4 : Int64) (q5 : Int32) : Int64 := (uL (q2 &&& (9223372036854775807 : Int64)) ((uI q5 (12 : Int32)) &&& (63 : Int32)))
def own_law_x3 (q0 : Int64) (q1 : Int64) (q2 : Int64) (q3 : Int64) (q4 : Int64) (q5 : Int32) : Int64 := (uL (q3 &&& (9223372036854775807 : Int64)) ((uI q5 (18 : Int32)) &&& (63 : Int32)))
def own_law_x4 (q0 : Int64) (q1 : Int64) (q2 : Int64) (q3 : Int64) (q4 : Int64) (q5 : Int32) : Int64 := (uL (q4 &&& (9223372036854775807 : Int64)) ((uI q5 (24 : Int32)) &&& (63 : Int32)))
def own_law_x5 (q0 : Int64) (q1 : Int64) (q2 : Int64) (q3 : Int64) (q4 : Int64) (q5 : Int32) : Int32 := (own_f4_ret (own_law_x1 q0 q1 q2 q3 q4 q5) (own_law_x2 q0 q1 q2 q3 q4 q5) (own_law_x0 q0 q1 q2 q3 q4 q5))
def own_law_v125_1_S0 (q0 : Int64) (q1 : Int64) (q2 : Int64) (q3 : Int64) (q4 : Int64) (q5 : Int32) : Int64 := (if (own_law_x5 q0 q1 q2 q3 q4 q5) = (0 : Int32) then ((own_law_x1 q0 q1 q2 q3 q4 q5) * (own_law_x2 q0 q1 q2 q3 q4 q5)) else (0 : Int64))
def own_law_v153_2_S0 (q0 : Int64) (q1 : Int64) (q2 : Int64) (q3 : Int64) (q4 : Int64) (q5 : Int32) : Int32 := (if (own_f3_F_aa_count (own_law_x0 q0 q1 q2 q3 q4 q5) (0 : Int64) (0 : Int32) (own_law_x1 q0 q1 q2 q3 q4 q5) (own_law_x2 q0 q1 q2 q3 q4 q5)) = (own_law_v125_1_S0 q0 q1 q2 q3 q4 q5) then (if (own_f3_F_aa_exceeded (own_law_x0 q0 q1 q2 q3 q4 q5) (0 : Int64) (0 : Int32) (own_law_x1 q0 q1 q2 q3 q4 q5) (own_law_x2 q0 q1 q2 q3 q4 q5)) = (own_law_x5 q0 q1 q2 q3 q4 q5) then (1 : Int32) else (0 : Int32)) else (0 : Int32))
theorem own_law_v153_2_S0_01 (q0 : Int64) (q1 : Int64) (q2 : Int64) (q3 : Int64) (q4 : Int64) (q5 : Int32) : (own_law_v153_2_S0 q0 q1 q2 q3 q4 q5) = 0 ∨ (own_law_v153_2_S0 q0 q1 q2 q3 q4 q5) = 1 := by
  unfold own_law_v153_2_S0
  repeat' split
  all_goals first | exact Or.inl rfl | exact Or.inr rfl
def own_law_x6 (q0 : Int64) (q1 : Int64) (q2 : Int64) (q3 : Int64) (q4 : Int64) (q5 : Int32) : Int64 := ((own_law_x0 q0 q1 q2 q3 q4 q5) - (own_law_v125_1_S0 q0 q1 q2 q3 q4 q5))
def own_law_x7 (q0 : Int64) (q1 : Int64) (q2 : Int64) (q3 : Int64) (q4 : Int64) (q5 : Int32) : Int32 := (own_f4_ret (own_law_x3 q0 q1 q2 q3 q4 q5) (own_law_x4 q0 q1 q2 q3 q4 q5) (own_law_x6 q0 q1 q2 q3 q4 q5))
def own_law_v200_3_S0 (q0 : Int64) (q1 : Int64) (q2 : Int64) (q3 : Int64) (q4 : Int64) (q5 : Int32) : Int64 := (if (own_law_x7 q0 q1 q2 q3 q4 q5) = (0 : Int32) then ((own_law_v125_1_S0 q0 q1 q2 q3 q4 q5) + ((own_law_x3 q0 q1 q2 q3 q4 q5) * (own_law_x4 q0 q1 q2 q3 q4 q5))) else (own_law_v125_1_S0 q0 q1 q2 q3 q4 q5))
def own_law_v238_4_S0 (q0 : Int64) (q1 : Int64) (q2 : Int64) (q3 : Int64) (q4 : Int64) (q5 : Int32) : Int32 := (if (own_law_x5 q0 q1 q2 q3 q4 q5) = (0 : Int32) then (if (own_law_x7 q0 q1 q2 q3 q4 q5) = (0 : Int32) then (0 : Int32) else (1 : Int32)) else (1 : Int32))
theorem own_law_v238_4_S0_01 (q0 : Int64) (q1 : Int64) (q2 : Int64) (q3 : Int64) (q4 : Int64) (q5 : Int32) : (own_law_v238_4_S0 q0 q1 q2 q3 q4 q5) = 0 ∨ (own_law_v238_4_S0 q0 q1 q2 q3 q4 q5) = 1 := by
  unfold own_law_v238_4_S0
  repeat' split
  all_goals first | exact Or.inl rfl | exact Or.inr rfl
def own_law_ret_j238_4 (q0 : Int64) (q1 : Int64) (q2 : Int64) (q3 : Int64) (q4 : Int64) (q5 : Int32) : Int32 := (if (own_f3_F_aa_exceeded (own_law_x0 q0 q1 q2 q3 q4 q5) (own_f3_F_aa_count (own_law_x0 q0 q1 q2 q3 q4 q5) (0 : Int64) (0 : Int32) (own_law_x1 q0 q1 q2 q3 q4 q5) (own_law_x2 q0 q1 q2 q3 q4 q5)) (own_f3_F_aa_exceeded (own_law_x0 q0 q1 q2 q3 q4 q5) (0 : Int64) (0 : Int32) (own_law_x1 q0 q1 q2 q3 q4 q5) (own_law_x2 q0 q1 q2 q3 q4 q5)) (own_law_x3 q0 q1 q2 q3 q4 q5) (own_law_x4 q0 q1 q2 q3 q4 q5)) = (own_law_v238_4_S0 q0 q1 q2 q3 q4 q5) then (if ((own_law_x0 q0 q1 q2 q3 q4 q5) - (own_f3_F_aa_count (own_law_x0 q0 q1 q2 q3 q4 q5) (own_f3_F_aa_count (own_law_x0 q0 q1 q2 q3 q4 q5) (0 : Int64) (0 : Int32) (own_law_x1 q0 q1 q2 q3 q4 q5) (own_law_x2 q0 q1 q2 q3 q4 q5)) (own_f3_F_aa_exceeded (own_law_x0 q0 q1 q2 q3 q4 q5) (0 : Int64) (0 : Int32) (own_law_x1 q0 q1 q2 q3 q4 q5) (own_law_x2 q0 q1 q2 q3 q4 q5)) (own_law_x3 q0 q1 q2 q3 q4 q5) (own_law_x4 q0 q1 q2 q3 q4 q5))) = ((own_law_x0 q0 q1 q2 q3 q4 q5) - (own_law_v200_3_S0 q0 q1 q2 q3 q4 q5)) then (1 : Int32) else (0 : Int32)) else (0 : Int32))
def own_law_ret_j200_3 (q0 : Int64) (q1 : Int64) (q2 : Int64) (q3 : Int64) (q4 : Int64) (q5 : Int32) : Int32 := (if (own_law_v153_2_S0 q0 q1 q2 q3 q4 q5) = (0 : Int32) then (0 : Int32) else (if (own_f3_F_aa_count (own_law_x0 q0 q1 q2 q3 q4 q5) (own_f3_F_aa_count (own_law_x0 q0 q1 q2 q3 q4 q5) (0 : Int64) (0 : Int32) (own_law_x1 q0 q1 q2 q3 q4 q5) (own_law_x2 q0 q1 q2 q3 q4 q5)) (own_f3_F_aa_exceeded (own_law_x0 q0 q1 q2 q3 q4 q5) (0 : Int64) (0 : Int32) (own_law_x1 q0 q1 q2 q3 q4 q5) (own_law_x2 q0 q1 q2 q3 q4 q5)) (own_law_x3 q0 q1 q2 q3 q4 q5) (own_law_x4 q0 q1 q2 q3 q4 q5)) = (own_law_v200_3_S0 q0 q1 q2 q3 q4 q5) then (own_law_ret_j238_4 q0 q1 q2 q3 q4 q5) else (0 : Int32)))
def own_law_ret_j153_2 (q0 : Int64) (q1 : Int64) (q2 : Int64) (q3 : Int64) (q4 : Int64) (q5 : Int32) : Int32 := (own_law_ret_j200_3 q0 q1 q2 q3 q4 q5)
def own_law_ret_j125_1 (q0 : Int64) (q1 : Int64) (q2 : Int64) (q3 : Int64) (q4 : Int64) (q5 : Int32) : Int32 := (own_law_ret_j153_2 q0 q1 q2 q3 q4 q5)
def own_law_ret (q0 : Int64) (q1 : Int64) (q2 : Int64) (q3 : Int64) (q4 : Int64) (q5 : Int32) : Int32 := (own_law_ret_j125_1 q0 q1 q2 q3 q4 q5)
def Q0 (Z : State) (q0 : Int64) (q1 : Int64) (q2 : Int64) (q3 : Int64) (q4 : Int64) (q5 : Int32) (h0 : Heap) (n0 : Nat) (v : Option Value) (h : Heap) (L : List Loc) : Prop := v = some (.int (own_law_ret q0 q1 q2 q3 q4 q5)) ∧ Fr n0 L
set_option maxRecDepth 65536 in
set_option maxHeartbeats 40000000 in
theorem rm0 (l : Launch) (Z : State) (a0 : Array Value) (hw : ∀ d ∈ tables_1, d.before a0 Z = true) (ws : List Jvm.Cond) (q0 : Int64) (q1 : Int64) (q2 : Int64) (q3 : Int64) (q4 : Int64) (q5 : Int32) (h0 : Heap) (n0 : Nat) (Z0 : n0 ≤ h0.size)  :
    Con l x code maxLocals ret ws room_1 #[(.long q0), (.long q1), (.long q2), (.long q3), (.long q4), (.int q5)] Z h0 (Q0 Z q0 q1 q2 q3 q4 q5 h0 n0) 1 3 := by
  refine own_body (plainFor_of_name pn_4) ?_
  intro p e s m below meth c s₁ hx hby hlk hml hown hnm hrt hZ X0 e0
  have w : ∀ (k : Nat) (d : Jvm.Cond), tables_1[k]? = some d → d.before a0 Z = true := fun k d h => hw d (List.mem_of_getElem? h)
  have N0 := Fr.nil n0
  have hml : c.maxLocals = 31 := hml
  rw [ef_0]
  generalize hOWE : Owe s _ _ _ = OWE
  refine o_lloadN X0 hx (hb hby at_0) (pc' := 1) rfl rfl ?_
  refine o_ldcJ X0 hx hZ (9223372036854775807 : Int64) hown (w 0 _ rfl) (hb hby at_1) (pc' := 4) rfl ?_
  refine o_land X0 hx (hb hby at_4) (pc' := 5) rfl ?_
  refine o_iload X0 hx (hb hby at_5) (pc' := 7) rfl rfl ?_
  refine o_bipush X0 hx (63 : Int32) (hb hby at_7) (pc' := 9) rfl (by decide) ?_
  refine o_iand X0 hx (hb hby at_9) (pc' := 10) rfl ?_
  refine o_lushr X0 hx (hb hby at_10) (pc' := 11) rfl ?_
  refine o_lstore (x := (own_law_x0 q0 q1 q2 q3 q4 q5)) X0 hx (hb hby at_11) (pc' := 13) rfl (L' := #[.val (.long q0), .second, .val (.long q1), .second, .val (.long q2), .second, .val (.long q3), .second, .val (.long q4), .second, .val (.int q5), .val (.long (own_law_x0 q0 q1 q2 q3 q4 q5)), .second, .unset, .unset, .unset, .unset, .unset, .unset, .unset, .unset, .unset, .unset, .unset, .unset, .unset, .unset, .unset, .unset, .unset, .unset]) rfl ?_
  refine o_lloadN X0 hx (hb hby at_13) (pc' := 14) rfl rfl ?_
  refine o_ldcJ X0 hx hZ (9223372036854775807 : Int64) hown (w 0 _ rfl) (hb hby at_14) (pc' := 17) rfl ?_
  refine o_land X0 hx (hb hby at_17) (pc' := 18) rfl ?_
  refine o_iload X0 hx (hb hby at_18) (pc' := 20) rfl rfl ?_
  refine o_bipush X0 hx (6 : Int32) (hb hby at_20) (pc' := 22) rfl (by decide) ?_
  refine o_iushr X0 hx (hb hby at_22) (pc' := 23) rfl ?_
  refine o_bipush X0 hx (63 : Int32) (hb hby at_23) (pc' := 25) rfl (by decide) ?_
  refine o_iand X0 hx (hb hby at_25) (pc' := 26) rfl ?_
  refine o_lushr X0 hx (hb hby at_26) (pc' := 27) rfl ?_
  refine o_lstore (x := (own_law_x1 q0 q1 q2 q3 q4 q5)) X0 hx (hb hby at_27) (pc' := 29) rfl (L' := #[.val (.long q0), .second, .val (.long q1), .second, .val (.long q2), .second, .val (.long q3), .second, .val (.long q4), .second, .val (.int q5), .val (.long (own_law_x0 q0 q1 q2 q3 q4 q5)), .second, .val (.long (own_law_x1 q0 q1 q2 q3 q4 q5)), .second, .unset, .unset, .unset, .unset, .unset, .unset, .unset, .unset, .unset, .unset, .unset, .unset, .unset, .unset, .unset, .unset]) rfl ?_
  refine o_lload X0 hx (hb hby at_29) (pc' := 31) rfl rfl ?_
  refine o_ldcJ X0 hx hZ (9223372036854775807 : Int64) hown (w 0 _ rfl) (hb hby at_31) (pc' := 34) rfl ?_
  refine o_land X0 hx (hb hby at_34) (pc' := 35) rfl ?_
  refine o_iload X0 hx (hb hby at_35) (pc' := 37) rfl rfl ?_
  refine o_bipush X0 hx (12 : Int32) (hb hby at_37) (pc' := 39) rfl (by decide) ?_
  refine o_iushr X0 hx (hb hby at_39) (pc' := 40) rfl ?_
  refine o_bipush X0 hx (63 : Int32) (hb hby at_40) (pc' := 42) rfl (by decide) ?_
  refine o_iand X0 hx (hb hby at_42) (pc' := 43) rfl ?_
  refine o_lushr X0 hx (hb hby at_43) (pc' := 44) rfl ?_
  refine o_lstore (x := (own_law_x2 q0 q1 q2 q3 q4 q5)) X0 hx (hb hby at_44) (pc' := 46) rfl (L' := #[.val (.long q0), .second, .val (.long q1), .second, .val (.long q2), .second, .val (.long q3), .second, .val (.long q4), .second, .val (.int q5), .val (.long (own_law_x0 q0 q1 q2 q3 q4 q5)), .second, .val (.long (own_law_x1 q0 q1 q2 q3 q4 q5)), .second, .val (.long (own_law_x2 q0 q1 q2 q3 q4 q5)), .second, .unset, .unset, .unset, .unset, .unset, .unset, .unset, .unset, .unset, .unset, .unset, .unset, .unset, .unset]) rfl ?_
  refine o_lload X0 hx (hb hby at_46) (pc' := 48) rfl rfl ?_
  refine o_ldcJ X0 hx hZ (9223372036854775807 : Int64) hown (w 0 _ rfl) (hb hby at_48) (pc' := 51) rfl ?_
  refine o_land X0 hx (hb hby at_51) (pc' := 52) rfl ?_
  refine o_iload X0 hx (hb hby at_52) (pc' := 54) rfl rfl ?_
  refine o_bipush X0 hx (18 : Int32) (hb hby at_54) (pc' := 56) rfl (by decide) ?_
  refine o_iushr X0 hx (hb hby at_56) (pc' := 57) rfl ?_
  refine o_bipush X0 hx (63 : Int32) (hb hby at_57) (pc' := 59) rfl (by decide) ?_
  refine o_iand X0 hx (hb hby at_59) (pc' := 60) rfl ?_
  refine o_lushr X0 hx (hb hby at_60) (pc' := 61) rfl ?_
  refine o_lstore (x := (own_law_x3 q0 q1 q2 q3 q4 q5)) X0 hx (hb hby at_61) (pc' := 63) rfl (L' := #[.val (.long q0), .second, .val (.long q1), .second, .val (.long q2), .second, .val (.long q3), .second, .val (.long q4), .second, .val (.int q5), .val (.long (own_law_x0 q0 q1 q2 q3 q4 q5)), .second, .val (.long (own_law_x1 q0 q1 q2 q3 q4 q5)), .second, .val (.long (own_law_x2 q0 q1 q2 q3 q4 q5)), .second, .val (.long (own_law_x3 q0 q1 q2 q3 q4 q5)), .second, .unset, .unset, .unset, .unset, .unset, .unset, .unset, .unset, .unset, .unset, .unset, .unset]) rfl ?_
  refine o_lload X0 hx (hb hby at_63) (pc' := 65) rfl rfl ?_
  refine o_ldcJ X0 hx hZ (9223372036854775807 : Int64) hown (w 0 _ rfl) (hb hby at_65) (pc' := 68) rfl ?_
  refine o_land X0 hx (hb hby at_68) (pc' := 69) rfl ?_
  refine o_iload X0 hx (hb hby at_69) (pc' := 71) rfl rfl ?_
  refine o_bipush X0 hx (24 : Int32) (hb hby at_71) (pc' := 73) rfl (by decide) ?_
  refine o_iushr X0 hx (hb hby at_73) (pc' := 74) rfl ?_
  refine o_bipush X0 hx (63 : Int32) (hb hby at_74) (pc' := 76) rfl (by decide) ?_
  refine o_iand X0 hx (hb hby at_76) (pc' := 77) rfl ?_
  refine o_lushr X0 hx (hb hby at_77) (pc' := 78) rfl ?_
  refine o_lstore (x := (own_law_x4 q0 q1 q2 q3 q4 q5)) X0 hx (hb hby at_78) (pc' := 80) rfl (L' := #[.val (.long q0), .second, .val (.long q1), .second, .val (.long q2), .second, .val (.long q3), .second, .val (.long q4), .second, .val (.int q5), .val (.long (own_law_x0 q0 q1 q2 q3 q4 q5)), .second, .val (.long (own_law_x1 q0 q1 q2 q3 q4 q5)), .second, .val (.long (own_law_x2 q0 q1 q2 q3 q4 q5)), .second, .val (.long (own_law_x3 q0 q1 q2 q3 q4 q5)), .second, .val (.long (own_law_x4 q0 q1 q2 q3 q4 q5)), .second, .unset, .unset, .unset, .unset, .unset, .unset, .unset, .unset, .unset, .unset]) rfl ?_
  refine o_new X0 hx hZ hown (w 1 _ rfl) (w 2 _ rfl) (w 3 _ rfl) e0 (hb hby at_80) (pc' := 83) rfl (cells' := 1) rfl (slots' := 3) rfl (by decide) (by decide) ?_
  intro T1 h1 b1 qa1 X1 e1 Ex1 A1 D1
  have g_b1 : n0 ≤ b1 := by rw [qa1]; exact Z0
  have Z1 : n0 ≤ h1.size := Nat.le_trans Z0 Ex1.1
  have D1_limit : Fld Z h1 b1 "com/example/darta/darta/analysis/ReloadCount" "limit" "J" (.long (0 : Int64)) := D1 (Or.inr (w 11 _ rfl)) (ty := .long) (by decide)
  have D1_count : Fld Z h1 b1 "com/example/darta/darta/analysis/ReloadCount" "count" "J" (.long (0 : Int64)) := D1 (Or.inl (w 18 _ rfl)) (ty := .long) (by decide)
  have D1_exceeded : Fld Z h1 b1 "com/example/darta/darta/analysis/ReloadCount" "exceeded" "Z" (.int (0 : Int32)) := D1 (Or.inl (w 20 _ rfl)) (ty := .boolean) (by decide)
  refine o_dup X1 hx (hb hby at_83) (pc' := 84) rfl rfl ?_
  refine o_lload X1 hx (hb hby at_84) (pc' := 86) rfl rfl ?_
  refine o_callI X1 hx hZ 1 (argsL := [.long (own_law_x0 q0 q1 q2 q3 q4 q5)]) (rest := [.ref b1]) (a := b1) rfl hown (w 4 _ rfl) (w 5 _ rfl) (w 3 _ rfl) (w 6 _ rfl) (by decide) (rm1 l Z a0 hw [] b1 (.long (0 : Int64)) (0 : Int64) (0 : Int32) (own_law_x0 q0 q1 q2 q3 q4 q5) h1 n0 Z1 A1 D1_limit D1_count D1_exceeded g_b1) (by decide) (by decide) (cells' := 1) rfl (slots' := 3) rfl (by decide) (by decide) e1 (by rw [hml]; rfl) (lenOf pd_0 rfl) rfl rfl (hb hby at_86) (pc' := 89) rfl ?_
  intro T3 v3 L3 X3 hQ3
  obtain ⟨rfl, Nq3, Kq3, P3_0, P3_1, P3_2, P3_3⟩ := hQ3
  have N3 := Fr.app N0 Nq3
  have Z3 : n0 ≤ T3.heap.size := Nat.le_trans Z1 Kq3.1
  show Go p e below _ (T3.setTop (mkF m 89 _ [.ref b1]))
  refine o_astore X3 hx (hb hby at_89) (pc' := 91) rfl (L' := #[.val (.long q0), .second, .val (.long q1), .second, .val (.long q2), .second, .val (.long q3), .second, .val (.long q4), .second, .val (.int q5), .val (.long (own_law_x0 q0 q1 q2 q3 q4 q5)), .second, .val (.long (own_law_x1 q0 q1 q2 q3 q4 q5)), .second, .val (.long (own_law_x2 q0 q1 q2 q3 q4 q5)), .second, .val (.long (own_law_x3 q0 q1 q2 q3 q4 q5)), .second, .val (.long (own_law_x4 q0 q1 q2 q3 q4 q5)), .second, .val (.ref b1), .unset, .unset, .unset, .unset, .unset, .unset, .unset, .unset, .unset]) rfl rfl ?_
  refine o_aload X3 hx (hb hby at_91) (pc' := 93) rfl rfl rfl ?_
  refine o_lload X3 hx (hb hby at_93) (pc' := 95) rfl rfl ?_
  refine o_lload X3 hx (hb hby at_95) (pc' := 97) rfl rfl ?_
  refine o_callV X3 hx hZ 0 (argsL := [.long (own_law_x1 q0 q1 q2 q3 q4 q5), .long (own_law_x2 q0 q1 q2 q3 q4 q5)]) (rest := []) (a := b1) hown (w 12 _ rfl) (w 13 _ rfl) (w 15 _ rfl) (w 14 _ rfl) (w 3 _ rfl) (w 16 _ rfl) (by decide) (rm3 l Z a0 hw [] b1 (own_law_x0 q0 q1 q2 q3 q4 q5) (0 : Int64) (0 : Int32) (own_law_x1 q0 q1 q2 q3 q4 q5) (own_law_x2 q0 q1 q2 q3 q4 q5) T3.heap n0 Z3 P3_0 P3_1 P3_2 P3_3 g_b1) P3_0 (by decide) (by decide) (cells' := 1) rfl (slots' := 3) rfl (by decide) (by decide) rfl (by rw [hml]; rfl) (lenOf pd_1 rfl) rfl rfl (hb hby at_97) (pc' := 100) rfl ?_
  intro T5 v5 L5 X5 hQ5
  obtain ⟨rfl, Nq5, Kq5, P5_0, P5_1, P5_2, P5_3⟩ := hQ5
  have N5 := Fr.app N3 Nq5
  have Z5 : n0 ≤ T5.heap.size := Nat.le_trans Z3 Kq5.1
  show Go p e below _ (T5.setTop (mkF m 100 _ []))
  refine o_lload X5 hx (hb hby at_100) (pc' := 102) rfl rfl ?_
  refine o_lload X5 hx (hb hby at_102) (pc' := 104) rfl rfl ?_
  refine o_lload X5 hx (hb hby at_104) (pc' := 106) rfl rfl ?_
  refine o_callS X5 hx hZ 0 (argsL := [.long (own_law_x1 q0 q1 q2 q3 q4 q5), .long (own_law_x2 q0 q1 q2 q3 q4 q5), .long (own_law_x0 q0 q1 q2 q3 q4 q5)]) (rest := []) hown (w 21 _ rfl) (w 22 _ rfl) (w 23 _ rfl) (w 24 _ rfl) (by decide) (rm4 l Z a0 hw [] (own_law_x1 q0 q1 q2 q3 q4 q5) (own_law_x2 q0 q1 q2 q3 q4 q5) (own_law_x0 q0 q1 q2 q3 q4 q5) T5.heap n0 Z5 ) (by decide) (by decide) (cells' := 1) rfl (slots' := 3) rfl (by decide) (by decide) rfl (by rw [hml]; rfl) (lenOf pd_2 rfl) rfl rfl (hb hby at_106) (pc' := 109) rfl ?_
  intro T7 v7 L7 X7 hQ7
  obtain ⟨rfl, Nq7, e7⟩ := hQ7
  have N7 := Fr.app N5 Nq7
  show Go p e below _ (T7.setTop (mkF m 109 _ [.int (own_f4_ret (own_law_x1 q0 q1 q2 q3 q4 q5) (own_law_x2 q0 q1 q2 q3 q4 q5) (own_law_x0 q0 q1 q2 q3 q4 q5))]))
  refine o_istore (x := (own_law_x5 q0 q1 q2 q3 q4 q5)) X7 hx (hb hby at_109) (pc' := 111) rfl (L' := #[.val (.long q0), .second, .val (.long q1), .second, .val (.long q2), .second, .val (.long q3), .second, .val (.long q4), .second, .val (.int q5), .val (.long (own_law_x0 q0 q1 q2 q3 q4 q5)), .second, .val (.long (own_law_x1 q0 q1 q2 q3 q4 q5)), .second, .val (.long (own_law_x2 q0 q1 q2 q3 q4 q5)), .second, .val (.long (own_law_x3 q0 q1 q2 q3 q4 q5)), .second, .val (.long (own_law_x4 q0 q1 q2 q3 q4 q5)), .second, .val (.ref b1), .val (.int (own_law_x5 q0 q1 q2 q3 q4 q5)), .unset, .unset, .unset, .unset, .unset, .unset, .unset, .unset]) rfl ?_
  refine o_iload X7 hx (hb hby at_111) (pc' := 113) rfl rfl ?_
  have J125_1 : ∀ (z0 : Int64), z0 = (own_law_v125_1_S0 q0 q1 q2 q3 q4 q5) → Go p e below OWE (T7.setTop (mkF m 125 #[.val (.long q0), .second, .val (.long q1), .second, .val (.long q2), .second, .val (.long q3), .second, .val (.long q4), .second, .val (.int q5), .val (.long (own_law_x0 q0 q1 q2 q3 q4 q5)), .second, .val (.long (own_law_x1 q0 q1 q2 q3 q4 q5)), .second, .val (.long (own_law_x2 q0 q1 q2 q3 q4 q5)), .second, .val (.long (own_law_x3 q0 q1 q2 q3 q4 q5)), .second, .val (.long (own_law_x4 q0 q1 q2 q3 q4 q5)), .second, .val (.ref b1), .val (.int (own_law_x5 q0 q1 q2 q3 q4 q5)), .unset, .unset, .unset, .unset, .unset, .unset, .unset, .unset] [.long z0])) := by
    intro z0 yy0
    subst yy0
    refine o_lstore X7 hx (hb hby at_125) (pc' := 127) rfl (L' := #[.val (.long q0), .second, .val (.long q1), .second, .val (.long q2), .second, .val (.long q3), .second, .val (.long q4), .second, .val (.int q5), .val (.long (own_law_x0 q0 q1 q2 q3 q4 q5)), .second, .val (.long (own_law_x1 q0 q1 q2 q3 q4 q5)), .second, .val (.long (own_law_x2 q0 q1 q2 q3 q4 q5)), .second, .val (.long (own_law_x3 q0 q1 q2 q3 q4 q5)), .second, .val (.long (own_law_x4 q0 q1 q2 q3 q4 q5)), .second, .val (.ref b1), .val (.int (own_law_x5 q0 q1 q2 q3 q4 q5)), .val (.long (own_law_v125_1_S0 q0 q1 q2 q3 q4 q5)), .second, .unset, .unset, .unset, .unset, .unset, .unset]) rfl ?_
    refine o_aload X7 hx (hb hby at_127) (pc' := 129) rfl rfl rfl ?_
    refine o_callV X7 hx hZ 0 (argsL := []) (rest := []) (a := b1) hown (w 25 _ rfl) (w 26 _ rfl) (w 28 _ rfl) (w 27 _ rfl) (w 3 _ rfl) (w 29 _ rfl) (by decide) (rm5 l Z a0 hw [] b1 (own_f3_F_aa_count (own_law_x0 q0 q1 q2 q3 q4 q5) (0 : Int64) (0 : Int32) (own_law_x1 q0 q1 q2 q3 q4 q5) (own_law_x2 q0 q1 q2 q3 q4 q5)) T5.heap n0 Z5 P5_2) P5_0 (by decide) (by decide) (cells' := 1) rfl (slots' := 3) rfl (by decide) (by decide) e7 (by rw [hml]; rfl) (lenOf pd_3 rfl) rfl rfl (hb hby at_129) (pc' := 132) rfl ?_
    intro T9 v9 L9 X9 hQ9
    obtain ⟨rfl, Nq9, e9⟩ := hQ9
    have N9 := Fr.app N7 Nq9
    show Go p e below _ (T9.setTop (mkF m 132 _ [.long (own_f3_F_aa_count (own_law_x0 q0 q1 q2 q3 q4 q5) (0 : Int64) (0 : Int32) (own_law_x1 q0 q1 q2 q3 q4 q5) (own_law_x2 q0 q1 q2 q3 q4 q5))]))
    refine o_lload X9 hx (hb hby at_132) (pc' := 134) rfl rfl ?_
    refine o_lcmp X9 hx (hb hby at_134) (pc' := 135) rfl ?_
    have J153_2 : ∀ (Tj153_2 : State) (lj153_2 : List Loc) (Xj153_2 : Stand p l e room_1 s m #[(.long q0), (.long q1), (.long q2), (.long q3), (.long q4), (.int q5)] below meth c Tj153_2 lj153_2 1 3) (ej153_2 : Tj153_2.heap = T5.heap) (Nj153_2 : Fr n0 lj153_2) (z0 : Int32), z0 = (own_law_v153_2_S0 q0 q1 q2 q3 q4 q5) → Go p e below OWE (Tj153_2.setTop (mkF m 153 #[.val (.long q0), .second, .val (.long q1), .second, .val (.long q2), .second, .val (.long q3), .second, .val (.long q4), .second, .val (.int q5), .val (.long (own_law_x0 q0 q1 q2 q3 q4 q5)), .second, .val (.long (own_law_x1 q0 q1 q2 q3 q4 q5)), .second, .val (.long (own_law_x2 q0 q1 q2 q3 q4 q5)), .second, .val (.long (own_law_x3 q0 q1 q2 q3 q4 q5)), .second, .val (.long (own_law_x4 q0 q1 q2 q3 q4 q5)), .second, .val (.ref b1), .val (.int (own_law_x5 q0 q1 q2 q3 q4 q5)), .val (.long (own_law_v125_1_S0 q0 q1 q2 q3 q4 q5)), .second, .unset, .unset, .unset, .unset, .unset, .unset] [.int z0])) := by
      intro Tj153_2 lj153_2 Xj153_2 ej153_2 Nj153_2 z0 yy0
      subst yy0
      refine o_istore Xj153_2 hx (hb hby at_153) (pc' := 155) rfl (L' := #[.val (.long q0), .second, .val (.long q1), .second, .val (.long q2), .second, .val (.long q3), .second, .val (.long q4), .second, .val (.int q5), .val (.long (own_law_x0 q0 q1 q2 q3 q4 q5)), .second, .val (.long (own_law_x1 q0 q1 q2 q3 q4 q5)), .second, .val (.long (own_law_x2 q0 q1 q2 q3 q4 q5)), .second, .val (.long (own_law_x3 q0 q1 q2 q3 q4 q5)), .second, .val (.long (own_law_x4 q0 q1 q2 q3 q4 q5)), .second, .val (.ref b1), .val (.int (own_law_x5 q0 q1 q2 q3 q4 q5)), .val (.long (own_law_v125_1_S0 q0 q1 q2 q3 q4 q5)), .second, .val (.int (own_law_v153_2_S0 q0 q1 q2 q3 q4 q5)), .unset, .unset, .unset, .unset, .unset]) rfl ?_
      refine o_aload Xj153_2 hx (hb hby at_155) (pc' := 157) rfl rfl rfl ?_
      refine o_lload Xj153_2 hx (hb hby at_157) (pc' := 159) rfl rfl ?_
      refine o_lload Xj153_2 hx (hb hby at_159) (pc' := 161) rfl rfl ?_
      refine o_callV Xj153_2 hx hZ 0 (argsL := [.long (own_law_x3 q0 q1 q2 q3 q4 q5), .long (own_law_x4 q0 q1 q2 q3 q4 q5)]) (rest := []) (a := b1) hown (w 12 _ rfl) (w 13 _ rfl) (w 15 _ rfl) (w 14 _ rfl) (w 3 _ rfl) (w 16 _ rfl) (by decide) (rm3 l Z a0 hw [] b1 (own_law_x0 q0 q1 q2 q3 q4 q5) (own_f3_F_aa_count (own_law_x0 q0 q1 q2 q3 q4 q5) (0 : Int64) (0 : Int32) (own_law_x1 q0 q1 q2 q3 q4 q5) (own_law_x2 q0 q1 q2 q3 q4 q5)) (own_f3_F_aa_exceeded (own_law_x0 q0 q1 q2 q3 q4 q5) (0 : Int64) (0 : Int32) (own_law_x1 q0 q1 q2 q3 q4 q5) (own_law_x2 q0 q1 q2 q3 q4 q5)) (own_law_x3 q0 q1 q2 q3 q4 q5) (own_law_x4 q0 q1 q2 q3 q4 q5) T5.heap n0 Z5 P5_0 P5_1 P5_2 P5_3 g_b1) P5_0 (by decide) (by decide) (cells' := 1) rfl (slots' := 3) rfl (by decide) (by decide) ej153_2 (by rw [hml]; rfl) (lenOf pd_1 rfl) rfl rfl (hb hby at_161) (pc' := 164) rfl ?_
      intro T11 v11 L11 X11 hQ11
      obtain ⟨rfl, Nq11, Kq11, P11_0, P11_1, P11_2, P11_3⟩ := hQ11
      have N11 := Fr.app Nj153_2 Nq11
      have Z11 : n0 ≤ T11.heap.size := Nat.le_trans Z5 Kq11.1
      show Go p e below _ (T11.setTop (mkF m 164 _ []))
      refine o_lload X11 hx (hb hby at_164) (pc' := 166) rfl rfl ?_
      refine o_lload X11 hx (hb hby at_166) (pc' := 168) rfl rfl ?_
      refine o_lsub X11 hx (hb hby at_168) (pc' := 169) rfl ?_
      refine o_lstore (x := (own_law_x6 q0 q1 q2 q3 q4 q5)) X11 hx (hb hby at_169) (pc' := 171) rfl (L' := #[.val (.long q0), .second, .val (.long q1), .second, .val (.long q2), .second, .val (.long q3), .second, .val (.long q4), .second, .val (.int q5), .val (.long (own_law_x0 q0 q1 q2 q3 q4 q5)), .second, .val (.long (own_law_x1 q0 q1 q2 q3 q4 q5)), .second, .val (.long (own_law_x2 q0 q1 q2 q3 q4 q5)), .second, .val (.long (own_law_x3 q0 q1 q2 q3 q4 q5)), .second, .val (.long (own_law_x4 q0 q1 q2 q3 q4 q5)), .second, .val (.ref b1), .val (.int (own_law_x5 q0 q1 q2 q3 q4 q5)), .val (.long (own_law_v125_1_S0 q0 q1 q2 q3 q4 q5)), .second, .val (.int (own_law_v153_2_S0 q0 q1 q2 q3 q4 q5)), .val (.long (own_law_x6 q0 q1 q2 q3 q4 q5)), .second, .unset, .unset, .unset]) rfl ?_
      refine o_lload X11 hx (hb hby at_171) (pc' := 173) rfl rfl ?_
      refine o_lload X11 hx (hb hby at_173) (pc' := 175) rfl rfl ?_
      refine o_lload X11 hx (hb hby at_175) (pc' := 177) rfl rfl ?_
      refine o_callS X11 hx hZ 0 (argsL := [.long (own_law_x3 q0 q1 q2 q3 q4 q5), .long (own_law_x4 q0 q1 q2 q3 q4 q5), .long (own_law_x6 q0 q1 q2 q3 q4 q5)]) (rest := []) hown (w 21 _ rfl) (w 22 _ rfl) (w 23 _ rfl) (w 24 _ rfl) (by decide) (rm4 l Z a0 hw [] (own_law_x3 q0 q1 q2 q3 q4 q5) (own_law_x4 q0 q1 q2 q3 q4 q5) (own_law_x6 q0 q1 q2 q3 q4 q5) T11.heap n0 Z11 ) (by decide) (by decide) (cells' := 1) rfl (slots' := 3) rfl (by decide) (by decide) rfl (by rw [hml]; rfl) (lenOf pd_2 rfl) rfl rfl (hb hby at_177) (pc' := 180) rfl ?_
      intro T13 v13 L13 X13 hQ13
      obtain ⟨rfl, Nq13, e13⟩ := hQ13
      have N13 := Fr.app N11 Nq13
      show Go p e below _ (T13.setTop (mkF m 180 _ [.int (own_f4_ret (own_law_x3 q0 q1 q2 q3 q4 q5) (own_law_x4 q0 q1 q2 q3 q4 q5) (own_law_x6 q0 q1 q2 q3 q4 q5))]))
      refine o_istore (x := (own_law_x7 q0 q1 q2 q3 q4 q5)) X13 hx (hb hby at_180) (pc' := 182) rfl (L' := #[.val (.long q0), .second, .val (.long q1), .second, .val (.long q2), .second, .val (.long q3), .second, .val (.long q4), .second, .val (.int q5), .val (.long (own_law_x0 q0 q1 q2 q3 q4 q5)), .second, .val (.long (own_law_x1 q0 q1 q2 q3 q4 q5)), .second, .val (.long (own_law_x2 q0 q1 q2 q3 q4 q5)), .second, .val (.long (own_law_x3 q0 q1 q2 q3 q4 q5)), .second, .val (.long (own_law_x4 q0 q1 q2 q3 q4 q5)), .second, .val (.ref b1), .val (.int (own_law_x5 q0 q1 q2 q3 q4 q5)), .val (.long (own_law_v125_1_S0 q0 q1 q2 q3 q4 q5)), .second, .val (.int (own_law_v153_2_S0 q0 q1 q2 q3 q4 q5)), .val (.long (own_law_x6 q0 q1 q2 q3 q4 q5)), .second, .val (.int (own_law_x7 q0 q1 q2 q3 q4 q5)), .unset, .unset]) rfl ?_
      refine o_iload X13 hx (hb hby at_182) (pc' := 184) rfl rfl ?_
      have J200_3 : ∀ (z0 : Int64), z0 = (own_law_v200_3_S0 q0 q1 q2 q3 q4 q5) → Go p e below OWE (T13.setTop (mkF m 200 #[.val (.long q0), .second, .val (.long q1), .second, .val (.long q2), .second, .val (.long q3), .second, .val (.long q4), .second, .val (.int q5), .val (.long (own_law_x0 q0 q1 q2 q3 q4 q5)), .second, .val (.long (own_law_x1 q0 q1 q2 q3 q4 q5)), .second, .val (.long (own_law_x2 q0 q1 q2 q3 q4 q5)), .second, .val (.long (own_law_x3 q0 q1 q2 q3 q4 q5)), .second, .val (.long (own_law_x4 q0 q1 q2 q3 q4 q5)), .second, .val (.ref b1), .val (.int (own_law_x5 q0 q1 q2 q3 q4 q5)), .val (.long (own_law_v125_1_S0 q0 q1 q2 q3 q4 q5)), .second, .val (.int (own_law_v153_2_S0 q0 q1 q2 q3 q4 q5)), .val (.long (own_law_x6 q0 q1 q2 q3 q4 q5)), .second, .val (.int (own_law_x7 q0 q1 q2 q3 q4 q5)), .unset, .unset] [.long z0])) := by
        intro z0 yy0
        subst yy0
        refine o_lstore X13 hx (hb hby at_200) (pc' := 202) rfl (L' := #[.val (.long q0), .second, .val (.long q1), .second, .val (.long q2), .second, .val (.long q3), .second, .val (.long q4), .second, .val (.int q5), .val (.long (own_law_x0 q0 q1 q2 q3 q4 q5)), .second, .val (.long (own_law_x1 q0 q1 q2 q3 q4 q5)), .second, .val (.long (own_law_x2 q0 q1 q2 q3 q4 q5)), .second, .val (.long (own_law_x3 q0 q1 q2 q3 q4 q5)), .second, .val (.long (own_law_x4 q0 q1 q2 q3 q4 q5)), .second, .val (.ref b1), .val (.int (own_law_x5 q0 q1 q2 q3 q4 q5)), .val (.long (own_law_v125_1_S0 q0 q1 q2 q3 q4 q5)), .second, .val (.int (own_law_v153_2_S0 q0 q1 q2 q3 q4 q5)), .val (.long (own_law_x6 q0 q1 q2 q3 q4 q5)), .second, .val (.int (own_law_x7 q0 q1 q2 q3 q4 q5)), .val (.long (own_law_v200_3_S0 q0 q1 q2 q3 q4 q5)), .second]) rfl ?_
        refine o_iload X13 hx (hb hby at_202) (pc' := 204) rfl rfl ?_
        by_cases hc204_15 : (own_law_v153_2_S0 q0 q1 q2 q3 q4 q5) = (0 : Int32)
        · refine o_ifY X13 hx (hb hby at_204) (teq hc204_15).1 (by decide) (pc' := 259) (by decide) ?_
          refine o_iconst X13 hx (0 : Int32) (hb hby at_259) (pc' := 260) rfl (by decide) ?_
          rw [← hOWE]
          exact o_retZ X13 hx rfl hlk hrt (hb hby at_260) (by decide) (by decide) (by rw [e13]; exact ⟨(by rw [own_law_ret, own_law_ret_j125_1, own_law_ret_j153_2, own_law_ret_j200_3, if_pos hc204_15]), N13⟩)
        · refine o_ifN X13 hx (hb hby at_204) (feq hc204_15).1 (pc' := 207) rfl ?_
          refine o_aload X13 hx (hb hby at_207) (pc' := 209) rfl rfl rfl ?_
          refine o_callV X13 hx hZ 0 (argsL := []) (rest := []) (a := b1) hown (w 25 _ rfl) (w 26 _ rfl) (w 28 _ rfl) (w 27 _ rfl) (w 3 _ rfl) (w 29 _ rfl) (by decide) (rm5 l Z a0 hw [] b1 (own_f3_F_aa_count (own_law_x0 q0 q1 q2 q3 q4 q5) (own_f3_F_aa_count (own_law_x0 q0 q1 q2 q3 q4 q5) (0 : Int64) (0 : Int32) (own_law_x1 q0 q1 q2 q3 q4 q5) (own_law_x2 q0 q1 q2 q3 q4 q5)) (own_f3_F_aa_exceeded (own_law_x0 q0 q1 q2 q3 q4 q5) (0 : Int64) (0 : Int32) (own_law_x1 q0 q1 q2 q3 q4 q5) (own_law_x2 q0 q1 q2 q3 q4 q5)) (own_law_x3 q0 q1 q2 q3 q4 q5) (own_law_x4 q0 q1 q2 q3 q4 q5)) T11.heap n0 Z11 P11_2) P11_0 (by decide) (by decide) (cells' := 1) rfl (slots' := 3) rfl (by decide) (by decide) e13 (by rw [hml]; rfl) (lenOf pd_3 rfl) rfl rfl (hb hby at_209) (pc' := 212) rfl ?_
          intro T16 v16 L16 X16 hQ16
          obtain ⟨rfl, Nq16, e16⟩ := hQ16
          have N16 := Fr.app N13 Nq16
          show Go p e below _ (T16.setTop (mkF m 212 _ [.long (own_f3_F_aa_count (own_law_x0 q0 q1 q2 q3 q4 q5) (own_f3_F_aa_count (own_law_x0 q0 q1 q2 q3 q4 q5) (0 : Int64) (0 : Int32) (own_law_x1 q0 q1 q2 q3 q4 q5) (own_law_x2 q0 q1 q2 q3 q4 q5)) (own_f3_F_aa_exceeded (own_law_x0 q0 q1 q2 q3 q4 q5) (0 : Int64) (0 : Int32) (own_law_x1 q0 q1 q2 q3 q4 q5) (own_law_x2 q0 q1 q2 q3 q4 q5)) (own_law_x3 q0 q1 q2 q3 q4 q5) (own_law_x4 q0 q1 q2 q3 q4 q5))]))
          refine o_lload X16 hx (hb hby at_212) (pc' := 214) rfl rfl ?_
          refine o_lcmp X16 hx (hb hby at_214) (pc' := 215) rfl ?_
          by_cases hc215_17 : (own_f3_F_aa_count (own_law_x0 q0 q1 q2 q3 q4 q5) (own_f3_F_aa_count (own_law_x0 q0 q1 q2 q3 q4 q5) (0 : Int64) (0 : Int32) (own_law_x1 q0 q1 q2 q3 q4 q5) (own_law_x2 q0 q1 q2 q3 q4 q5)) (own_f3_F_aa_exceeded (own_law_x0 q0 q1 q2 q3 q4 q5) (0 : Int64) (0 : Int32) (own_law_x1 q0 q1 q2 q3 q4 q5) (own_law_x2 q0 q1 q2 q3 q4 q5)) (own_law_x3 q0 q1 q2 q3 q4 q5) (own_law_x4 q0 q1 q2 q3 q4 q5)) = (own_law_v200_3_S0 q0 q1 q2 q3 q4 q5)
          · refine o_ifN X16 hx (hb hby at_215) (teqL hc215_17).2 (pc' := 218) rfl ?_
            refine o_aload X16 hx (hb hby at_218) (pc' := 220) rfl rfl rfl ?_
            refine o_callV X16 hx hZ 0 (argsL := []) (rest := []) (a := b1) hown (w 30 _ rfl) (w 31 _ rfl) (w 33 _ rfl) (w 32 _ rfl) (w 3 _ rfl) (w 34 _ rfl) (by decide) (rm6 l Z a0 hw [] b1 (own_f3_F_aa_exceeded (own_law_x0 q0 q1 q2 q3 q4 q5) (own_f3_F_aa_count (own_law_x0 q0 q1 q2 q3 q4 q5) (0 : Int64) (0 : Int32) (own_law_x1 q0 q1 q2 q3 q4 q5) (own_law_x2 q0 q1 q2 q3 q4 q5)) (own_f3_F_aa_exceeded (own_law_x0 q0 q1 q2 q3 q4 q5) (0 : Int64) (0 : Int32) (own_law_x1 q0 q1 q2 q3 q4 q5) (own_law_x2 q0 q1 q2 q3 q4 q5)) (own_law_x3 q0 q1 q2 q3 q4 q5) (own_law_x4 q0 q1 q2 q3 q4 q5)) T11.heap n0 Z11 P11_3 (own_narZ (own_ex01 (own_ex01 (Or.inl rfl))))) P11_0 (by decide) (by decide) (cells' := 1) rfl (slots' := 3) rfl (by decide) (by decide) e16 (by rw [hml]; rfl) (lenOf pd_4 rfl) rfl rfl (hb hby at_220) (pc' := 223) rfl ?_
            intro T18 v18 L18 X18 hQ18
            obtain ⟨rfl, Nq18, e18⟩ := hQ18
            have N18 := Fr.app N16 Nq18
            show Go p e below _ (T18.setTop (mkF m 223 _ [.int (own_f3_F_aa_exceeded (own_law_x0 q0 q1 q2 q3 q4 q5) (own_f3_F_aa_count (own_law_x0 q0 q1 q2 q3 q4 q5) (0 : Int64) (0 : Int32) (own_law_x1 q0 q1 q2 q3 q4 q5) (own_law_x2 q0 q1 q2 q3 q4 q5)) (own_f3_F_aa_exceeded (own_law_x0 q0 q1 q2 q3 q4 q5) (0 : Int64) (0 : Int32) (own_law_x1 q0 q1 q2 q3 q4 q5) (own_law_x2 q0 q1 q2 q3 q4 q5)) (own_law_x3 q0 q1 q2 q3 q4 q5) (own_law_x4 q0 q1 q2 q3 q4 q5))]))
            refine o_iload X18 hx (hb hby at_223) (pc' := 225) rfl rfl ?_
            have J238_4 : ∀ (z0 : Int32), z0 = (own_law_v238_4_S0 q0 q1 q2 q3 q4 q5) → Go p e below OWE (T18.setTop (mkF m 238 #[.val (.long q0), .second, .val (.long q1), .second, .val (.long q2), .second, .val (.long q3), .second, .val (.long q4), .second, .val (.int q5), .val (.long (own_law_x0 q0 q1 q2 q3 q4 q5)), .second, .val (.long (own_law_x1 q0 q1 q2 q3 q4 q5)), .second, .val (.long (own_law_x2 q0 q1 q2 q3 q4 q5)), .second, .val (.long (own_law_x3 q0 q1 q2 q3 q4 q5)), .second, .val (.long (own_law_x4 q0 q1 q2 q3 q4 q5)), .second, .val (.ref b1), .val (.int (own_law_x5 q0 q1 q2 q3 q4 q5)), .val (.long (own_law_v125_1_S0 q0 q1 q2 q3 q4 q5)), .second, .val (.int (own_law_v153_2_S0 q0 q1 q2 q3 q4 q5)), .val (.long (own_law_x6 q0 q1 q2 q3 q4 q5)), .second, .val (.int (own_law_x7 q0 q1 q2 q3 q4 q5)), .val (.long (own_law_v200_3_S0 q0 q1 q2 q3 q4 q5)), .second] [.int z0, .int (own_f3_F_aa_exceeded (own_law_x0 q0 q1 q2 q3 q4 q5) (own_f3_F_aa_count (own_law_x0 q0 q1 q2 q3 q4 q5) (0 : Int64) (0 : Int32) (own_law_x1 q0 q1 q2 q3 q4 q5) (own_law_x2 q0 q1 q2 q3 q4 q5)) (own_f3_F_aa_exceeded (own_law_x0 q0 q1 q2 q3 q4 q5) (0 : Int64) (0 : Int32) (own_law_x1 q0 q1 q2 q3 q4 q5) (own_law_x2 q0 q1 q2 q3 q4 q5)) (own_law_x3 q0 q1 q2 q3 q4 q5) (own_law_x4 q0 q1 q2 q3 q4 q5))])) := by
              intro z0 yy0
              subst yy0
              by_cases hc238_20 : (own_f3_F_aa_exceeded (own_law_x0 q0 q1 q2 q3 q4 q5) (own_f3_F_aa_count (own_law_x0 q0 q1 q2 q3 q4 q5) (0 : Int64) (0 : Int32) (own_law_x1 q0 q1 q2 q3 q4 q5) (own_law_x2 q0 q1 q2 q3 q4 q5)) (own_f3_F_aa_exceeded (own_law_x0 q0 q1 q2 q3 q4 q5) (0 : Int64) (0 : Int32) (own_law_x1 q0 q1 q2 q3 q4 q5) (own_law_x2 q0 q1 q2 q3 q4 q5)) (own_law_x3 q0 q1 q2 q3 q4 q5) (own_law_x4 q0 q1 q2 q3 q4 q5)) = (own_law_v238_4_S0 q0 q1 q2 q3 q4 q5)
              · refine o_cmpN X18 hx (hb hby at_238) (teq hc238_20).2 (pc' := 241) rfl ?_
                refine o_aload X18 hx (hb hby at_241) (pc' := 243) rfl rfl rfl ?_
                refine o_callV X18 hx hZ 0 (argsL := []) (rest := []) (a := b1) hown (w 35 _ rfl) (w 36 _ rfl) (w 38 _ rfl) (w 37 _ rfl) (w 3 _ rfl) (w 39 _ rfl) (by decide) (rm7 l Z a0 hw [] b1 (own_law_x0 q0 q1 q2 q3 q4 q5) (own_f3_F_aa_count (own_law_x0 q0 q1 q2 q3 q4 q5) (own_f3_F_aa_count (own_law_x0 q0 q1 q2 q3 q4 q5) (0 : Int64) (0 : Int32) (own_law_x1 q0 q1 q2 q3 q4 q5) (own_law_x2 q0 q1 q2 q3 q4 q5)) (own_f3_F_aa_exceeded (own_law_x0 q0 q1 q2 q3 q4 q5) (0 : Int64) (0 : Int32) (own_law_x1 q0 q1 q2 q3 q4 q5) (own_law_x2 q0 q1 q2 q3 q4 q5)) (own_law_x3 q0 q1 q2 q3 q4 q5) (own_law_x4 q0 q1 q2 q3 q4 q5)) T11.heap n0 Z11 P11_1 P11_2) P11_0 (by decide) (by decide) (cells' := 1) rfl (slots' := 3) rfl (by decide) (by decide) e18 (by rw [hml]; rfl) (lenOf pd_3 rfl) rfl rfl (hb hby at_243) (pc' := 246) rfl ?_
                intro T21 v21 L21 X21 hQ21
                obtain ⟨rfl, Nq21, e21⟩ := hQ21
                have N21 := Fr.app N18 Nq21
                show Go p e below _ (T21.setTop (mkF m 246 _ [.long ((own_law_x0 q0 q1 q2 q3 q4 q5) - (own_f3_F_aa_count (own_law_x0 q0 q1 q2 q3 q4 q5) (own_f3_F_aa_count (own_law_x0 q0 q1 q2 q3 q4 q5) (0 : Int64) (0 : Int32) (own_law_x1 q0 q1 q2 q3 q4 q5) (own_law_x2 q0 q1 q2 q3 q4 q5)) (own_f3_F_aa_exceeded (own_law_x0 q0 q1 q2 q3 q4 q5) (0 : Int64) (0 : Int32) (own_law_x1 q0 q1 q2 q3 q4 q5) (own_law_x2 q0 q1 q2 q3 q4 q5)) (own_law_x3 q0 q1 q2 q3 q4 q5) (own_law_x4 q0 q1 q2 q3 q4 q5)))]))
                refine o_lload X21 hx (hb hby at_246) (pc' := 248) rfl rfl ?_
                refine o_lload X21 hx (hb hby at_248) (pc' := 250) rfl rfl ?_
                refine o_lsub X21 hx (hb hby at_250) (pc' := 251) rfl ?_
                refine o_lcmp X21 hx (hb hby at_251) (pc' := 252) rfl ?_
                by_cases hc252_22 : ((own_law_x0 q0 q1 q2 q3 q4 q5) - (own_f3_F_aa_count (own_law_x0 q0 q1 q2 q3 q4 q5) (own_f3_F_aa_count (own_law_x0 q0 q1 q2 q3 q4 q5) (0 : Int64) (0 : Int32) (own_law_x1 q0 q1 q2 q3 q4 q5) (own_law_x2 q0 q1 q2 q3 q4 q5)) (own_f3_F_aa_exceeded (own_law_x0 q0 q1 q2 q3 q4 q5) (0 : Int64) (0 : Int32) (own_law_x1 q0 q1 q2 q3 q4 q5) (own_law_x2 q0 q1 q2 q3 q4 q5)) (own_law_x3 q0 q1 q2 q3 q4 q5) (own_law_x4 q0 q1 q2 q3 q4 q5))) = ((own_law_x0 q0 q1 q2 q3 q4 q5) - (own_law_v200_3_S0 q0 q1 q2 q3 q4 q5))
                · refine o_ifN X21 hx (hb hby at_252) (teqL hc252_22).2 (pc' := 255) rfl ?_
                  refine o_iconst X21 hx (1 : Int32) (hb hby at_255) (pc' := 256) rfl (by decide) ?_
                  refine o_goto X21 hx (hb hby at_256) (by decide) (pc' := 260) (by decide) ?_
                  rw [← hOWE]
                  exact o_retZ X21 hx rfl hlk hrt (hb hby at_260) (by decide) (by decide) (by rw [e21]; exact ⟨(by rw [own_law_ret, own_law_ret_j125_1, own_law_ret_j153_2, own_law_ret_j200_3, if_neg hc204_15, if_pos hc215_17, own_law_ret_j238_4, if_pos hc238_20, if_pos hc252_22]), N21⟩)
                · refine o_ifY X21 hx (hb hby at_252) (feqL hc252_22).2 (by decide) (pc' := 259) (by decide) ?_
                  refine o_iconst X21 hx (0 : Int32) (hb hby at_259) (pc' := 260) rfl (by decide) ?_
                  rw [← hOWE]
                  exact o_retZ X21 hx rfl hlk hrt (hb hby at_260) (by decide) (by decide) (by rw [e21]; exact ⟨(by rw [own_law_ret, own_law_ret_j125_1, own_law_ret_j153_2, own_law_ret_j200_3, if_neg hc204_15, if_pos hc215_17, own_law_ret_j238_4, if_pos hc238_20, if_neg hc252_22]), N21⟩)
              · refine o_cmpY X18 hx (hb hby at_238) (feq hc238_20).2 (by decide) (pc' := 259) (by decide) ?_
                refine o_iconst X18 hx (0 : Int32) (hb hby at_259) (pc' := 260) rfl (by decide) ?_
                rw [← hOWE]
                exact o_retZ X18 hx rfl hlk hrt (hb hby at_260) (by decide) (by decide) (by rw [e18]; exact ⟨(by rw [own_law_ret, own_law_ret_j125_1, own_law_ret_j153_2, own_law_ret_j200_3, if_neg hc204_15, if_pos hc215_17, own_law_ret_j238_4, if_neg hc238_20]), N18⟩)
            by_cases hc225_19 : (own_law_x5 q0 q1 q2 q3 q4 q5) = (0 : Int32)
            · refine o_ifN X18 hx (hb hby at_225) (teq hc225_19).2 (pc' := 228) rfl ?_
              refine o_iload X18 hx (hb hby at_228) (pc' := 230) rfl rfl ?_
              by_cases hc230_23 : (own_law_x7 q0 q1 q2 q3 q4 q5) = (0 : Int32)
              · refine o_ifY X18 hx (hb hby at_230) (teq hc230_23).1 (by decide) (pc' := 237) (by decide) ?_
                refine o_iconst X18 hx (0 : Int32) (hb hby at_237) (pc' := 238) rfl (by decide) ?_
                exact J238_4 ((0 : Int32)) (by rw [own_law_v238_4_S0, if_pos hc225_19, if_pos hc230_23])
              · refine o_ifN X18 hx (hb hby at_230) (feq hc230_23).1 (pc' := 233) rfl ?_
                refine o_iconst X18 hx (1 : Int32) (hb hby at_233) (pc' := 234) rfl (by decide) ?_
                refine o_goto X18 hx (hb hby at_234) (by decide) (pc' := 238) (by decide) ?_
                exact J238_4 ((1 : Int32)) (by rw [own_law_v238_4_S0, if_pos hc225_19, if_neg hc230_23])
            · refine o_ifY X18 hx (hb hby at_225) (feq hc225_19).2 (by decide) (pc' := 233) (by decide) ?_
              refine o_iconst X18 hx (1 : Int32) (hb hby at_233) (pc' := 234) rfl (by decide) ?_
              refine o_goto X18 hx (hb hby at_234) (by decide) (pc' := 238) (by decide) ?_
              exact J238_4 ((1 : Int32)) (by rw [own_law_v238_4_S0, if_neg hc225_19])
          · refine o_ifY X16 hx (hb hby at_215) (feqL hc215_17).2 (by decide) (pc' := 259) (by decide) ?_
            refine o_iconst X16 hx (0 : Int32) (hb hby at_259) (pc' := 260) rfl (by decide) ?_
            rw [← hOWE]
            exact o_retZ X16 hx rfl hlk hrt (hb hby at_260) (by decide) (by decide) (by rw [e16]; exact ⟨(by rw [own_law_ret, own_law_ret_j125_1, own_law_ret_j153_2, own_law_ret_j200_3, if_neg hc204_15, if_neg hc215_17]), N16⟩)
      by_cases hc184_14 : (own_law_x7 q0 q1 q2 q3 q4 q5) = (0 : Int32)
      · refine o_ifY X13 hx (hb hby at_184) (teq hc184_14).1 (by decide) (pc' := 192) (by decide) ?_
        refine o_lload X13 hx (hb hby at_192) (pc' := 194) rfl rfl ?_
        refine o_lload X13 hx (hb hby at_194) (pc' := 196) rfl rfl ?_
        refine o_lload X13 hx (hb hby at_196) (pc' := 198) rfl rfl ?_
        refine o_lmul X13 hx (hb hby at_198) (pc' := 199) rfl ?_
        refine o_ladd X13 hx (hb hby at_199) (pc' := 200) rfl ?_
        exact J200_3 (((own_law_v125_1_S0 q0 q1 q2 q3 q4 q5) + ((own_law_x3 q0 q1 q2 q3 q4 q5) * (own_law_x4 q0 q1 q2 q3 q4 q5)))) (by rw [own_law_v200_3_S0, if_pos hc184_14])
      · refine o_ifN X13 hx (hb hby at_184) (feq hc184_14).1 (pc' := 187) rfl ?_
        refine o_lload X13 hx (hb hby at_187) (pc' := 189) rfl rfl ?_
        refine o_goto X13 hx (hb hby at_189) (by decide) (pc' := 200) (by decide) ?_
        exact J200_3 ((own_law_v125_1_S0 q0 q1 q2 q3 q4 q5)) (by rw [own_law_v200_3_S0, if_neg hc184_14])
    by_cases hc135_10 : (own_f3_F_aa_count (own_law_x0 q0 q1 q2 q3 q4 q5) (0 : Int64) (0 : Int32) (own_law_x1 q0 q1 q2 q3 q4 q5) (own_law_x2 q0 q1 q2 q3 q4 q5)) = (own_law_v125_1_S0 q0 q1 q2 q3 q4 q5)
    · refine o_ifN X9 hx (hb hby at_135) (teqL hc135_10).2 (pc' := 138) rfl ?_
      refine o_aload X9 hx (hb hby at_138) (pc' := 140) rfl rfl rfl ?_
      refine o_callV X9 hx hZ 0 (argsL := []) (rest := []) (a := b1) hown (w 30 _ rfl) (w 31 _ rfl) (w 33 _ rfl) (w 32 _ rfl) (w 3 _ rfl) (w 34 _ rfl) (by decide) (rm6 l Z a0 hw [] b1 (own_f3_F_aa_exceeded (own_law_x0 q0 q1 q2 q3 q4 q5) (0 : Int64) (0 : Int32) (own_law_x1 q0 q1 q2 q3 q4 q5) (own_law_x2 q0 q1 q2 q3 q4 q5)) T5.heap n0 Z5 P5_3 (own_narZ (own_ex01 (Or.inl rfl)))) P5_0 (by decide) (by decide) (cells' := 1) rfl (slots' := 3) rfl (by decide) (by decide) e9 (by rw [hml]; rfl) (lenOf pd_4 rfl) rfl rfl (hb hby at_140) (pc' := 143) rfl ?_
      intro T24 v24 L24 X24 hQ24
      obtain ⟨rfl, Nq24, e24⟩ := hQ24
      have N24 := Fr.app N9 Nq24
      show Go p e below _ (T24.setTop (mkF m 143 _ [.int (own_f3_F_aa_exceeded (own_law_x0 q0 q1 q2 q3 q4 q5) (0 : Int64) (0 : Int32) (own_law_x1 q0 q1 q2 q3 q4 q5) (own_law_x2 q0 q1 q2 q3 q4 q5))]))
      refine o_iload X24 hx (hb hby at_143) (pc' := 145) rfl rfl ?_
      by_cases hc145_25 : (own_f3_F_aa_exceeded (own_law_x0 q0 q1 q2 q3 q4 q5) (0 : Int64) (0 : Int32) (own_law_x1 q0 q1 q2 q3 q4 q5) (own_law_x2 q0 q1 q2 q3 q4 q5)) = (own_law_x5 q0 q1 q2 q3 q4 q5)
      · refine o_cmpN X24 hx (hb hby at_145) (teq hc145_25).2 (pc' := 148) rfl ?_
        refine o_iconst X24 hx (1 : Int32) (hb hby at_148) (pc' := 149) rfl (by decide) ?_
        refine o_goto X24 hx (hb hby at_149) (by decide) (pc' := 153) (by decide) ?_
        exact J153_2 _ _ X24 e24 N24 ((1 : Int32)) (by rw [own_law_v153_2_S0, if_pos hc135_10, if_pos hc145_25])
      · refine o_cmpY X24 hx (hb hby at_145) (feq hc145_25).2 (by decide) (pc' := 152) (by decide) ?_
        refine o_iconst X24 hx (0 : Int32) (hb hby at_152) (pc' := 153) rfl (by decide) ?_
        exact J153_2 _ _ X24 e24 N24 ((0 : Int32)) (by rw [own_law_v153_2_S0, if_pos hc135_10, if_neg hc145_25])
    · refine o_ifY X9 hx (hb hby at_135) (feqL hc135_10).2 (by decide) (pc' := 152) (by decide) ?_
      refine o_iconst X9 hx (0 : Int32) (hb hby at_152) (pc' := 153) rfl (by decide) ?_
      exact J153_2 _ _ X9 e9 N9 ((0 : Int32)) (by rw [own_law_v153_2_S0, if_neg hc135_10])
  by_cases hc113_8 : (own_law_x5 q0 q1 q2 q3 q4 q5) = (0 : Int32)
  · refine o_ifY X7 hx (hb hby at_113) (teq hc113_8).1 (by decide) (pc' := 120) (by decide) ?_
    refine o_lload X7 hx (hb hby at_120) (pc' := 122) rfl rfl ?_
    refine o_lload X7 hx (hb hby at_122) (pc' := 124) rfl rfl ?_
    refine o_lmul X7 hx (hb hby at_124) (pc' := 125) rfl ?_
    exact J125_1 (((own_law_x1 q0 q1 q2 q3 q4 q5) * (own_law_x2 q0 q1 q2 q3 q4 q5))) (by rw [own_law_v125_1_S0, if_pos hc113_8])
  · refine o_ifN X7 hx (hb hby at_113) (feq hc113_8).1 (pc' := 116) rfl ?_
    refine o_lconst X7 hx (0 : Int64) (hb hby at_116) (pc' := 117) rfl (by decide) ?_
    refine o_goto X7 hx (hb hby at_117) (by decide) (pc' := 125) (by decide) ?_
    exact J125_1 ((0 : Int64)) (by rw [own_law_v125_1_S0, if_neg hc113_8])
theorem own_uLn (x : Int64) (y : Int32) : (uL x y).toBitVec.toNat = x.toBitVec.toNat >>> ((y &&& 0x3f).toInt64.toUInt64.toNat % 64) := UInt64.toNat_shiftRight _ _
theorem own_i64 (x : Int64) : x.toInt = if 2 * x.toBitVec.toNat < 2 ^ 64 then (x.toBitVec.toNat : Int) else (x.toBitVec.toNat : Int) - 2 ^ 64 := BitVec.toInt_eq_toNat_cond _
theorem own_uL_nn (x : Int64) (y : Int32) (h : 0 ≤ x.toInt) : 0 ≤ (uL x y).toInt ∧ (uL x y).toInt ≤ x.toInt := by
  have h1 := own_i64 x
  have h2 := own_i64 (uL x y)
  rw [own_uLn] at h2
  have h3 : x.toBitVec.toNat >>> ((y &&& 0x3f).toInt64.toUInt64.toNat % 64) ≤ x.toBitVec.toNat := Nat.shiftRight_le _ _
  have h4 := x.toBitVec.isLt
  generalize x.toBitVec.toNat >>> ((y &&& 0x3f).toInt64.toUInt64.toNat % 64) = M at *
  generalize x.toBitVec.toNat = N at *
  split at h1 <;> split at h2 <;> omega
theorem own_mx (x : Int64) : 0 ≤ (x &&& (9223372036854775807 : Int64)).toInt := by
  rw [c_maskL x 9223372036854775807 63 (by decide) (by decide)]
  omega
theorem own_uL_mx (x : Int64) (y : Int32) : 0 ≤ (uL (x &&& (9223372036854775807 : Int64)) y).toInt := (own_uL_nn _ _ (own_mx x)).1
theorem own_ldiv (x y : Int64) (h0 : 0 ≤ x.toInt) (h1 : 0 < y.toInt) : (x / y).toInt = x.toInt / y.toInt := (c_ldiv x y _ rfl (fun q => by rw [q] at h1; exact absurd h1 (by decide))).1 h0
theorem own_zz : (0 : Int64).toInt = 0 := rfl
theorem own_01' (t b l : Int64) : own_f4_ret t b l = 0 ∨ own_f4_ret t b l = 1 := own_f4_ret_01 t b l
/-- over, from both sides: a product above what is left -/
theorem own_overL (t b l : Int64) (ht : 0 ≤ t.toInt) (hb : 0 ≤ b.toInt) (hl : 0 ≤ l.toInt) : own_f4_ret t b l = 0 ↔ t.toInt * b.toInt ≤ l.toInt := by
  unfold own_f4_ret
  by_cases h : t = 0
  · rw [if_pos h, h, own_zz, Int.zero_mul]
    exact ⟨fun _ => hl, fun _ => rfl⟩
  · rw [if_neg h]
    have hT : 0 < t.toInt := by
      have : t.toInt ≠ 0 := fun q => h (Int64.toInt_inj.mp (by rw [q]; rfl))
      omega
    have hd := own_ldiv l t hl hT
    by_cases h1 : l / t < b
    · rw [if_pos h1]
      rw [Int64.lt_iff_toInt_lt, hd, Int.ediv_lt_iff_lt_mul hT, Int.mul_comm] at h1
      exact ⟨fun q => absurd q (by decide), fun q => by omega⟩
    · rw [if_neg h1]
      rw [Int64.lt_iff_toInt_lt, hd, Int.ediv_lt_iff_lt_mul hT, Int.mul_comm] at h1
      exact ⟨fun _ => by omega, fun _ => rfl⟩
theorem own_overR (t b l : Int64) (ht : 0 ≤ t.toInt) (hb : 0 ≤ b.toInt) (hl : 0 ≤ l.toInt) (h0 : (0 : Int64) < b) : l / b < t ↔ ¬ t.toInt * b.toInt ≤ l.toInt := by
  have hB : 0 < b.toInt := by rw [Int64.lt_iff_toInt_lt, own_zz] at h0; exact h0
  rw [Int64.lt_iff_toInt_lt, own_ldiv l b hl hB, Int.ediv_lt_iff_lt_mul hB]
  omega
theorem own_cnt (t b l c : Int64) (y : Int32) (ht : 0 ≤ t.toInt) (hb : 0 ≤ b.toInt) (hl : 0 ≤ (l - c).toInt) : own_f3_F_aa_count l c y t b = (if own_f4_ret t b (l - c) = 0 then c + t * b else c) := by
  have h := own_overL t b (l - c) ht hb hl
  unfold own_f3_F_aa_count
  by_cases h0 : (0 : Int64) < b
  · rw [if_pos h0]
    have hr := own_overR t b (l - c) ht hb hl h0
    by_cases h1 : (l - c) / b < t
    · rw [if_pos h1, if_neg (fun q => hr.mp h1 (h.mp q))]
    · rw [if_neg h1, if_pos (h.mpr (Decidable.not_not.mp (mt hr.mpr h1)))]
  · rw [if_neg h0, if_pos]
    apply h.mpr
    rw [Int64.lt_iff_toInt_lt, own_zz] at h0
    rw [show b.toInt = 0 from by omega, Int.mul_zero]
    exact hl
theorem own_exc (t b l c : Int64) (y : Int32) (ht : 0 ≤ t.toInt) (hb : 0 ≤ b.toInt) (hl : 0 ≤ (l - c).toInt) : own_f3_F_aa_exceeded l c y t b = (if own_f4_ret t b (l - c) = 0 then y else 1) := by
  have h := own_overL t b (l - c) ht hb hl
  unfold own_f3_F_aa_exceeded
  by_cases h0 : (0 : Int64) < b
  · rw [if_pos h0]
    have hr := own_overR t b (l - c) ht hb hl h0
    by_cases h1 : (l - c) / b < t
    · rw [if_pos h1, if_neg (fun q => hr.mp h1 (h.mp q))]
    · rw [if_neg h1, if_pos (h.mpr (Decidable.not_not.mp (mt hr.mpr h1)))]
  · rw [if_neg h0, if_pos]
    apply h.mpr
    rw [Int64.lt_iff_toInt_lt, own_zz] at h0
    rw [show b.toInt = 0 from by omega, Int.mul_zero]
    exact hl
theorem own_main (q0 q1 q2 q3 q4 : Int64) (q5 : Int32) : own_law_ret q0 q1 q2 q3 q4 q5 = 1 := by
  have hl : 0 ≤ (own_law_x0 q0 q1 q2 q3 q4 q5).toInt := own_uL_mx _ _
  have ht : 0 ≤ (own_law_x1 q0 q1 q2 q3 q4 q5).toInt := own_uL_mx _ _
  have hb : 0 ≤ (own_law_x2 q0 q1 q2 q3 q4 q5).toInt := own_uL_mx _ _
  have ht2 : 0 ≤ (own_law_x3 q0 q1 q2 q3 q4 q5).toInt := own_uL_mx _ _
  have hb2 : 0 ≤ (own_law_x4 q0 q1 q2 q3 q4 q5).toInt := own_uL_mx _ _
  have c1 := own_cnt (own_law_x1 q0 q1 q2 q3 q4 q5) (own_law_x2 q0 q1 q2 q3 q4 q5) (own_law_x0 q0 q1 q2 q3 q4 q5) 0 0 ht hb (by rw [Int64.sub_zero]; exact hl)
  have e1 := own_exc (own_law_x1 q0 q1 q2 q3 q4 q5) (own_law_x2 q0 q1 q2 q3 q4 q5) (own_law_x0 q0 q1 q2 q3 q4 q5) 0 0 ht hb (by rw [Int64.sub_zero]; exact hl)
  rw [Int64.sub_zero, Int64.zero_add] at c1
  rw [Int64.sub_zero] at e1
  have o1 := own_overL (own_law_x1 q0 q1 q2 q3 q4 q5) (own_law_x2 q0 q1 q2 q3 q4 q5) (own_law_x0 q0 q1 q2 q3 q4 q5) ht hb hl
  have z1 := own_01' (own_law_x1 q0 q1 q2 q3 q4 q5) (own_law_x2 q0 q1 q2 q3 q4 q5) (own_law_x0 q0 q1 q2 q3 q4 q5)
  have hc1 : own_f3_F_aa_count (own_law_x0 q0 q1 q2 q3 q4 q5) 0 0 (own_law_x1 q0 q1 q2 q3 q4 q5) (own_law_x2 q0 q1 q2 q3 q4 q5) = own_law_v125_1_S0 q0 q1 q2 q3 q4 q5 := c1
  have he1 : own_f3_F_aa_exceeded (own_law_x0 q0 q1 q2 q3 q4 q5) 0 0 (own_law_x1 q0 q1 q2 q3 q4 q5) (own_law_x2 q0 q1 q2 q3 q4 q5) = own_law_x5 q0 q1 q2 q3 q4 q5 := by
    rw [e1]
    show _ = own_f4_ret _ _ _
    rcases z1 with h | h <;> rw [h] <;> decide
  have hleft : 0 ≤ (own_law_x0 q0 q1 q2 q3 q4 q5 - own_law_v125_1_S0 q0 q1 q2 q3 q4 q5).toInt := by
    have a := c_lsub (own_law_x0 q0 q1 q2 q3 q4 q5) (own_law_v125_1_S0 q0 q1 q2 q3 q4 q5)
    have r := rng64 (own_law_x0 q0 q1 q2 q3 q4 q5 - own_law_v125_1_S0 q0 q1 q2 q3 q4 q5)
    have r0 := rng64 (own_law_x0 q0 q1 q2 q3 q4 q5)
    by_cases h : own_law_x5 q0 q1 q2 q3 q4 q5 = 0
    · have hv : own_law_v125_1_S0 q0 q1 q2 q3 q4 q5 = own_law_x1 q0 q1 q2 q3 q4 q5 * own_law_x2 q0 q1 q2 q3 q4 q5 := by unfold own_law_v125_1_S0; rw [if_pos h]
      have m := o1.mp h
      have m0 : 0 ≤ (own_law_x1 q0 q1 q2 q3 q4 q5).toInt * (own_law_x2 q0 q1 q2 q3 q4 q5).toInt := Int.mul_nonneg ht hb
      have mm := c_lmul (own_law_x1 q0 q1 q2 q3 q4 q5) (own_law_x2 q0 q1 q2 q3 q4 q5)
      have mr := rng64 (own_law_x1 q0 q1 q2 q3 q4 q5 * own_law_x2 q0 q1 q2 q3 q4 q5)
      rw [← hv] at mm mr
      generalize (own_law_x1 q0 q1 q2 q3 q4 q5).toInt * (own_law_x2 q0 q1 q2 q3 q4 q5).toInt = P at *
      omega
    · have hv : own_law_v125_1_S0 q0 q1 q2 q3 q4 q5 = 0 := by unfold own_law_v125_1_S0; rw [if_neg h]
      rw [hv, Int64.sub_zero]
      exact hl
  have c2 := own_cnt (own_law_x3 q0 q1 q2 q3 q4 q5) (own_law_x4 q0 q1 q2 q3 q4 q5) (own_law_x0 q0 q1 q2 q3 q4 q5) (own_law_v125_1_S0 q0 q1 q2 q3 q4 q5) (own_law_x5 q0 q1 q2 q3 q4 q5) ht2 hb2 hleft
  have e2 := own_exc (own_law_x3 q0 q1 q2 q3 q4 q5) (own_law_x4 q0 q1 q2 q3 q4 q5) (own_law_x0 q0 q1 q2 q3 q4 q5) (own_law_v125_1_S0 q0 q1 q2 q3 q4 q5) (own_law_x5 q0 q1 q2 q3 q4 q5) ht2 hb2 hleft
  have hc2 : own_f3_F_aa_count (own_law_x0 q0 q1 q2 q3 q4 q5) (own_law_v125_1_S0 q0 q1 q2 q3 q4 q5) (own_law_x5 q0 q1 q2 q3 q4 q5) (own_law_x3 q0 q1 q2 q3 q4 q5) (own_law_x4 q0 q1 q2 q3 q4 q5) = own_law_v200_3_S0 q0 q1 q2 q3 q4 q5 := c2
  have he2 : own_f3_F_aa_exceeded (own_law_x0 q0 q1 q2 q3 q4 q5) (own_law_v125_1_S0 q0 q1 q2 q3 q4 q5) (own_law_x5 q0 q1 q2 q3 q4 q5) (own_law_x3 q0 q1 q2 q3 q4 q5) (own_law_x4 q0 q1 q2 q3 q4 q5) = own_law_v238_4_S0 q0 q1 q2 q3 q4 q5 := by
    rw [e2]
    unfold own_law_v238_4_S0
    show (if own_law_x7 q0 q1 q2 q3 q4 q5 = 0 then _ else _) = _
    have z1' : own_law_x5 q0 q1 q2 q3 q4 q5 = 0 ∨ own_law_x5 q0 q1 q2 q3 q4 q5 = 1 := z1
    rcases z1' with h | h <;> rw [h]
    · rw [if_pos rfl]
    · rw [if_neg (by decide : ¬ (1 : Int32) = 0), ite_self]
  unfold own_law_ret own_law_ret_j125_1 own_law_ret_j153_2 own_law_ret_j200_3 own_law_ret_j238_4 own_law_v153_2_S0
  rw [hc1, he1, hc2, he2, if_pos rfl, if_pos rfl, if_pos rfl, if_pos rfl, if_pos rfl]
  decide
set_option maxRecDepth 65536 in
set_option maxHeartbeats 40000000 in
theorem comes_1 {Post : Tables → Env → Array Value → State → Outcome → State → Prop} (hpost : ∀ tb e args s v u, (limb_1_1.after args s (.returned v) u = true ∧ limb_1_2.after args s (.returned v) u = true ∧ True) → FrameEnd s (.returned v) u (Jvm.fieldLocs frame_1_writes args s ++ Jvm.arrayLocs frame_1_arrays args s ++ Jvm.staticLocs frame_1_statics s) 16 128 → Post tb e args s (.returned v) u) :
    ArmFor flags0 classFile x code maxLocals ret World_1 tables_1 room_1 Calls_1 rest_1 Pre_1 Post := by
  intro l hfl _ _ p e ha hc hk s m args below hf hA hF happ hP
  obtain ⟨hcalls, hrest, hpre⟩ := hP
  obtain ⟨-, -, -, hnamed, -, -, -, hat⟩ := (Spec.applies_iff hf).mp happ
  obtain ⟨hg, hn⟩ := and_e (Cond.before_iff.mp (show (Jvm.Cond.and given_1 narrow_1).before args s = true from hpre))
  obtain ⟨hcnt, r0⟩ := and_e hg
  obtain ⟨a0, r1⟩ := and_e r0
  obtain ⟨a1, r2⟩ := and_e r1
  obtain ⟨a2, r3⟩ := and_e r2
  obtain ⟨a3, r4⟩ := and_e r3
  obtain ⟨a4, r5⟩ := and_e r4
  obtain ⟨w0, w1, w2, w3, w4, w5, rfl⟩ : ∃ w0 w1 w2 w3 w4 w5 : Value, args = #[w0, w1, w2, w3, w4, w5] := by
    have hs : args.size = 6 := by simpa [Cond.value, given_1] using hcnt
    obtain ⟨L⟩ := args
    match L, hs with
    | [w0, w1, w2, w3, w4, w5], _ => exact ⟨w0, w1, w2, w3, w4, w5, rfl⟩
  have hw := fun d (hd : d ∈ tables_1) => atoms_spec (ws := Jvm.Cond.code x code maxLocals ret :: tables_1) hat d (List.mem_cons_of_mem _ hd)
  obtain ⟨q0, y0⟩ := isL_v a0
  obtain rfl : w0 = (.long q0) := Option.some.inj y0
  obtain ⟨q1, y1⟩ := isL_v a1
  obtain rfl : w1 = (.long q1) := Option.some.inj y1
  obtain ⟨q2, y2⟩ := isL_v a2
  obtain rfl : w2 = (.long q2) := Option.some.inj y2
  obtain ⟨q3, y3⟩ := isL_v a3
  obtain rfl : w3 = (.long q3) := Option.some.inj y3
  obtain ⟨q4, y4⟩ := isL_v a4
  obtain rfl : w4 = (.long q4) := Option.some.inj y4
  obtain ⟨q5, y5⟩ := is_v r5
  obtain rfl : w5 = (.int q5) := Option.some.inj y5
  obtain ⟨n, o, h1, h2, h3, _, L, rfl, ⟨rfl, N⟩, hq⟩ := rm0 l s _ hw tables_1 q0 q1 q2 q3 q4 q5 s.heap s.heap.size (Nat.le_refl _) p e ha hc hk s m _ below hf ((Spec.applies_iff_loose hf).mp happ).1 ⟨rfl, State.Warmed39.refl s, rfl⟩ trivial
  refine ⟨n, _, h1, h2, h3, hpost _ _ _ _ _ _ ⟨Cond.after_iff.mpr rfl, Cond.after_iff.mpr (eq_i res_at (Term.int_eval (1)) (congrArg Value.int (own_main q0 q1 q2 q3 q4 q5))), trivial⟩ ⟨hq.1, hq.2.1, (hq.2.2.sift fun y hy => Or.inr (N y hy)).mono (by decide) (by decide)⟩⟩
theorem main_1_1 : Claimed_1_1 := comes_1 fun _ _ _ _ _ _ h hF => ⟨h.1, hF⟩
theorem main_1_2 : Claimed_1_2 := comes_1 fun _ _ _ _ _ _ h hF => ⟨h.2.1, hF⟩
end Jvm.Pilot.@@N@@
namespace Jvm.Pilot.@@N@@
open Jvm Jvm.ClassFile Sem Op Lib Jvm.Free Jvm.Stand Jvm.Pilot.@@N@@.Jvm.D
/-! MADE BY PROGRAM (witnessworld.py) out of the Statement's table words and the real class files: 9 classes; the members and pool entries that the words name. The judged class is class 1, her method 2. -/
namespace start1
open Jvm.ClassFile
def u (s : String) : CpInfo := .utf8 (stringToUtf16 s)
/-- a pool by its gaps: so many unusable entries, then the entry; so many at the end -/
def gap : Nat → List CpInfo → List CpInfo
  | 0, r => r
  | n + 1, r => .unusable :: gap n r
def poolList (es : List (Nat × CpInfo)) (last : Nat) : List CpInfo := es.foldr (fun e r => gap e.1 (e.2 :: r)) (gap last [])
def pool (es : List (Nat × CpInfo)) (last : Nat) : Array CpInfo := ⟨poolList es last⟩
def fileOf (pool : Array CpInfo) (this : Nat) (attrs : Array Attribute := #[]) (ms : Array MethodInfo := #[]) (fl : Nat := 33) (sup : Nat := 0) (ifs : Array Nat := #[]) (fds : Array FieldInfo := #[]) : ClassFile where
  minorVersion := 0
  majorVersion := 65
  constantPool := pool
  accessFlags := fl
  thisClass := this
  superClass := sup
  interfaces := ifs
  fields := fds
  methods := ms
  attributes := attrs
def plain (name : String) (sup : Option ClassId) : Class where
  name := name
  kind := .ordinary
  loader := none
  accessFlags := 33
  super := sup
  interfaces := #[]
  cf := none
  fields := #[]
  methods := #[]
  instanceTypes := #[]
  staticTypes := #[]
  resolved := #[]
  callSites := []
  init := .initialized
  statics := none
  mirror := none

def pool0 : Array CpInfo := pool [(5, u "<init>"), (0, u "()V"), (1, .class_ 10), (1, u "java/lang/Object")] 113

def k0c0 : Code := { maxStack := 0, maxLocals := 1, code := object_method_1_code, exceptionTable := #[], attributes := #[] }
def k0m0 : Method := { name := "<init>", desc := "()V", sig := { parameters := [], returnType := none }, accessFlags := 1, code := some k0c0 }
/-- java/lang/Object -/
def k0 : Class := { plain "java/lang/Object" none with
  accessFlags := 33
  interfaces := #[]
  cf := some (fileOf pool0 8 #[] #[{ accessFlags := 1, nameIndex := 5, descriptorIndex := 6, attributes := #[] }] 33 0 #[] #[])
  fields := #[]
  methods := #[k0m0]
  instanceTypes := #[]
  staticTypes := #[]
  resolved := Array.replicate 124 none
  statics := none }

def pool1 : Array CpInfo := pool [(2, .class_ 4), (1, u "java/lang/Object"), (0, u "<init>"), (0, u "()V"), (0, .long 9223372036854775807), (1, .class_ 10), (0, u "com/example/darta/darta/analysis/ReloadCount"), (0, .methodref 9 12), (0, .nameAndType 5 13), (0, u "(J)V"), (0, .methodref 9 15), (0, .nameAndType 16 17), (0, u "add"), (0, u "(JJ)V"), (0, .methodref 19 20), (0, .class_ 21), (0, .nameAndType 22 23), (0, u "com/example/darta/darta/analysis/ReloadCountAddPinLaw"), (0, u "over"), (0, u "(JJJ)Z"), (0, .methodref 9 25), (0, .nameAndType 26 27), (0, u "count"), (0, u "()J"), (0, .methodref 9 29), (0, .nameAndType 30 31), (0, u "exceeded"), (0, u "()Z"), (0, .methodref 9 33), (0, .nameAndType 34 27), (0, u "left"), (3, u "law"), (0, u "(JJJJJI)Z")] 2

def k1m0 : Method := { name := "<init>", desc := "()V", sig := { parameters := [], returnType := none }, accessFlags := 1, code := none }
def k1c1 : Code := { maxStack := 6, maxLocals := 6, code := method_2_code, exceptionTable := #[], attributes := #[] }
def k1m1 : Method := { name := "over", desc := "(JJJ)Z", sig := { parameters := [.long, .long, .long], returnType := some .boolean }, accessFlags := 10, code := some k1c1 }
def k1c2 : Code := { maxStack := 6, maxLocals := 31, code := code, exceptionTable := #[], attributes := #[] }
def k1m2 : Method := { name := "law", desc := "(JJJJJI)Z", sig := { parameters := [.long, .long, .long, .long, .long, .int], returnType := some .boolean }, accessFlags := 9, code := some k1c2 }
/-- com/example/darta/darta/analysis/ReloadCountAddPinLaw -/
def k1 : Class := { plain "com/example/darta/darta/analysis/ReloadCountAddPinLaw" (some 0) with
  accessFlags := 49
  interfaces := #[]
  cf := some (fileOf pool1 19 #[] #[{ accessFlags := 1, nameIndex := 5, descriptorIndex := 6, attributes := #[] }, { accessFlags := 10, nameIndex := 22, descriptorIndex := 23, attributes := #[] }, { accessFlags := 9, nameIndex := 38, descriptorIndex := 39, attributes := #[] }] 49 2 #[] #[])
  fields := #[]
  methods := #[k1m0, k1m1, k1m2]
  instanceTypes := #[]
  staticTypes := #[]
  resolved := Array.replicate 42 none
  statics := none }

def pool2 : Array CpInfo := pool [(1, .methodref 2 3), (0, .class_ 4), (0, .nameAndType 5 6), (0, u "java/lang/Object"), (0, u "<init>"), (0, u "()V"), (0, .fieldref 8 9), (0, .class_ 10), (0, .nameAndType 11 12), (0, u "com/example/darta/darta/analysis/ReloadCount"), (0, u "limit"), (0, u "J"), (0, .fieldref 8 14), (0, .nameAndType 15 12), (0, u "count"), (0, .fieldref 8 17), (0, .nameAndType 18 19), (0, u "exceeded"), (0, u "Z"), (2, u "(J)V"), (2, u "add"), (0, u "(JJ)V"), (18, u "left"), (0, u "()J"), (1, u "()Z")] 2

def k2c0 : Code := { maxStack := 3, maxLocals := 3, code := prog_37_method_1_code, exceptionTable := #[], attributes := #[] }
def k2m0 : Method := { name := "<init>", desc := "(J)V", sig := { parameters := [.long], returnType := none }, accessFlags := 0, code := some k2c0 }
def k2c1 : Code := { maxStack := 7, maxLocals := 5, code := prog_37_method_2_code, exceptionTable := #[], attributes := #[] }
def k2m1 : Method := { name := "add", desc := "(JJ)V", sig := { parameters := [.long, .long], returnType := none }, accessFlags := 0, code := some k2c1 }
def k2c2 : Code := { maxStack := 4, maxLocals := 1, code := prog_37_method_6_code, exceptionTable := #[], attributes := #[] }
def k2m2 : Method := { name := "left", desc := "()J", sig := { parameters := [], returnType := some .long }, accessFlags := 0, code := some k2c2 }
def k2c3 : Code := { maxStack := 1, maxLocals := 1, code := prog_37_method_8_code, exceptionTable := #[], attributes := #[] }
def k2m3 : Method := { name := "exceeded", desc := "()Z", sig := { parameters := [], returnType := some .boolean }, accessFlags := 0, code := some k2c3 }
def k2c4 : Code := { maxStack := 2, maxLocals := 1, code := prog_37_method_9_code, exceptionTable := #[], attributes := #[] }
def k2m4 : Method := { name := "count", desc := "()J", sig := { parameters := [], returnType := some .long }, accessFlags := 0, code := some k2c4 }
/-- com/example/darta/darta/analysis/ReloadCount -/
def k2 : Class := { plain "com/example/darta/darta/analysis/ReloadCount" (some 0) with
  accessFlags := 32
  interfaces := #[]
  cf := some (fileOf pool2 8 #[] #[{ accessFlags := 0, nameIndex := 5, descriptorIndex := 22, attributes := #[] }, { accessFlags := 0, nameIndex := 25, descriptorIndex := 26, attributes := #[] }, { accessFlags := 0, nameIndex := 45, descriptorIndex := 46, attributes := #[] }, { accessFlags := 0, nameIndex := 18, descriptorIndex := 48, attributes := #[] }, { accessFlags := 0, nameIndex := 15, descriptorIndex := 46, attributes := #[] }] 32 2 #[] #[{ accessFlags := 18, nameIndex := 11, descriptorIndex := 12, attributes := #[] }, { accessFlags := 2, nameIndex := 15, descriptorIndex := 12, attributes := #[] }, { accessFlags := 2, nameIndex := 18, descriptorIndex := 19, attributes := #[] }])
  fields := #[{ name := "limit", type := .long, accessFlags := 18, slot := 0, constantValue := 0 }, { name := "count", type := .long, accessFlags := 2, slot := 1, constantValue := 0 }, { name := "exceeded", type := .boolean, accessFlags := 2, slot := 2, constantValue := 0 }]
  methods := #[k2m0, k2m1, k2m2, k2m3, k2m4]
  instanceTypes := #[.long, .long, .boolean]
  staticTypes := #[]
  resolved := Array.replicate 51 none
  statics := none }

def pool3 : Array CpInfo := pool [(1, u "java/lang/Cloneable"), (0, .class_ 1), (0, u "java/lang/Object"), (0, .class_ 3)] 3

/-- java/lang/Cloneable -/
def k3 : Class := { plain "java/lang/Cloneable" (some 0) with
  accessFlags := 1537
  interfaces := #[]
  cf := some (fileOf pool3 2 #[] #[] 1537 4 #[] #[])
  fields := #[]
  methods := #[]
  instanceTypes := #[]
  staticTypes := #[]
  resolved := Array.replicate 8 none
  statics := none }

def pool4 : Array CpInfo := pool [(1, u "java/io/Serializable"), (0, .class_ 1), (0, u "java/lang/Object"), (0, .class_ 3)] 3

/-- java/io/Serializable -/
def k4 : Class := { plain "java/io/Serializable" (some 0) with
  accessFlags := 1537
  interfaces := #[]
  cf := some (fileOf pool4 2 #[] #[] 1537 4 #[] #[])
  fields := #[]
  methods := #[]
  instanceTypes := #[]
  staticTypes := #[]
  resolved := Array.replicate 8 none
  statics := none }

/-- the primitive byte -/
def k5 : Class := { plain "byte" none with kind := .primitive 'B', accessFlags := 0x411 }
/-- [B -/
def k6 : Class := { plain "[B" (some 0) with kind := .array 5 .byte, interfaces := #[3, 4], accessFlags := 1041 }

/-- the primitive int -/
def k7 : Class := { plain "int" none with kind := .primitive 'I', accessFlags := 0x411 }
/-- [I -/
def k8 : Class := { plain "[I" (some 0) with kind := .array 7 .int, interfaces := #[3, 4], accessFlags := 1041 }

def heap : Heap := #[]
def classes : Array Class := #[k0, k1, k2, k3, k4, k5, k6, k7, k8]
def interned : List (Array UInt16 × Addr) := []
def slotsUsed : Nat := 0
def theMethod : MethodId := ⟨1, 2⟩
def args0 : Array Value := #[.long 5, .long 7, .long 9, .long 9, .long 9, .int 8]
def aboutOver (below : List Frame) : State where
  vm := { classes := classes, interned := interned.toArray }
  heap := heap
  slotsUsed := slotsUsed
  threads := #[{ frames := .invoking theMethod args0 :: below }]
def below0 : List Frame := [.native { method := ⟨0, 0⟩, args := #[] }]
def about1 : State := aboutOver below0
def p0 : Program := .bare "" "" ""
def e0 : Env := launch0.env 0 0 0
theorem w_frames : about1.frames = Frame.invoking theMethod args0 :: below0 := rfl
set_option maxRecDepth 65536 in
theorem w_args : argsFit about1.vm theMethod args0 = true := by decide +kernel
set_option maxRecDepth 65536 in
theorem w_heap : heapFits about1 = true := by decide +kernel
set_option maxRecDepth 65536 in
theorem w_runnable : about1.curStatus? = some .runnable := by decide +kernel
set_option maxRecDepth 65536 in
theorem w_alone : about1.alone = true := by decide +kernel
set_option maxRecDepth 65536 in
theorem w_named : about1.methodNamed? x = some theMethod := by decide +kernel
set_option maxRecDepth 65536 in
theorem w_hears : about1.hears theMethod below0 = true := by decide +kernel
set_option maxRecDepth 65536 in
theorem w_ripe : about1.ripe theMethod args0 below0 = true := by decide +kernel
theorem w_running : about1.status = .running := rfl
set_option maxRecDepth 65536 in
theorem w_room : about1.hasRoom e0.platform room_1 = true :=
  launch0.hasRoom_least _ room_1 (by decide +kernel) (by decide +kernel) (by decide +kernel) (by decide +kernel) (by decide +kernel) (by decide +kernel)
theorem allAtoms_all (ts : List Jvm.Cond) (a : Array Jvm.Value) (st : Jvm.State) : (allAtoms ts).before a st = ts.all (fun c => c.before a st) := by
  induction ts with
  | nil => rfl
  | cons c t ih =>
    show (Jvm.Cond.and c (allAtoms t)).before a st = _
    rw [Jvm.Cond.before_and, ih, List.all_cons]
def words1 : List Jvm.Cond := Jvm.Cond.code x code maxLocals ret :: tables_1
/-- a 'code' word, met by the world's own term for the bytes: nothing is compared byte by byte -/
theorem code_word {y : MethodName} {bytes : ByteArray} {mx : Nat} {rt : Option FieldType} {a : Array Value} {s : State} {m : MethodId} {meth : Method} {c : Code} (h1 : s.methodNamed? y = some m) (h2 : s.vm.method? m = some meth) (h3 : meth.code = some c) (h4 : c.code = bytes)
    (h5 : (c.maxLocals == mx && c.exceptionTable.isEmpty && decide (c.maxStack ≤ mostOperands) && decide (meth.sig.returnType = rt) && !meth.locks && decide (parseMethodDescriptor y.desc = some meth.sig)) = true) : (Jvm.Cond.code y bytes mx rt).before a s = true := by
  simp only [Bool.and_eq_true, beq_iff_eq, Bool.not_eq_true', decide_eq_true_eq] at h5
  obtain ⟨⟨⟨⟨⟨g1, g2⟩, g3⟩, g4⟩, g5⟩, g6⟩ := h5
  simp [Cond.before, Cond.holds, Cond.value, h1, h2, h3, h4, g1, g2, g3, g4, g5, g6]
def isCode : Jvm.Cond → Bool
  | .code _ _ _ _ => true
  | _ => false
theorem all_split {L : List Jvm.Cond} {P : Jvm.Cond → Bool} (h1 : L.all (fun c => isCode c || P c) = true) (h2 : ∀ c ∈ L.filter isCode, P c = true) : L.all P = true := by
  refine List.all_eq_true.mpr fun c hc => ?_
  have h := List.all_eq_true.mp h1 c hc
  rcases Bool.eq_false_or_eq_true (isCode c) with hi | hi
  · exact h2 c (List.mem_filter.mpr ⟨hc, hi⟩)
  · simpa [hi] using h
set_option maxRecDepth 65536 in
theorem w_c0 : (Jvm.Cond.code x code maxLocals ret).before args0 about1 = true := code_word (m := ⟨1, 2⟩) (meth := k1m2) (c := k1c2) (by decide +kernel) rfl rfl rfl (by decide +kernel)
set_option maxRecDepth 65536 in
theorem w_c1 : (Jvm.Cond.code ({ cls := "com/example/darta/darta/analysis/ReloadCount", name := "<init>", desc := "(J)V" } : Jvm.MethodName) prog_37_method_1_code (3 : Nat) (Option.none : Option Jvm.ClassFile.FieldType)).before args0 about1 = true := code_word (m := ⟨2, 0⟩) (meth := k2m0) (c := k2c0) (by decide +kernel) rfl rfl rfl (by decide +kernel)
set_option maxRecDepth 65536 in
theorem w_c2 : (Jvm.Cond.code ({ cls := "java/lang/Object", name := "<init>", desc := "()V" } : Jvm.MethodName) object_method_1_code (1 : Nat) (Option.none : Option Jvm.ClassFile.FieldType)).before args0 about1 = true := code_word (m := ⟨0, 0⟩) (meth := k0m0) (c := k0c0) (by decide +kernel) rfl rfl rfl (by decide +kernel)
set_option maxRecDepth 65536 in
theorem w_c3 : (Jvm.Cond.code ({ cls := "com/example/darta/darta/analysis/ReloadCount", name := "add", desc := "(JJ)V" } : Jvm.MethodName) prog_37_method_2_code (5 : Nat) (Option.none : Option Jvm.ClassFile.FieldType)).before args0 about1 = true := code_word (m := ⟨2, 1⟩) (meth := k2m1) (c := k2c1) (by decide +kernel) rfl rfl rfl (by decide +kernel)
set_option maxRecDepth 65536 in
theorem w_c4 : (Jvm.Cond.code ({ cls := "com/example/darta/darta/analysis/ReloadCountAddPinLaw", name := "over", desc := "(JJJ)Z" } : Jvm.MethodName) method_2_code (6 : Nat) (Option.some Jvm.ClassFile.FieldType.boolean)).before args0 about1 = true := code_word (m := ⟨1, 1⟩) (meth := k1m1) (c := k1c1) (by decide +kernel) rfl rfl rfl (by decide +kernel)
set_option maxRecDepth 65536 in
theorem w_c5 : (Jvm.Cond.code ({ cls := "com/example/darta/darta/analysis/ReloadCount", name := "count", desc := "()J" } : Jvm.MethodName) prog_37_method_9_code (1 : Nat) (Option.some Jvm.ClassFile.FieldType.long)).before args0 about1 = true := code_word (m := ⟨2, 4⟩) (meth := k2m4) (c := k2c4) (by decide +kernel) rfl rfl rfl (by decide +kernel)
set_option maxRecDepth 65536 in
theorem w_c6 : (Jvm.Cond.code ({ cls := "com/example/darta/darta/analysis/ReloadCount", name := "exceeded", desc := "()Z" } : Jvm.MethodName) prog_37_method_8_code (1 : Nat) (Option.some Jvm.ClassFile.FieldType.boolean)).before args0 about1 = true := code_word (m := ⟨2, 3⟩) (meth := k2m3) (c := k2c3) (by decide +kernel) rfl rfl rfl (by decide +kernel)
set_option maxRecDepth 65536 in
theorem w_c7 : (Jvm.Cond.code ({ cls := "com/example/darta/darta/analysis/ReloadCount", name := "left", desc := "()J" } : Jvm.MethodName) prog_37_method_6_code (1 : Nat) (Option.some Jvm.ClassFile.FieldType.long)).before args0 about1 = true := code_word (m := ⟨2, 2⟩) (meth := k2m2) (c := k2c2) (by decide +kernel) rfl rfl rfl (by decide +kernel)
def codes1 : List Jvm.Cond := [Jvm.Cond.code x code maxLocals ret, Jvm.Cond.code ({ cls := "com/example/darta/darta/analysis/ReloadCount", name := "<init>", desc := "(J)V" } : Jvm.MethodName) prog_37_method_1_code (3 : Nat) (Option.none : Option Jvm.ClassFile.FieldType), Jvm.Cond.code ({ cls := "java/lang/Object", name := "<init>", desc := "()V" } : Jvm.MethodName) object_method_1_code (1 : Nat) (Option.none : Option Jvm.ClassFile.FieldType), Jvm.Cond.code ({ cls := "com/example/darta/darta/analysis/ReloadCount", name := "add", desc := "(JJ)V" } : Jvm.MethodName) prog_37_method_2_code (5 : Nat) (Option.none : Option Jvm.ClassFile.FieldType), Jvm.Cond.code ({ cls := "com/example/darta/darta/analysis/ReloadCountAddPinLaw", name := "over", desc := "(JJJ)Z" } : Jvm.MethodName) method_2_code (6 : Nat) (Option.some Jvm.ClassFile.FieldType.boolean), Jvm.Cond.code ({ cls := "com/example/darta/darta/analysis/ReloadCount", name := "count", desc := "()J" } : Jvm.MethodName) prog_37_method_9_code (1 : Nat) (Option.some Jvm.ClassFile.FieldType.long), Jvm.Cond.code ({ cls := "com/example/darta/darta/analysis/ReloadCount", name := "exceeded", desc := "()Z" } : Jvm.MethodName) prog_37_method_8_code (1 : Nat) (Option.some Jvm.ClassFile.FieldType.boolean), Jvm.Cond.code ({ cls := "com/example/darta/darta/analysis/ReloadCount", name := "left", desc := "()J" } : Jvm.MethodName) prog_37_method_6_code (1 : Nat) (Option.some Jvm.ClassFile.FieldType.long)]
set_option maxRecDepth 65536 in
theorem codes_eq : words1.filter isCode = codes1 := rfl
theorem w_codes : ∀ c ∈ words1.filter isCode, c.before args0 about1 = true := by
  rw [codes_eq]
  intro c hc
  simp only [codes1, List.mem_cons, List.not_mem_nil, or_false] at hc
  rcases hc with rfl | rfl | rfl | rfl | rfl | rfl | rfl | rfl
  · exact w_c0
  · exact w_c1
  · exact w_c2
  · exact w_c3
  · exact w_c4
  · exact w_c5
  · exact w_c6
  · exact w_c7
set_option maxRecDepth 65536 in
theorem w_t1 : (words1.take 24).all (fun c => isCode c || c.before args0 about1) = true := by decide +kernel
set_option maxRecDepth 65536 in
theorem w_t2 : (words1.drop 24).all (fun c => isCode c || c.before args0 about1) = true := by decide +kernel
theorem w_tables : (allAtoms (Jvm.Cond.code x code maxLocals ret :: tables_1)).before args0 about1 = true := by
  rw [allAtoms_all]
  show words1.all (fun c => c.before args0 about1) = true
  refine all_split ?_ w_codes
  rw [← List.take_append_drop 24 words1, List.all_append, w_t1, w_t2]
  rfl
set_option maxRecDepth 65536 in
theorem w_case : (Jvm.Cond.and given_1 narrow_1).before args0 about1 = true := by decide +kernel
theorem w_applies : (headSpec (Jvm.Cond.code x code maxLocals ret :: tables_1) room_1).applies x e0.platform about1 = true :=
  (Spec.applies_iff w_frames).mpr ⟨w_running, w_runnable, w_alone, w_named, w_hears, w_ripe, w_room, w_tables⟩
theorem atStart : AtStart classFile x code maxLocals ret World_1 tables_1 room_1 Calls_1 rest_1 Pre_1 launch0 p0 e0 about1 theMethod args0 below0 :=
  ⟨lists_1, trivial, launch0.admits_env _ _ _, launch0.least_env, fairChoices_fair.cas, fairChoices_fair.clock, w_frames, w_args, w_heap, w_applies, trivial, trivial, w_case⟩
end start1
theorem witness_1 : WitnessClaimed_1 := ⟨start1.p0, start1.e0, start1.about1, start1.theMethod, start1.args0, start1.below0, start1.atStart⟩
end Jvm.Pilot.@@N@@
