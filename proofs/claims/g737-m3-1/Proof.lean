import JvmDerived
import JvmDerived.Pilot.@@N@@Statement
import JvmDerived.Pilot.@@N@@Code
set_option linter.unusedVariables false
set_option linter.unusedSimpArgs false
namespace Jvm.Pilot.@@N@@
open Jvm Jvm.ClassFile Sem Op Lib Jvm.Free Jvm.Stand Jvm.LawKit Jvm.RoadKit Bundle Jvm.Pilot.@@N@@.Jvm.D
/-- the body's goal from a state on -/
def Go (p : Program) (e : Env) (below : List Frame) (P : Outcome → State → Prop) (U : State) : Prop :=
  ∃ s₂ o, Steps p.tables e below U s₂ ∧ s₂.status = .running ∧ Ended s₂ below o ∧ P o s₂
/-- the unsigned shifts, the remainders -/
def uI (x y : Int32) : Int32 := (x.toUInt32 >>> (y &&& 31).toUInt32).toInt32
def uL (x : Int64) (y : Int32) : Int64 := (x.toUInt64 >>> (y &&& 0x3f).toInt64.toUInt64).toInt64
def sL (x : Int64) (y : Int32) : Int64 := x >>> (y &&& 0x3f).toInt64
def lL (x : Int64) (y : Int32) : Int64 := x <<< (y &&& 0x3f).toInt64
section Own
variable {p : Program} {l : Launch} {e : Env} {R : Room} {s : State} {m : MethodId} {args : Array Value} {below : List Frame} {meth : Method} {c : Code} {T : State} {locs : List Loc} {cells slots : Nat} {P : Outcome → State → Prop} {pc pc' : Nat} {L L' : Array Slot} {S : List Value} {Z : State} {a0 : Array Value} {h : Heap}
theorem Go.via {U U' : State} (q : ∀ t, Steps p.tables e below U' t → Steps p.tables e below U t) (k : Go p e below P U') : Go p e below P U := by
  obtain ⟨s₂, o, h1, h2⟩ := k
  exact ⟨s₂, o, q _ h1, h2⟩
theorem Go.tr {U U' : State} (q : Steps p.tables e below U U') (k : Go p e below P U') : Go p e below P U := k.via fun _ h => q.trans h
theorem o_iload (X : Stand p l e R s m args below meth c T locs cells slots) (hx : p.tables.exec = Jvm.exec) {k : Nat} {v : Int32} (hd : decode c.code pc = .ok (.iload k, 2)) (hp : pc + 2 = pc') (hl : L[k]? = some (.val (.int v))) (K : Go p e below P (T.setTop (mkF m pc' L (.int v :: S)))) : Go p e below P (T.setTop (mkF m pc L (S))) := by
  subst hp; exact K.via fun t k => XS.iload X.here hx rfl hd hl k
theorem o_iloadN (X : Stand p l e R s m args below meth c T locs cells slots) (hx : p.tables.exec = Jvm.exec) {k : Fin 4} {v : Int32} (hd : decode c.code pc = .ok (.iload_n k, 1)) (hp : pc + 1 = pc') (hl : L[k.val]? = some (.val (.int v))) (K : Go p e below P (T.setTop (mkF m pc' L (.int v :: S)))) : Go p e below P (T.setTop (mkF m pc L (S))) := by
  subst hp; exact K.via fun t k => XS.iloadN X.here hx rfl hd hl k
theorem o_lload (X : Stand p l e R s m args below meth c T locs cells slots) (hx : p.tables.exec = Jvm.exec) {k : Nat} {v : Int64} (hd : decode c.code pc = .ok (.lload k, 2)) (hp : pc + 2 = pc') (hl : L[k]? = some (.val (.long v))) (K : Go p e below P (T.setTop (mkF m pc' L (.long v :: S)))) : Go p e below P (T.setTop (mkF m pc L (S))) := by
  subst hp; exact K.via fun t k => XS.lload X.here hx rfl hd hl k
theorem o_aload (X : Stand p l e R s m args below meth c T locs cells slots) (hx : p.tables.exec = Jvm.exec) {k : Nat} {v : Value} (hd : decode c.code pc = .ok (.aload k, 2)) (hp : pc + 2 = pc') (hl : L[k]? = some (.val v)) (hv : v.isRef = true) (K : Go p e below P (T.setTop (mkF m pc' L (v :: S)))) : Go p e below P (T.setTop (mkF m pc L (S))) := by
  subst hp; exact K.via fun t k => XS.aload X.here hx rfl hd hl hv k
theorem o_aloadN (X : Stand p l e R s m args below meth c T locs cells slots) (hx : p.tables.exec = Jvm.exec) {k : Fin 4} {v : Value} (hd : decode c.code pc = .ok (.aload_n k, 1)) (hp : pc + 1 = pc') (hl : L[k.val]? = some (.val v)) (hv : v.isRef = true) (K : Go p e below P (T.setTop (mkF m pc' L (v :: S)))) : Go p e below P (T.setTop (mkF m pc L (S))) := by
  subst hp; exact K.via fun t k => XS.aloadN X.here hx rfl hd hl hv k
theorem o_istore (X : Stand p l e R s m args below meth c T locs cells slots) (hx : p.tables.exec = Jvm.exec) {k : Nat} {x : Int32} (hd : decode c.code pc = .ok (.istore k, 2)) (hp : pc + 2 = pc') (hl : storeLocals L k (.int x) = some L') (K : Go p e below P (T.setTop (mkF m pc' L' (S)))) : Go p e below P (T.setTop (mkF m pc L (.int x :: S))) := by
  subst hp; exact K.via fun t k => XS.istore X.here hx rfl hd rfl hl k
theorem o_istoreN (X : Stand p l e R s m args below meth c T locs cells slots) (hx : p.tables.exec = Jvm.exec) {k : Fin 4} {x : Int32} (hd : decode c.code pc = .ok (.istore_n k, 1)) (hp : pc + 1 = pc') (hl : storeLocals L k.val (.int x) = some L') (K : Go p e below P (T.setTop (mkF m pc' L' (S)))) : Go p e below P (T.setTop (mkF m pc L (.int x :: S))) := by
  subst hp; exact K.via fun t k => XS.istoreN X.here hx rfl hd rfl hl k
theorem o_lstore (X : Stand p l e R s m args below meth c T locs cells slots) (hx : p.tables.exec = Jvm.exec) {k : Nat} {x : Int64} (hd : decode c.code pc = .ok (.lstore k, 2)) (hp : pc + 2 = pc') (hl : storeLocals L k (.long x) = some L') (K : Go p e below P (T.setTop (mkF m pc' L' (S)))) : Go p e below P (T.setTop (mkF m pc L (.long x :: S))) := by
  subst hp; exact K.via fun t k => XS.lstore X.here hx rfl hd rfl hl k
theorem o_astore (X : Stand p l e R s m args below meth c T locs cells slots) (hx : p.tables.exec = Jvm.exec) {k : Nat} {x : Value} (hd : decode c.code pc = .ok (.astore k, 2)) (hp : pc + 2 = pc') (hv : x.isRef = true) (hl : storeLocals L k x = some L') (K : Go p e below P (T.setTop (mkF m pc' L' (S)))) : Go p e below P (T.setTop (mkF m pc L (x :: S))) := by
  subst hp; exact K.via fun t k => XS.astore X.here hx rfl hd rfl hv hl k
theorem o_iconst (X : Stand p l e R s m args below meth c T locs cells slots) (hx : p.tables.exec = Jvm.exec) {i : Int} (v : Int32) (hd : decode c.code pc = .ok (.iconst i, 1)) (hp : pc + 1 = pc') (hv : Int32.ofInt i = v) (K : Go p e below P (T.setTop (mkF m pc' L (.int v :: S)))) : Go p e below P (T.setTop (mkF m pc L (S))) := by
  subst hp; exact K.via fun t k => XS.iconst X.here hx rfl hd (hv ▸ k)
theorem o_bipush (X : Stand p l e R s m args below meth c T locs cells slots) (hx : p.tables.exec = Jvm.exec) {i : Int} (v : Int32) (hd : decode c.code pc = .ok (.bipush i, 2)) (hp : pc + 2 = pc') (hv : (Int8.ofInt i).toInt32 = v) (K : Go p e below P (T.setTop (mkF m pc' L (.int v :: S)))) : Go p e below P (T.setTop (mkF m pc L (S))) := by
  subst hp; exact K.via fun t k => XS.bipush X.here hx rfl hd (hv ▸ k)
theorem o_lconst (X : Stand p l e R s m args below meth c T locs cells slots) (hx : p.tables.exec = Jvm.exec) {i : Fin 2} (v : Int64) (hd : decode c.code pc = .ok (.lconst i, 1)) (hp : pc + 1 = pc') (hv : Int64.ofNat i = v) (K : Go p e below P (T.setTop (mkF m pc' L (.long v :: S)))) : Go p e below P (T.setTop (mkF m pc L (S))) := by
  subst hp; exact K.via fun t k => XS.lconst X.here hx rfl hd (hv ▸ k)
theorem o_iadd (X : Stand p l e R s m args below meth c T locs cells slots) (hx : p.tables.exec = Jvm.exec) {x y : Int32} (hd : decode c.code pc = .ok (.iadd, 1)) (hp : pc + 1 = pc')  (K : Go p e below P (T.setTop (mkF m pc' L (.int (x + y) :: S)))) : Go p e below P (T.setTop (mkF m pc L (.int y :: .int x :: S))) := by
  subst hp; exact K.via fun t k => XS.iadd X.here hx rfl hd rfl k
theorem o_isub (X : Stand p l e R s m args below meth c T locs cells slots) (hx : p.tables.exec = Jvm.exec) {x y : Int32} (hd : decode c.code pc = .ok (.isub, 1)) (hp : pc + 1 = pc')  (K : Go p e below P (T.setTop (mkF m pc' L (.int (x - y) :: S)))) : Go p e below P (T.setTop (mkF m pc L (.int y :: .int x :: S))) := by
  subst hp; exact K.via fun t k => XS.isub X.here hx rfl hd rfl k
theorem o_iand (X : Stand p l e R s m args below meth c T locs cells slots) (hx : p.tables.exec = Jvm.exec) {x y : Int32} (hd : decode c.code pc = .ok (.iand, 1)) (hp : pc + 1 = pc')  (K : Go p e below P (T.setTop (mkF m pc' L (.int (x &&& y) :: S)))) : Go p e below P (T.setTop (mkF m pc L (.int y :: .int x :: S))) := by
  subst hp; exact K.via fun t k => XS.iand X.here hx rfl hd rfl k
theorem o_lsub (X : Stand p l e R s m args below meth c T locs cells slots) (hx : p.tables.exec = Jvm.exec) {x y : Int64} (hd : decode c.code pc = .ok (.lsub, 1)) (hp : pc + 1 = pc')  (K : Go p e below P (T.setTop (mkF m pc' L (.long (x - y) :: S)))) : Go p e below P (T.setTop (mkF m pc L (.long y :: .long x :: S))) := by
  subst hp; exact K.via fun t k => XS.lsub X.here hx rfl hd rfl k
theorem o_lmul (X : Stand p l e R s m args below meth c T locs cells slots) (hx : p.tables.exec = Jvm.exec) {x y : Int64} (hd : decode c.code pc = .ok (.lmul, 1)) (hp : pc + 1 = pc')  (K : Go p e below P (T.setTop (mkF m pc' L (.long (x * y) :: S)))) : Go p e below P (T.setTop (mkF m pc L (.long y :: .long x :: S))) := by
  subst hp; exact K.via fun t k => XS.lmul X.here hx rfl hd rfl k
theorem o_iushr (X : Stand p l e R s m args below meth c T locs cells slots) (hx : p.tables.exec = Jvm.exec) {x y : Int32} (hd : decode c.code pc = .ok (.iushr, 1)) (hp : pc + 1 = pc')  (K : Go p e below P (T.setTop (mkF m pc' L (.int (uI x y) :: S)))) : Go p e below P (T.setTop (mkF m pc L (.int y :: .int x :: S))) := by
  subst hp; exact K.via fun t k => XS.iushr X.here hx rfl hd rfl k
theorem o_idiv (X : Stand p l e R s m args below meth c T locs cells slots) (hx : p.tables.exec = Jvm.exec) {x y : Int32} (hd : decode c.code pc = .ok (.idiv, 1)) (hp : pc + 1 = pc') (hy : y ≠ 0) (K : Go p e below P (T.setTop (mkF m pc' L (.int (x / y) :: S)))) : Go p e below P (T.setTop (mkF m pc L (.int y :: .int x :: S))) := by
  subst hp; exact K.via fun t k => XS.idiv X.here hx rfl hd rfl hy k
theorem o_i2l (X : Stand p l e R s m args below meth c T locs cells slots) (hx : p.tables.exec = Jvm.exec) {x : Int32} (hd : decode c.code pc = .ok (.i2l, 1)) (hp : pc + 1 = pc')  (K : Go p e below P (T.setTop (mkF m pc' L (.long x.toInt64 :: S)))) : Go p e below P (T.setTop (mkF m pc L (.int x :: S))) := by
  subst hp; exact K.via fun t k => XS.i2l X.here hx rfl hd rfl k
theorem o_dup (X : Stand p l e R s m args below meth c T locs cells slots) (hx : p.tables.exec = Jvm.exec) {x : Value} (hd : decode c.code pc = .ok (.dup, 1)) (hp : pc + 1 = pc') (hc : x.category = 1) (K : Go p e below P (T.setTop (mkF m pc' L (x :: x :: S)))) : Go p e below P (T.setTop (mkF m pc L (x :: S))) := by
  subst hp; exact K.via fun t k => XS.dup X.here hx rfl hd rfl hc k
theorem o_goto (X : Stand p l e R s m args below meth c T locs cells slots) (hx : p.tables.exec = Jvm.exec) {o : Int} (hd : decode c.code pc = .ok (.goto o, 3)) (ho : 0 ≤ (pc : Int) + o) (hp : ((pc : Int) + o).toNat = pc') (K : Go p e below P (T.setTop (mkF m pc' L S))) : Go p e below P (T.setTop (mkF m pc L S)) :=
  K.via fun t k => XS.goto X.here hx rfl rfl hd ho hp k
theorem o_ifY (X : Stand p l e R s m args below meth c T locs cells slots) (hx : p.tables.exec = Jvm.exec) {cd : ClassFile.Cond} {x : Int32} {o : Int} (hd : decode c.code pc = .ok (.ifCond cd o, 3)) (hc : if_icmp.holds cd x 0 = true) (ho : 0 ≤ (pc : Int) + o) (hp : ((pc : Int) + o).toNat = pc') (K : Go p e below P (T.setTop (mkF m pc' L S))) : Go p e below P (T.setTop (mkF m pc L (.int x :: S))) :=
  K.via fun t k => XS.ifYes X.here hx rfl rfl hd rfl ((if0 _ _).trans hc) ho hp k
theorem o_ifN (X : Stand p l e R s m args below meth c T locs cells slots) (hx : p.tables.exec = Jvm.exec) {cd : ClassFile.Cond} {x : Int32} {o : Int} (hd : decode c.code pc = .ok (.ifCond cd o, 3)) (hc : if_icmp.holds cd x 0 = false) (hp : pc + 3 = pc') (K : Go p e below P (T.setTop (mkF m pc' L S))) : Go p e below P (T.setTop (mkF m pc L (.int x :: S))) := by
  subst hp; exact K.via fun t k => XS.ifNo X.here hx rfl hd rfl ((if0 _ _).trans hc) k
theorem o_lcmp (X : Stand p l e R s m args below meth c T locs cells slots) (hx : p.tables.exec = Jvm.exec) {x y : Int64} (hd : decode c.code pc = .ok (.lcmp, 1)) (hp : pc + 1 = pc') (K : Go p e below P (T.setTop (mkF m pc' L (.int (lcmpW x y) :: S)))) : Go p e below P (T.setTop (mkF m pc L (.long y :: .long x :: S))) := by
  subst hp; exact K.via fun t k => XS.lcmp X.here hx rfl hd rfl k
theorem tltL {x y : Int64} (q : x < y) : if_icmp.holds .lt (lcmpW x y) 0 = true ∧ if_icmp.holds .ge (lcmpW x y) 0 = false ∧ if_icmp.holds .gt (lcmpW y x) 0 = true ∧ if_icmp.holds .le (lcmpW y x) 0 = false :=
  ⟨(tlt ((lw_lt x y).mpr q)).1, (tlt ((lw_lt x y).mpr q)).2.1, (tlt ((lw_gt y x).mpr q)).2.2.1, (tlt ((lw_gt y x).mpr q)).2.2.2⟩
theorem fltL {x y : Int64} (q : ¬ x < y) : if_icmp.holds .lt (lcmpW x y) 0 = false ∧ if_icmp.holds .ge (lcmpW x y) 0 = true ∧ if_icmp.holds .gt (lcmpW y x) 0 = false ∧ if_icmp.holds .le (lcmpW y x) 0 = true :=
  ⟨(flt (mt (lw_lt x y).mp q)).1, (flt (mt (lw_lt x y).mp q)).2.1, (flt (mt (lw_gt y x).mp q)).2.2.1, (flt (mt (lw_gt y x).mp q)).2.2.2⟩
theorem teqL {x y : Int64} (q : x = y) : if_icmp.holds .eq (lcmpW x y) 0 = true ∧ if_icmp.holds .ne (lcmpW x y) 0 = false := teq ((lw_eq x y).mpr q)
theorem feqL {x y : Int64} (q : ¬ x = y) : if_icmp.holds .eq (lcmpW x y) 0 = false ∧ if_icmp.holds .ne (lcmpW x y) 0 = true := feq (mt (lw_eq x y).mp q)
theorem o_ldcI (X : Stand p l e R s m args below meth c T locs cells slots) (hx : p.tables.exec = Jvm.exec) (hZ : Z.Warmed39 s.vm) {own : String} {index : Nat} (v : Int32) (hown : s.vm.findClass own = some m.cls) (w : (Cond.constant own index v).before a0 Z = true) (hd : decode c.code pc = .ok (.ldc index, 2)) (hp : pc + 2 = pc') (K : Go p e below P (T.setTop (mkF m pc' L (.int v :: S)))) : Go p e below P (T.setTop (mkF m pc L S)) := by
  subst hp; exact K.via (X.ldcInt hx hown (mvT hZ w) (g := mkF m pc L S) rfl hd)
/-- what a body's end owes -/
abbrev Owe (s : State) (Q : Option Value → Heap → List Loc → Prop) (C D : Nat) : Outcome → State → Prop := fun o U' => ∃ v L, o = .returned v ∧ Q v U'.heap L ∧ FrameEnd s o U' L C D
/-- a body's contract -/
abbrev Con (l : Launch) (y : MethodName) (bytes : ByteArray) (ml : Nat) (ret : Option FieldType) (ws : List Jvm.Cond) (rm : Room) (as' : Array Value) (Z : State) (h0 : Heap) (Q : Option Value → Heap → List Loc → Prop) (C D : Nat) : Prop :=
  MetFree l y (head1 (Jvm.Cond.code y bytes ml ret :: ws) rm) (fun b U => b = as' ∧ Z.Warmed39 U.vm ∧ U.heap = h0) (fun _ _ _ _ _ => True) (fun _ U o U' => ∃ v L, o = .returned v ∧ Q v U'.heap L ∧ FrameEnd U o U' L C D)
theorem own_body {y : MethodName} {bytes : ByteArray} {ml : Nat} {ret : Option FieldType} {ws : List Jvm.Cond} {rm : Room} {as' : Array Value} {h0 : Heap} {Q : Option Value → Heap → List Loc → Prop} {C D : Nat} (hpl : plainFor y = true)
    (K : ∀ (p : Program) (e : Env) (s : State) (m : MethodId) (below : List Frame) (meth : Method) (c : Code) (s₁ : State), p.tables.exec = Jvm.exec → c.code = bytes → meth.locks = false → c.maxLocals = ml → s.vm.findClass y.cls = some m.cls → meth.name = y.name → meth.sig.returnType = ret → Z.Warmed39 s.vm →
      Stand p l e rm s m as' below meth c s₁ [] 0 0 → s₁.heap = h0 → Go p e below (Owe s Q C D) (s₁.setTop (entryFrame m as' ml))) : Con l y bytes ml ret ws rm as' Z h0 Q C D := by
  refine MetFree.of_bodySF hpl hisR ?_
  intro p e s m args below meth c s₁ Bd hml0 hP hK
  obtain ⟨rfl, hZ, hh⟩ := hP
  exact K p e s m below meth c s₁ Bd.exec Bd.bytes (BodyLoose.notSynchronized Bd) hml0 (findClass_of_methodNamed Bd.named) (name_of_methodNamed Bd.named Bd.method).1 Bd.returns hZ (Stand.of_body Bd) (by rw [← hh, Bd.state]; rfl)
theorem o_ret (X : Stand p l e R s m args below meth c T locs cells slots) (hx : p.tables.exec = Jvm.exec) {Q : Option Value → Heap → List Loc → Prop} {C D : Nat} {w : Value} {t : FieldType} {i : Instr} (hlocks : meth.locks = false) (hret : meth.sig.returnType = some t) (hn : narrow t w = w)
    (hi : (i = .ireturn ∧ (t = .int ∨ t = .boolean ∨ t = .byte ∨ t = .char ∨ t = .short) ∧ ∃ z, w = .int z) ∨ (i = .lreturn ∧ t = .long ∧ ∃ z, w = .long z) ∨ (i = .dreturn ∧ t = .double ∧ ∃ z, w = .double z) ∨ (i = .freturn ∧ t = .float ∧ ∃ z, w = .float z) ∨ (i = .areturn ∧ t.isReference = true ∧ w.isRef = true))
    (hd : decode c.code pc = .ok (i, 1)) (hc : cells ≤ C) (hs : slots ≤ D) (hq : Q (some w) T.heap locs) : Go p e below (Owe s Q C D) (T.setTop (mkF m pc L (w :: S))) := by
  obtain ⟨fs, hr, hrun, hended, hW, hsame⟩ := X.leave (v := some w) (fun h => by rw [hret] at h; cases h) hlocks
  exact ⟨_, _, retOut X hx hret hn hi hd hr, hrun, hended, _, _, rfl, hq, ⟨_, rfl⟩, hW, hsame.mono hc hs⟩
theorem o_retI (X : Stand p l e R s m args below meth c T locs cells slots) (hx : p.tables.exec = Jvm.exec) {Q : Option Value → Heap → List Loc → Prop} {C D : Nat} {z : Int32} (hlocks : meth.locks = false) (hret : meth.sig.returnType = some .int) (hd : decode c.code pc = .ok (.ireturn, 1)) (hc : cells ≤ C) (hs : slots ≤ D) (hq : Q (some (.int z)) T.heap locs) : Go p e below (Owe s Q C D) (T.setTop (mkF m pc L (.int z :: S))) :=
  o_ret X hx hlocks hret rfl (Or.inl ⟨rfl, Or.inl rfl, z, rfl⟩) hd hc hs hq
theorem o_retZ (X : Stand p l e R s m args below meth c T locs cells slots) (hx : p.tables.exec = Jvm.exec) {Q : Option Value → Heap → List Loc → Prop} {C D : Nat} {z : Int32} (hz : narrow .boolean (.int z) = .int z) (hlocks : meth.locks = false) (hret : meth.sig.returnType = some .boolean) (hd : decode c.code pc = .ok (.ireturn, 1)) (hc : cells ≤ C) (hs : slots ≤ D) (hq : Q (some (.int z)) T.heap locs) : Go p e below (Owe s Q C D) (T.setTop (mkF m pc L (.int z :: S))) :=
  o_ret X hx hlocks hret hz (Or.inl ⟨rfl, Or.inr (Or.inl rfl), z, rfl⟩) hd hc hs hq
theorem o_retV (X : Stand p l e R s m args below meth c T locs cells slots) (hx : p.tables.exec = Jvm.exec) {Q : Option Value → Heap → List Loc → Prop} {C D : Nat} (hlocks : meth.locks = false) (hret : meth.sig.returnType = none) (hd : decode c.code pc = .ok (.return_, 1)) (hc : cells ≤ C) (hs : slots ≤ D) (hq : Q none T.heap locs) : Go p e below (Owe s Q C D) (T.setTop (mkF m pc L [])) := by
  obtain ⟨fs, hr, hrun, hended, hW, hsame⟩ := X.leave (v := none) (fun _ => rfl) hlocks
  exact ⟨_, _, X.returnOut hx hret hd hr, hrun, hended, _, _, rfl, hq, ⟨_, rfl⟩, hW, hsame.mono hc hs⟩
theorem o_callI (X : Stand p l e R s m args below meth c T locs cells slots) (hx : p.tables.exec = Jvm.exec) (hZ : Z.Warmed39 s.vm) {own : String} {index : Nat} {y : MethodName} {bytes : ByteArray} {maxL : Nat} {rm : Room} (W : Nat) {argsL rest : List Value} {a : Addr} {Q : Option Value → Heap → List Loc → Prop} {cells' slots' : Nat}
    (hn : y.name = "<init>") (hown : s.vm.findClass own = some m.cls) (w1 : (Cond.methodLink own index y).before a0 Z = true) (w2 : (Cond.instanceMethod y).before a0 Z = true) (w3 : (Cond.initialized y.cls).before a0 Z = true) (w4 : (Cond.code y bytes maxL none).before a0 Z = true) (hy : y.cls ≠ "java/lang/invoke/MethodHandle" ∧ y.cls ≠ "java/lang/invoke/VarHandle")
    (hM : MetFree l y (head1 [Cond.code y bytes maxL none] rm) (fun b U => b = (.ref a :: argsL).toArray ∧ Z.Warmed39 U.vm ∧ U.heap = h) (fun _ _ _ _ _ => True) (fun _ U o U' => ∃ v L, o = .returned v ∧ Q v U'.heap L ∧ FrameEnd U o U' L rm.cells rm.slots))
    (hf : rm.frames + 1 ≤ R.frames) (hl : W + (maxL + 11) + rm.locals ≤ R.locals) (hcc : cells + rm.cells = cells') (hss : slots + rm.slots = slots') (hc : cells' ≤ R.cells) (hs : slots' ≤ R.slots) (eT : T.heap = h) (hsize : L.size = c.maxLocals) (hlen : ∀ sig, parseMethodDescriptor y.desc = some sig → argsL.length = sig.parameters.length) (hstk : S = argsL.reverse ++ .ref a :: rest)
    (hW : (rest.map fun v => v.category).sum = W) (hd : decode c.code pc = .ok (.invokespecial index, 3)) (hp : pc + 3 = pc') (K : ∀ T' v Lc, Stand p l e R s m args below meth c T' (locs ++ Lc) cells' slots' → Q v T'.heap Lc → Go p e below P (T'.setTop (mkF m pc' L (v.toList ++ rest)))) : Go p e below P (T.setTop (mkF m pc L S)) := by
  subst hp hcc hss
  obtain ⟨v, _, ⟨T', L', k', n'⟩, -, X', ⟨Lc, hQ, l', y', z'⟩, st⟩ := X.specialBack hx hn hown (mvT hZ w1) (mvT hZ w2) (mvT hZ w4) hy (backOf (W := W) hM hZ w4 w3 hf hl) (g := mkF m pc L S) rfl hsize (Steps.refl _) (a := a) (argsL := argsL) (rest := rest) hlen hstk (by show 2 * 0 + _ ≤ _; rw [hW]; exact Nat.le_of_eq (by simp)) hd (fun _ _ => ⟨rfl, eT, hc, hs⟩)
  dsimp only [Pt.U, Pt.locs, Pt.cells, Pt.slots] at X' l' y' z' st hQ
  subst l' y' z'
  exact (K T' v Lc X' hQ).tr st
theorem o_callV (X : Stand p l e R s m args below meth c T locs cells slots) (hx : p.tables.exec = Jvm.exec) (hZ : Z.Warmed39 s.vm) {own C : String} {index : Nat} {y : MethodName} {bytes : ByteArray} {maxL : Nat} {ret : Option FieldType} {rm : Room} (W : Nat) {argsL rest : List Value} {a : Addr} {Q : Option Value → Heap → List Loc → Prop} {cells' slots' : Nat}
    (hown : s.vm.findClass own = some m.cls) (w1 : (Cond.methodLink own index y).before a0 Z = true) (w2 : (Cond.declares y).before a0 Z = true) (w5 : (Cond.selects C y y).before a0 Z = true) (w6 : (Cond.instanceMethod y).before a0 Z = true) (w3 : (Cond.initialized y.cls).before a0 Z = true) (w4 : (Cond.code y bytes maxL ret).before a0 Z = true) (hy : y.cls ≠ "java/lang/invoke/MethodHandle" ∧ y.cls ≠ "java/lang/invoke/VarHandle")
    (hM : MetFree l y (head1 [Cond.code y bytes maxL ret] rm) (fun b U => b = (.ref a :: argsL).toArray ∧ Z.Warmed39 U.vm ∧ U.heap = h) (fun _ _ _ _ _ => True) (fun _ U o U' => ∃ v L, o = .returned v ∧ Q v U'.heap L ∧ FrameEnd U o U' L rm.cells rm.slots))
    (hE : Exa Z h a C) (hf : rm.frames + 1 ≤ R.frames) (hl : W + (maxL + 11) + rm.locals ≤ R.locals) (hcc : cells + rm.cells = cells') (hss : slots + rm.slots = slots') (hc : cells' ≤ R.cells) (hs : slots' ≤ R.slots) (eT : T.heap = h) (hsize : L.size = c.maxLocals) (hlen : ∀ sig, parseMethodDescriptor y.desc = some sig → argsL.length = sig.parameters.length) (hstk : S = argsL.reverse ++ .ref a :: rest)
    (hW : (rest.map fun v => v.category).sum = W) (hd : decode c.code pc = .ok (.invokevirtual index, 3)) (hp : pc + 3 = pc') (K : ∀ T' v Lc, Stand p l e R s m args below meth c T' (locs ++ Lc) cells' slots' → Q v T'.heap Lc → Go p e below P (T'.setTop (mkF m pc' L (v.toList ++ rest)))) : Go p e below P (T.setTop (mkF m pc L S)) := by
  subst hp hcc hss
  obtain ⟨cq, kq, qa, qb, qc⟩ := isOf hZ eT hE
  obtain ⟨v, _, ⟨T', L', k', n'⟩, -, X', ⟨Lc, hQ, l', y', z'⟩, st⟩ := X.virtualBack hx (y := y) (z := y) hown (mvT hZ w1) (mvT hZ w2) (notFace_of_selects (args := #[]) (mvT hZ w5)) (mvT hZ w5) (mvT hZ w6) hy (backOf (W := W) hM hZ w4 w3 hf hl) qa qc (g := mkF m pc L S) rfl hsize (Steps.refl _) (argsL := argsL) (rest := rest) hlen hstk (by show 2 * 0 + _ ≤ _; rw [hW]; exact Nat.le_of_eq (by simp)) hd (fun _ _ => ⟨rfl, eT, hc, hs⟩)
  dsimp only [Pt.U, Pt.locs, Pt.cells, Pt.slots] at X' l' y' z' st hQ
  subst l' y' z'
  exact (K T' v Lc X' hQ).tr st
theorem o_new (X : Stand p l e R s m args below meth c T locs cells slots) (hx : p.tables.exec = Jvm.exec) (hZ : Z.Warmed39 s.vm) {own C : String} {index n : Nat} {cells' slots' : Nat} (hown : s.vm.findClass own = some m.cls) (w1 : (Cond.classLink own index C).before a0 Z = true) (w2 : (Cond.instantiable C n).before a0 Z = true) (w3 : (Cond.initialized C).before a0 Z = true) (eT : T.heap = h)
    (hd : decode c.code pc = .ok (.new index, 3)) (hp : pc + 3 = pc') (hcc : cells + 1 = cells') (hss : slots + n = slots') (hc : cells' ≤ R.cells) (hs : slots' ≤ R.slots)
    (K : ∀ T' h' a, a = h.size → Stand p l e R s m args below meth c T' locs cells' slots' → T'.heap = h' → Ext h h' → Exa Z h' a C → (∀ {O nm d : String} {ty : FieldType}, Laid Z a0 C O nm d → parseFieldDescriptor d = some ty → Fld Z h' a O nm d (defaultValue ty)) → Go p e below P (T'.setTop (mkF m pc' L (.ref a :: S)))) : Go p e below P (T.setTop (mkF m pc L S)) := by
  subst hp hcc hss
  obtain ⟨T', h', X', e', E', A', D', -, st⟩ := newO X hx hZ hown w1 w2 w3 eT (g := mkF m pc L S) rfl hd hc hs
  exact (K T' h' h.size rfl X' e' E' A' D').via st
theorem o_initO (X : Stand p l e R s m args below meth c T locs cells slots) (hx : p.tables.exec = Jvm.exec) (hZ : Z.Warmed39 s.vm) {own : String} {index : Nat} {a : Addr} (W : Nat) (hown : s.vm.findClass own = some m.cls) (w1 : (Cond.methodLink own index Lib.objectInit).before a0 Z = true) (w2 : (Cond.instanceMethod Lib.objectInit).before a0 Z = true) (w3 : (Cond.code Lib.objectInit ⟨#[0xb1]⟩ 1 none).before a0 Z = true) (eT : T.heap = h) (hsize : L.size = c.maxLocals)
    (hd : decode c.code pc = .ok (.invokespecial index, 3)) (hp : pc + 3 = pc') (hf : 1 ≤ R.frames) (hW : (S.map fun v => v.category).sum = W) (hl : W + 12 ≤ R.locals) (K : ∀ T', Stand p l e R s m args below meth c T' locs cells slots → T'.heap = h → Go p e below P (T'.setTop (mkF m pc' L S))) : Go p e below P (T.setTop (mkF m pc L (.ref a :: S))) := by
  subst hp
  obtain ⟨T', X', e', st⟩ := initO X hx hZ hown w1 w2 w3 eT (g := mkF m pc L (.ref a :: S)) rfl hsize rfl hd hf (W := W) (by show 2 * 0 + _ ≤ _; rw [hW]; exact Nat.le_of_eq (by simp)) hl
  exact (K T' X' e').via st
theorem o_getF (X : Stand p l e R s m args below meth c T locs cells slots) (hx : p.tables.exec = Jvm.exec) (hZ : Z.Warmed39 s.vm) {own O n d : String} {index : Nat} {a : Addr} {v : Value} (hown : s.vm.findClass own = some m.cls) (w : (Cond.fieldLink own index O n d).before a0 Z = true) (eT : T.heap = h) (F : Fld Z h a O n d v) (hd : decode c.code pc = .ok (.getfield index, 3)) (hp : pc + 3 = pc')
    (K : ∀ T', Stand p l e R s m args below meth c T' locs cells slots → T'.heap = h → Go p e below P (T'.setTop (mkF m pc' L (v :: S)))) : Go p e below P (T.setTop (mkF m pc L (.ref a :: S))) := by
  subst hp
  obtain ⟨T', X', e', st⟩ := getF X hx hZ hown (host := "") (Or.inl w) Via.refl eT F (g := mkF m pc L (.ref a :: S)) rfl rfl hd
  exact (K T' X' e').via st
theorem o_putF (X : Stand p l e R s m args below meth c T locs cells slots) (hx : p.tables.exec = Jvm.exec) (hZ : Z.Warmed39 s.vm) {own O n d C : String} {index kk : Nat} {a : Addr} {v old : Value} {ty : FieldType} (hown : s.vm.findClass own = some m.cls) (w : (Cond.fieldLink own index O n d).before a0 Z = true) (eT : T.heap = h) (F : Fld Z h a O n d old) (E : Exa Z h a C)
    (LL : (Cond.lays C O n d).before a0 Z = true ∨ ((Cond.laysFinal C O n d).before a0 Z = true ∧ own = O ∧ meth.name = "<init>")) (wi : (Cond.instantiable C kk).before a0 Z = true) (hty : parseFieldDescriptor d = some ty) (hn : narrow ty v = v) (hf : fits ty v = true) (hd : decode c.code pc = .ok (.putfield index, 3)) (hp : pc + 3 = pc')
    (K : ∀ T' h', Stand p l e R s m args below meth c T' (locs ++ [⟨a, Jvm.RoadKit.slotOf Z O n d⟩]) cells slots → T'.heap = h' → Wr h h' a (Jvm.RoadKit.slotOf Z O n d) v → Go p e below P (T'.setTop (mkF m pc' L S))) : Go p e below P (T.setTop (mkF m pc L (v :: .ref a :: S))) := by
  subst hp
  obtain ⟨T', h', X', e', W', st⟩ := putF X hx hZ hown (host := "") (Or.inl w) Via.refl eT F E LL wi hty hn hf (g := mkF m pc L (v :: .ref a :: S)) rfl rfl hd
  exact (K T' h' X' e' W').via st
theorem o_newPE (X : Stand p l e R s m args below meth c T locs cells slots) (hx : p.tables.exec = Jvm.exec) (hZ : Z.Warmed39 s.vm) {aty : ArrayType} {n : Int32} {cells' slots' : Nat} (cap : Nat) (w : (Cond.arrayClass (newarray.typeOf aty)).before a0 Z = true) (eT : T.heap = h) (hd : decode c.code pc = .ok (.newarray aty, 2)) (hp : pc + 2 = pc') (hn : ¬ n < 0) (hcap : n.toNatClampNeg ≤ cap) (hb : cap * 8 ≤ 536870912) (hcc : cells + 1 = cells') (hss : slots + cap = slots') (hc : cells' ≤ R.cells) (hs : slots' ≤ R.slots) {ad : String} (had : "[" ++ (newarray.typeOf aty).toString = ad)
    (K : ∀ T' h' a k, a = h.size → Stand p l e R s m args below meth c T' locs cells' slots' → T'.heap = h' → Ext h h' → Arv Z h' a k (newarray.typeOf aty) n [] (defaultValue (newarray.typeOf aty)) → Exa Z h' a ad → Go p e below P (T'.setTop (mkF m pc' L (.ref a :: S)))) : Go p e below P (T.setTop (mkF m pc L (.int n :: S))) := by
  subst hp hcc hss
  obtain ⟨T', h', cA, X', e', E', A', B', st⟩ := newPE X hx hZ w eT (g := mkF m pc L (.int n :: S)) rfl hd rfl hn hcap hb hc hs had
  exact (K T' h' h.size cA rfl X' e' E' (Arv.new A' hn) B').via st
theorem o_arraylength (X : Stand p l e R s m args below meth c T locs cells slots) (hx : p.tables.exec = Jvm.exec) (hZ : Z.Warmed39 s.vm) {a : Addr} {k : ClassId} {n : Int32} {ty : FieldType} {vs : List Value} {d : Value} (eT : T.heap = h) (V : Arv Z h a k ty n vs d) (hd : decode c.code pc = .ok (.arraylength, 1)) (hp : pc + 1 = pc') (K : Go p e below P (T.setTop (mkF m pc' L (.int n :: S)))) : Go p e below P (T.setTop (mkF m pc L (.ref a :: S))) := by
  subst hp
  obtain ⟨cl, A, q1, q2, q3, q4, q5⟩ := V
  rw [← len_of q2 q3] at K
  exact K.via fun t k => X.arraylength hx (by rw [eT]; exact A.1) (State.isArrayOf_alike hZ.alike A.2.1) (g := mkF m pc L (.ref a :: S)) rfl rfl hd t k
theorem o_clone (X : Stand p l e R s m args below meth c T locs cells slots) (hx : p.tables.exec = Jvm.exec) (hZ : Z.Warmed39 s.vm) {own ad : String} {index : Nat} {a : Addr} {k : ClassId} {z : Int32} {ty : FieldType} {vs : List Value} {d : Value} {cells' slots' : Nat} (W cap : Nat) (hown : s.vm.findClass own = some m.cls)
    (w1 : (Cond.methodLink own index ⟨ad, "clone", "()Ljava/lang/Object;"⟩).before a0 Z = true) (w2 : (Cond.sameMethod ad "java/lang/Object" "clone" "()Ljava/lang/Object;").before a0 Z = true) (w3 : (Cond.native ⟨"java/lang/Object", "clone", "()Ljava/lang/Object;"⟩).before a0 Z = true)
    (w4 : (Cond.instanceMethod ⟨"java/lang/Object", "clone", "()Ljava/lang/Object;"⟩).before a0 Z = true) (w5 : (Cond.selects ad ⟨ad, "clone", "()Ljava/lang/Object;"⟩ ⟨"java/lang/Object", "clone", "()Ljava/lang/Object;"⟩).before a0 Z = true) (w6 : (Cond.castable ad "java/lang/Cloneable").before a0 Z = true)
    (eT : T.heap = h) (V : Arv Z h a k ty z vs d) (E : Exa Z h a ad) (hsize : L.size = c.maxLocals) (hd : decode c.code pc = .ok (.invokevirtual index, 3)) (hp : pc + 3 = pc') (hf : 1 ≤ R.frames) (hW : (S.map fun v => v.category).sum = W) (hl : W + 14 ≤ R.locals) (hcap : z.toNatClampNeg ≤ cap) (hcc : cells + 1 = cells') (hss : slots + cap = slots') (hc : cells' ≤ R.cells) (hs : slots' ≤ R.slots)
    (K : ∀ T' h' b, b = h.size → Stand p l e R s m args below meth c T' locs cells' slots' → T'.heap = h' → Ext h h' → Arv Z h' b k ty z vs d → Exa Z h' b ad → Go p e below P (T'.setTop (mkF m pc' L (.ref b :: S)))) : Go p e below P (T.setTop (mkF m pc L (.ref a :: S))) := by
  subst hp hcc hss
  obtain ⟨T', h', X', e', E', V', B', st⟩ := cloneH X hx hZ hown w1 w2 w3 w4 w5 w6 eT V.arh E (g := mkF m pc L (.ref a :: S)) rfl hsize rfl hd hf (W := W) (by show 2 * 0 + _ ≤ _; rw [hW]; exact Nat.le_of_eq (by simp)) hl hcap hc hs
  exact (K T' h' h.size rfl X' e' E' V' B').via st
theorem o_cast (X : Stand p l e R s m args below meth c T locs cells slots) (hx : p.tables.exec = Jvm.exec) (hZ : Z.Warmed39 s.vm) {own K0 : String} {index : Nat} {a : Addr} (hown : s.vm.findClass own = some m.cls) (w : (Cond.classLink own index K0).before a0 Z = true) (eT : T.heap = h) (F : Ins Z h a K0 true) (hd : decode c.code pc = .ok (.checkcast index, 3)) (hp : pc + 3 = pc')
    (K : ∀ T', Stand p l e R s m args below meth c T' locs cells slots → T'.heap = h → Go p e below P (T'.setTop (mkF m pc' L (.ref a :: S)))) : Go p e below P (T.setTop (mkF m pc L (.ref a :: S))) := by
  subst hp
  obtain ⟨T', X', e', st⟩ := castY X hx hZ hown w eT F (g := mkF m pc L (.ref a :: S)) rfl rfl hd
  exact (K T' X' e').via st
end Own
theorem pd_0 : parseMethodDescriptor "([II)V" = some ⟨[(.array .int), .int], none⟩ := by decide +kernel
theorem pd_1 : parseMethodDescriptor "()I" = some ⟨[], some .int⟩ := by decide +kernel
theorem d1_0 : decode prog_50_method_1_code 0 = .ok (.aload_n 0, 1) := by decide +kernel
theorem d1_1 : decode prog_50_method_1_code 1 = .ok (.invokespecial 1, 3) := by decide +kernel
theorem d1_4 : decode prog_50_method_1_code 4 = .ok (.aload_n 0, 1) := by decide +kernel
theorem d1_5 : decode prog_50_method_1_code 5 = .ok (.aload_n 1, 1) := by decide +kernel
theorem d1_6 : decode prog_50_method_1_code 6 = .ok (.invokevirtual 7, 3) := by decide +kernel
theorem d1_9 : decode prog_50_method_1_code 9 = .ok (.checkcast 8, 3) := by decide +kernel
theorem d1_12 : decode prog_50_method_1_code 12 = .ok (.putfield 13, 3) := by decide +kernel
theorem d1_15 : decode prog_50_method_1_code 15 = .ok (.aload_n 0, 1) := by decide +kernel
theorem d1_16 : decode prog_50_method_1_code 16 = .ok (.iload_n 2, 1) := by decide +kernel
theorem d1_17 : decode prog_50_method_1_code 17 = .ok (.putfield 18, 3) := by decide +kernel
theorem d1_20 : decode prog_50_method_1_code 20 = .ok (.return_, 1) := by decide +kernel
theorem pn_1 : plainName "com/example/anagrafe/anagrafe/soap/ResultSet" = true := by first | (simp [plainName, overriddenIn]; done) | decide +kernel
theorem ef_1 (m : MethodId) (x0 : Addr) (x1 : Addr) (x2 : Int32) : entryFrame m #[(.ref x0), (.ref x1), (.int x2)] 3 = mkF m 0 #[.val (.ref x0), .val (.ref x1), .val (.int x2)] [] := by first | (simp [entryFrame, mkF, argsToLocals, Value.category]; done) | rfl
def Q1 (Z : State) (aa : Addr) (bb : Addr) (u0 : Value) (u1 : Value) (nn : Int32) (x1 : Int32) (k_bb : ClassId) (h0 : Heap) (n0 : Nat) (v : Option Value) (h : Heap) (L : List Loc) : Prop := v = none ∧ Fr n0 L ∧ Keep h0 h [aa] ∧ Exa Z h aa "com/example/anagrafe/anagrafe/soap/ResultSet" ∧ Fld Z h aa "com/example/anagrafe/anagrafe/soap/ResultSet" "pageSize" "I" (.int x1) ∧ ∃ bn0 kn0, n0 ≤ bn0 ∧ h0.size ≤ bn0 ∧ Fld Z h aa "com/example/anagrafe/anagrafe/soap/ResultSet" "physdocs" "[I" (.ref bn0) ∧ Arv Z h bn0 kn0 .int nn [] (.int (0 : Int32))
set_option maxRecDepth 65536 in
set_option maxHeartbeats 40000000 in
theorem rm1 (l : Launch) (Z : State) (a0 : Array Value) (hw : ∀ d ∈ tables_1, d.before a0 Z = true) (ws : List Jvm.Cond) (aa : Addr) (bb : Addr) (u0 : Value) (u1 : Value) (nn : Int32) (x1 : Int32) (k_bb : ClassId) (h0 : Heap) (n0 : Nat) (Z0 : n0 ≤ h0.size) (E_aa : Exa Z h0 aa "com/example/anagrafe/anagrafe/soap/ResultSet") (F_physdocs_aa : Fld Z h0 aa "com/example/anagrafe/anagrafe/soap/ResultSet" "physdocs" "[I" u0) (F_pageSize_aa : Fld Z h0 aa "com/example/anagrafe/anagrafe/soap/ResultSet" "pageSize" "I" u1) (g_aa : n0 ≤ aa) (E_bb : Exa Z h0 bb "[I") (V_bb : Arv Z h0 bb k_bb .int nn [] (.int (0 : Int32))) (ne_bb_aa : bb ≠ aa) (hcap : nn.toNatClampNeg ≤ 15) :
    Con l (⟨"com/example/anagrafe/anagrafe/soap/ResultSet", "<init>", "([II)V"⟩ : MethodName) prog_50_method_1_code 3 none ws ({ frames := 1, cells := 1, slots := 15, locals := 15 } : Room) #[(.ref aa), (.ref bb), (.int x1)] Z h0 (Q1 Z aa bb u0 u1 nn x1 k_bb h0 n0) ({ frames := 1, cells := 1, slots := 15, locals := 15 } : Room).cells ({ frames := 1, cells := 1, slots := 15, locals := 15 } : Room).slots := by
  refine own_body (plainFor_of_name pn_1) ?_
  intro p e s m below meth c s₁ hx hby hlk hml hown hnm hrt hZ X0 e0
  have w : ∀ (k : Nat) (d : Jvm.Cond), tables_1[k]? = some d → d.before a0 Z = true := fun k d h => hw d (List.mem_of_getElem? h)
  have N0 := Fr.nil n0
  have K0 := Keep.refl h0 [aa]
  rw [ef_1]
  generalize hOWE : Owe s _ _ _ = OWE
  refine o_aloadN X0 hx (hb hby d1_0) (pc' := 1) rfl rfl rfl ?_
  refine o_initO X0 hx hZ 0 hown (w 7 _ rfl) (w 8 _ rfl) (w 9 _ rfl) e0 (by rw [hml]; rfl) (hb hby d1_1) (pc' := 4) rfl (by decide) rfl (by decide) ?_
  intro T1 X1 e1
  refine o_aloadN X1 hx (hb hby d1_4) (pc' := 5) rfl rfl rfl ?_
  refine o_aloadN X1 hx (hb hby d1_5) (pc' := 6) rfl rfl rfl ?_
  refine o_clone X1 hx hZ 1 15 hown (w 10 _ rfl) (w 11 _ rfl) (w 15 _ rfl) (w 13 _ rfl) (w 14 _ rfl) (w 16 _ rfl) e1 V_bb E_bb (by rw [hml]; rfl) (hb hby d1_6) (pc' := 9) rfl (by decide) rfl (by decide) hcap (cells' := 1) rfl (slots' := 15) rfl (by decide) (by decide) ?_
  intro T2 h2 b2 qa2 X2 e2 Ex2 A2 Ea2
  have g_b2 : n0 ≤ b2 := by rw [qa2]; exact Z0
  have sz_b2 : h0.size ≤ b2 := by rw [qa2]; exact K0.1
  have ne_aa_b2 : aa ≠ b2 := by rw [qa2]; exact Nat.ne_of_lt E_aa.lt
  have ne_bb_b2 : bb ≠ b2 := by rw [qa2]; exact Nat.ne_of_lt E_bb.lt
  have ne_bb_b2 : bb ≠ b2 := by rw [qa2]; exact Nat.ne_of_lt V_bb.lt
  have E3_aa := Exa.ext Ex2 E_aa
  have F3_aa_physdocs := Fld.ext Ex2 F_physdocs_aa
  have F3_aa_pageSize := Fld.ext Ex2 F_pageSize_aa
  have E3_bb := Exa.ext Ex2 E_bb
  have V3_bb := Arv.ext V_bb Ex2
  have Z2 : n0 ≤ h2.size := Nat.le_trans Z0 Ex2.1
  have K2 := Keep.ext K0 Ex2
  refine o_cast X2 hx hZ hown (w 17 _ rfl) e2 (Ins.self Ea2) (hb hby d1_9) (pc' := 12) rfl ?_
  intro T4 X4 e4
  refine o_putF X4 hx hZ hown (w 19 _ rfl) e4 F3_aa_physdocs E3_aa (Or.inr ⟨(w 20 _ rfl), rfl, hnm⟩) (w 2 _ rfl) (ty := (.array .int)) (by decide) rfl rfl (hb hby d1_12) (pc' := 15) rfl ?_
  intro T5 h5 X5 e5 W5
  have Fw5 := Fld.same W5 F3_aa_physdocs
  have E6_aa := Exa.wr W5 E3_aa
  have F6_aa_pageSize := Fld.other W5 F3_aa_pageSize (Or.inr (slot_ne (C := "com/example/anagrafe/anagrafe/soap/ResultSet") (a0 := a0) (Or.inr (w 22 _ rfl)) (Or.inr (w 20 _ rfl)) (by decide) (t := .int) (t' := (.array .int)) (by decide) (by decide)))
  have E6_bb := Exa.wr W5 E3_bb
  have E6_b2 := Exa.wr W5 Ea2
  have V6_bb := Arv.other V3_bb W5 ne_bb_aa
  have V6_b2 := Arv.other A2 W5 (Ne.symm ne_aa_b2)
  have N5 := Fr.snoc X5 N0 g_aa
  have Z5 : n0 ≤ h5.size := by rw [W5.size]; exact Z2
  have K5 := Keep.wr K2 W5 (Or.inl (List.mem_of_getElem? (i := 0) rfl))
  refine o_aloadN X5 hx (hb hby d1_15) (pc' := 16) rfl rfl rfl ?_
  refine o_iloadN X5 hx (hb hby d1_16) (pc' := 17) rfl rfl ?_
  refine o_putF X5 hx hZ hown (w 21 _ rfl) e5 F6_aa_pageSize E6_aa (Or.inr ⟨(w 22 _ rfl), rfl, hnm⟩) (w 2 _ rfl) (ty := .int) (by decide) rfl rfl (hb hby d1_17) (pc' := 20) rfl ?_
  intro T7 h7 X7 e7 W7
  have Fw7 := Fld.same W7 F6_aa_pageSize
  have E8_aa := Exa.wr W7 E6_aa
  have F8_aa_physdocs := Fld.other W7 Fw5 (Or.inr (slot_ne (C := "com/example/anagrafe/anagrafe/soap/ResultSet") (a0 := a0) (Or.inr (w 20 _ rfl)) (Or.inr (w 22 _ rfl)) (by decide) (t := (.array .int)) (t' := .int) (by decide) (by decide)))
  have E8_bb := Exa.wr W7 E6_bb
  have E8_b2 := Exa.wr W7 E6_b2
  have V8_bb := Arv.other V6_bb W7 ne_bb_aa
  have V8_b2 := Arv.other V6_b2 W7 (Ne.symm ne_aa_b2)
  have N7 := Fr.snoc X7 N5 g_aa
  have Z7 : n0 ≤ h7.size := by rw [W7.size]; exact Z5
  have K7 := Keep.wr K5 W7 (Or.inl (List.mem_of_getElem? (i := 0) rfl))
  rw [← hOWE]
  exact o_retV X7 hx hlk hrt (hb hby d1_20) (by decide) (by decide) (by rw [e7]; exact ⟨rfl, N7, K7, E8_aa, Fw7, ⟨b2, k_bb, g_b2, sz_b2, F8_aa_physdocs, V8_b2⟩⟩)
theorem d3_0 : decode prog_50_method_4_code 0 = .ok (.aload_n 0, 1) := by decide +kernel
theorem d3_1 : decode prog_50_method_4_code 1 = .ok (.getfield 13, 3) := by decide +kernel
theorem d3_4 : decode prog_50_method_4_code 4 = .ok (.arraylength, 1) := by decide +kernel
theorem d3_5 : decode prog_50_method_4_code 5 = .ok (.aload_n 0, 1) := by decide +kernel
theorem d3_6 : decode prog_50_method_4_code 6 = .ok (.getfield 18, 3) := by decide +kernel
theorem d3_9 : decode prog_50_method_4_code 9 = .ok (.iadd, 1) := by decide +kernel
theorem d3_10 : decode prog_50_method_4_code 10 = .ok (.iconst 1, 1) := by decide +kernel
theorem d3_11 : decode prog_50_method_4_code 11 = .ok (.isub, 1) := by decide +kernel
theorem d3_12 : decode prog_50_method_4_code 12 = .ok (.aload_n 0, 1) := by decide +kernel
theorem d3_13 : decode prog_50_method_4_code 13 = .ok (.getfield 18, 3) := by decide +kernel
theorem d3_16 : decode prog_50_method_4_code 16 = .ok (.idiv, 1) := by decide +kernel
theorem d3_17 : decode prog_50_method_4_code 17 = .ok (.ireturn, 1) := by decide +kernel
theorem ef_3 (m : MethodId) (x0 : Addr) : entryFrame m #[(.ref x0)] 1 = mkF m 0 #[.val (.ref x0)] [] := by first | (simp [entryFrame, mkF, argsToLocals, Value.category]; done) | rfl
def own_f3_ret (nn : Int32) (y1 : Int32) : Int32 := (((nn + y1) - (1 : Int32)) / y1)
def Q3 (Z : State) (aa : Addr) (bb : Addr) (nn : Int32) (y1 : Int32) (k_bb : ClassId) (h0 : Heap) (n0 : Nat) (v : Option Value) (h : Heap) (L : List Loc) : Prop := v = some (.int (own_f3_ret nn y1)) ∧ Fr n0 L ∧ h = h0
set_option maxRecDepth 65536 in
set_option maxHeartbeats 40000000 in
theorem rm3 (l : Launch) (Z : State) (a0 : Array Value) (hw : ∀ d ∈ tables_1, d.before a0 Z = true) (ws : List Jvm.Cond) (aa : Addr) (bb : Addr) (nn : Int32) (y1 : Int32) (k_bb : ClassId) (h0 : Heap) (n0 : Nat) (Z0 : n0 ≤ h0.size) (F_physdocs_aa : Fld Z h0 aa "com/example/anagrafe/anagrafe/soap/ResultSet" "physdocs" "[I" (.ref bb)) (F_pageSize_aa : Fld Z h0 aa "com/example/anagrafe/anagrafe/soap/ResultSet" "pageSize" "I" (.int y1)) (V_bb : Arv Z h0 bb k_bb .int nn [] (.int (0 : Int32))) (hnz : y1 ≠ 0) :
    Con l (⟨"com/example/anagrafe/anagrafe/soap/ResultSet", "pageCount", "()I"⟩ : MethodName) prog_50_method_4_code 1 (some .int) ws ({ frames := 0, cells := 0, slots := 0, locals := 0 } : Room) #[(.ref aa)] Z h0 (Q3 Z aa bb nn y1 k_bb h0 n0) ({ frames := 0, cells := 0, slots := 0, locals := 0 } : Room).cells ({ frames := 0, cells := 0, slots := 0, locals := 0 } : Room).slots := by
  refine own_body (plainFor_of_name pn_1) ?_
  intro p e s m below meth c s₁ hx hby hlk hml hown hnm hrt hZ X0 e0
  have w : ∀ (k : Nat) (d : Jvm.Cond), tables_1[k]? = some d → d.before a0 Z = true := fun k d h => hw d (List.mem_of_getElem? h)
  have N0 := Fr.nil n0
  rw [ef_3]
  generalize hOWE : Owe s _ _ _ = OWE
  refine o_aloadN X0 hx (hb hby d3_0) (pc' := 1) rfl rfl rfl ?_
  refine o_getF X0 hx hZ hown (w 19 _ rfl) e0 F_physdocs_aa (hb hby d3_1) (pc' := 4) rfl ?_
  intro T1 X1 e1
  refine o_arraylength X1 hx hZ e1 V_bb (hb hby d3_4) (pc' := 5) rfl ?_
  refine o_aloadN X1 hx (hb hby d3_5) (pc' := 6) rfl rfl rfl ?_
  refine o_getF X1 hx hZ hown (w 21 _ rfl) e1 F_pageSize_aa (hb hby d3_6) (pc' := 9) rfl ?_
  intro T2 X2 e2
  refine o_iadd X2 hx (hb hby d3_9) (pc' := 10) rfl ?_
  refine o_iconst X2 hx (1 : Int32) (hb hby d3_10) (pc' := 11) rfl (by decide) ?_
  refine o_isub X2 hx (hb hby d3_11) (pc' := 12) rfl ?_
  refine o_aloadN X2 hx (hb hby d3_12) (pc' := 13) rfl rfl rfl ?_
  refine o_getF X2 hx hZ hown (w 21 _ rfl) e2 F_pageSize_aa (hb hby d3_13) (pc' := 16) rfl ?_
  intro T3 X3 e3
  refine o_idiv X3 hx (hb hby d3_16) (pc' := 17) rfl hnz ?_
  rw [← hOWE]
  exact o_retI X3 hx hlk hrt (hb hby d3_17) (by decide) (by decide) (by rw [e3]; exact ⟨(by rw [own_f3_ret]), N0, rfl⟩)
theorem own_n (q : Int32) : ¬ (q &&& (15 : Int32)) < 0 ∧ (q &&& (15 : Int32)).toNatClampNeg ≤ 15 := by
  have h := c_and q 15 (by decide)
  rw [show (15 : Int32).toInt = 15 from rfl] at h
  have h0 : ¬ (q &&& (15 : Int32)) < 0 := by
    rw [Int32.lt_iff_toInt_lt, show (0 : Int32).toInt = 0 from rfl]
    omega
  have h2 := nat_of h0
  exact ⟨h0, by omega⟩
theorem pn_0 : plainName "com/example/anagrafe/anagrafe/soap/ResultSetPageCountPinLaw" = true := by first | (simp [plainName, overriddenIn]; done) | decide +kernel
theorem ef_0 (m : MethodId) (x0 : Int32) (x1 : Int32) : entryFrame m #[(.int x0), (.int x1)] maxLocals = mkF m 0 #[.val (.int x0), .val (.int x1), .unset, .unset, .unset, .unset, .unset, .unset, .unset, .unset, .unset] [] := by first | (simp [entryFrame, mkF, argsToLocals, Value.category, maxLocals]; done) | rfl
def own_law_x0 (q0 : Int32) (q1 : Int32) : Int32 := (((uI q1 (1 : Int32)) &&& (1048575 : Int32)) + (1 : Int32))
def own_law_x1 (q0 : Int32) (q1 : Int32) : Int32 := (((uI q1 (1 : Int32)) &&& (7 : Int32)) + (1 : Int32))
def own_law_v32_1_L3 (q0 : Int32) (q1 : Int32) : Int32 := (if (q1 &&& (1 : Int32)) = (0 : Int32) then (own_law_x0 q0 q1) else (own_law_x1 q0 q1))
def own_law_x2 (q0 : Int32) (q1 : Int32) : Int32 := (own_f3_ret (q0 &&& (15 : Int32)) (own_law_v32_1_L3 q0 q1))
def own_law_x3 (q0 : Int32) (q1 : Int32) : Int64 := ((own_law_v32_1_L3 q0 q1).toInt64)
def own_law_ret_j32_1 (q0 : Int32) (q1 : Int32) : Int32 := (if (own_law_x2 q0 q1) < (0 : Int32) then (0 : Int32) else (if (((own_law_x2 q0 q1).toInt64) * (own_law_x3 q0 q1)) < ((q0 &&& (15 : Int32)).toInt64) then (0 : Int32) else (if ((((own_law_x2 q0 q1).toInt64) - (1 : Int64)) * (own_law_x3 q0 q1)) < ((q0 &&& (15 : Int32)).toInt64) then (1 : Int32) else (0 : Int32))))
def own_law_ret (q0 : Int32) (q1 : Int32) : Int32 := (own_law_ret_j32_1 q0 q1)
theorem own_sz (q0 q1 : Int32) : 1 ≤ (own_law_v32_1_L3 q0 q1).toInt ∧ (own_law_v32_1_L3 q0 q1).toInt ≤ 1048576 := by
  have h1 := c_and (uI q1 1) 1048575 (by decide)
  have h2 := c_and (uI q1 1) 7 (by decide)
  have a1 := c_iadd (uI q1 1 &&& 1048575) 1
  have a2 := c_iadd (uI q1 1 &&& 7) 1
  have b1 := rng32 (uI q1 1 &&& 1048575 + 1)
  have b2 := rng32 (uI q1 1 &&& 7 + 1)
  rw [show (1048575 : Int32).toInt = 1048575 from by decide] at h1
  rw [show (7 : Int32).toInt = 7 from rfl] at h2
  rw [show (1 : Int32).toInt = 1 from rfl] at a1 a2
  have c1 := rng32 ((uI q1 1 &&& 1048575) + 1)
  have c2 := rng32 ((uI q1 1 &&& 7) + 1)
  unfold own_law_v32_1_L3 own_law_x0 own_law_x1
  split <;> omega
theorem own_s (q0 q1 : Int32) : own_law_v32_1_L3 q0 q1 ≠ 0 := fun q => by
  have h := own_sz q0 q1
  rw [q, show (0 : Int32).toInt = 0 from rfl] at h
  omega
def Q0 (Z : State) (q0 : Int32) (q1 : Int32) (h0 : Heap) (n0 : Nat) (v : Option Value) (h : Heap) (L : List Loc) : Prop := v = some (.int (own_law_ret q0 q1)) ∧ Fr n0 L
set_option maxRecDepth 65536 in
set_option maxHeartbeats 40000000 in
theorem rm0 (l : Launch) (Z : State) (a0 : Array Value) (hw : ∀ d ∈ tables_1, d.before a0 Z = true) (ws : List Jvm.Cond) (q0 : Int32) (q1 : Int32) (h0 : Heap) (n0 : Nat) (Z0 : n0 ≤ h0.size)  :
    Con l x code maxLocals ret ws room_1 #[(.int q0), (.int q1)] Z h0 (Q0 Z q0 q1 h0 n0) 3 33 := by
  refine own_body (plainFor_of_name pn_0) ?_
  intro p e s m below meth c s₁ hx hby hlk hml hown hnm hrt hZ X0 e0
  have w : ∀ (k : Nat) (d : Jvm.Cond), tables_1[k]? = some d → d.before a0 Z = true := fun k d h => hw d (List.mem_of_getElem? h)
  have N0 := Fr.nil n0
  have hml : c.maxLocals = 11 := hml
  rw [ef_0]
  generalize hOWE : Owe s _ _ _ = OWE
  refine o_iloadN X0 hx (hb hby at_0) (pc' := 1) rfl rfl ?_
  refine o_bipush X0 hx (15 : Int32) (hb hby at_1) (pc' := 3) rfl (by decide) ?_
  refine o_iand X0 hx (hb hby at_3) (pc' := 4) rfl ?_
  refine o_istoreN X0 hx (hb hby at_4) (pc' := 5) rfl (L' := #[.val (.int q0), .val (.int q1), .val (.int (q0 &&& (15 : Int32))), .unset, .unset, .unset, .unset, .unset, .unset, .unset, .unset]) rfl ?_
  refine o_iloadN X0 hx (hb hby at_5) (pc' := 6) rfl rfl ?_
  refine o_iconst X0 hx (1 : Int32) (hb hby at_6) (pc' := 7) rfl (by decide) ?_
  refine o_iand X0 hx (hb hby at_7) (pc' := 8) rfl ?_
  have J32_1 : ∀ (z0 : Int32), z0 = (own_law_v32_1_L3 q0 q1) → Go p e below OWE (s₁.setTop (mkF m 32 #[.val (.int q0), .val (.int q1), .val (.int (q0 &&& (15 : Int32))), .val (.int z0), .unset, .unset, .unset, .unset, .unset, .unset, .unset] [])) := by
    intro z0 yy0
    subst yy0
    refine o_iloadN X0 hx (hb hby at_32) (pc' := 33) rfl rfl ?_
    refine o_newPE X0 hx hZ 15 (w 0 _ rfl) e0 (hb hby at_33) (pc' := 35) rfl (own_n q0).1 (own_n q0).2 (by decide) (cells' := 1) rfl (slots' := 15) rfl (by decide) (by decide) (ad := "[I") (by decide) ?_
    intro T2 h2 b2 k2 qa2 X2 e2 Ex2 A2 Ea2
    have g_b2 : n0 ≤ b2 := by rw [qa2]; exact Z0
    have Z2 : n0 ≤ h2.size := Nat.le_trans Z0 Ex2.1
    have V2_ : Arv Z h2 b2 k2 .int (q0 &&& (15 : Int32)) [] (.int (0 : Int32)) := A2
    refine o_astore X2 hx (hb hby at_35) (pc' := 37) rfl (L' := #[.val (.int q0), .val (.int q1), .val (.int (q0 &&& (15 : Int32))), .val (.int (own_law_v32_1_L3 q0 q1)), .val (.ref b2), .unset, .unset, .unset, .unset, .unset, .unset]) rfl rfl ?_
    refine o_new X2 hx hZ hown (w 1 _ rfl) (w 2 _ rfl) (w 3 _ rfl) e2 (hb hby at_37) (pc' := 40) rfl (cells' := 2) rfl (slots' := 18) rfl (by decide) (by decide) ?_
    intro T4 h4 b4 qa4 X4 e4 Ex4 A4 D4
    have g_b4 : n0 ≤ b4 := by rw [qa4]; exact Z2
    have ne_b2_b4 : b2 ≠ b4 := by rw [qa4]; exact Nat.ne_of_lt Ea2.lt
    have ne_b2_b4 : b2 ≠ b4 := by rw [qa4]; exact Nat.ne_of_lt V2_.lt
    have E5_b2 := Exa.ext Ex4 Ea2
    have V5_b2 := Arv.ext V2_ Ex4
    have Z4 : n0 ≤ h4.size := Nat.le_trans Z2 Ex4.1
    have D4_physdocs : Fld Z h4 b4 "com/example/anagrafe/anagrafe/soap/ResultSet" "physdocs" "[I" (.null) := D4 (Or.inr (w 20 _ rfl)) (ty := (.array .int)) (by decide)
    have D4_pageSize : Fld Z h4 b4 "com/example/anagrafe/anagrafe/soap/ResultSet" "pageSize" "I" (.int (0 : Int32)) := D4 (Or.inr (w 22 _ rfl)) (ty := .int) (by decide)
    refine o_dup X4 hx (hb hby at_40) (pc' := 41) rfl rfl ?_
    refine o_aload X4 hx (hb hby at_41) (pc' := 43) rfl rfl rfl ?_
    refine o_iloadN X4 hx (hb hby at_43) (pc' := 44) rfl rfl ?_
    refine o_callI X4 hx hZ 1 (argsL := [.ref b2, .int (own_law_v32_1_L3 q0 q1)]) (rest := [.ref b4]) (a := b4) rfl hown (w 4 _ rfl) (w 5 _ rfl) (w 3 _ rfl) (w 6 _ rfl) (by decide) (rm1 l Z a0 hw [] b4 b2 (.null) (.int (0 : Int32)) (q0 &&& (15 : Int32)) (own_law_v32_1_L3 q0 q1) k2 h4 n0 Z4 A4 D4_physdocs D4_pageSize g_b4 E5_b2 V5_b2 ne_b2_b4 (own_n q0).2) (by decide) (by decide) (cells' := 3) rfl (slots' := 33) rfl (by decide) (by decide) e4 (by rw [hml]; rfl) (lenOf pd_0 rfl) rfl rfl (hb hby at_44) (pc' := 47) rfl ?_
    intro T6 v6 L6 X6 hQ6
    obtain ⟨rfl, Nq6, Kq6, P6_0, P6_1, bn6_0, kn6_0, gn6_0, zn6_0, Fn6_0, Vn6_0⟩ := hQ6
    have N6 := Fr.app N0 Nq6
    have E7_b2 := Exa.keep E5_b2 Kq6
    have V7_b2 := Arv.keep V5_b2 Kq6 (ninS ne_b2_b4 nin0)
    have ne_b2_bn6_0 : b2 ≠ bn6_0 := Nat.ne_of_lt (Nat.lt_of_lt_of_le E5_b2.lt zn6_0)
    have ne_b4_bn6_0 : b4 ≠ bn6_0 := Nat.ne_of_lt (Nat.lt_of_lt_of_le A4.lt zn6_0)
    have ne_b2_bn6_0 : b2 ≠ bn6_0 := Nat.ne_of_lt (Nat.lt_of_lt_of_le V5_b2.lt zn6_0)
    have Z6 : n0 ≤ T6.heap.size := Nat.le_trans Z4 Kq6.1
    show Go p e below _ (T6.setTop (mkF m 47 _ [.ref b4]))
    refine o_astore X6 hx (hb hby at_47) (pc' := 49) rfl (L' := #[.val (.int q0), .val (.int q1), .val (.int (q0 &&& (15 : Int32))), .val (.int (own_law_v32_1_L3 q0 q1)), .val (.ref b2), .val (.ref b4), .unset, .unset, .unset, .unset, .unset]) rfl rfl ?_
    refine o_aload X6 hx (hb hby at_49) (pc' := 51) rfl rfl rfl ?_
    refine o_callV X6 hx hZ 0 (argsL := []) (rest := []) (a := b4) hown (w 23 _ rfl) (w 24 _ rfl) (w 26 _ rfl) (w 25 _ rfl) (w 3 _ rfl) (w 27 _ rfl) (by decide) (rm3 l Z a0 hw [] b4 bn6_0 (q0 &&& (15 : Int32)) (own_law_v32_1_L3 q0 q1) kn6_0 T6.heap n0 Z6 Fn6_0 P6_1 Vn6_0 (own_s q0 q1)) P6_0 (by decide) (by decide) (cells' := 3) rfl (slots' := 33) rfl (by decide) (by decide) rfl (by rw [hml]; rfl) (lenOf pd_1 rfl) rfl rfl (hb hby at_51) (pc' := 54) rfl ?_
    intro T8 v8 L8 X8 hQ8
    obtain ⟨rfl, Nq8, e8⟩ := hQ8
    have N8 := Fr.app N6 Nq8
    show Go p e below _ (T8.setTop (mkF m 54 _ [.int (own_f3_ret (q0 &&& (15 : Int32)) (own_law_v32_1_L3 q0 q1))]))
    refine o_istore (x := (own_law_x2 q0 q1)) X8 hx (hb hby at_54) (pc' := 56) rfl (L' := #[.val (.int q0), .val (.int q1), .val (.int (q0 &&& (15 : Int32))), .val (.int (own_law_v32_1_L3 q0 q1)), .val (.ref b2), .val (.ref b4), .val (.int (own_law_x2 q0 q1)), .unset, .unset, .unset, .unset]) rfl ?_
    refine o_iload X8 hx (hb hby at_56) (pc' := 58) rfl rfl ?_
    refine o_i2l X8 hx (hb hby at_58) (pc' := 59) rfl ?_
    refine o_lstore X8 hx (hb hby at_59) (pc' := 61) rfl (L' := #[.val (.int q0), .val (.int q1), .val (.int (q0 &&& (15 : Int32))), .val (.int (own_law_v32_1_L3 q0 q1)), .val (.ref b2), .val (.ref b4), .val (.int (own_law_x2 q0 q1)), .val (.long ((own_law_x2 q0 q1).toInt64)), .second, .unset, .unset]) rfl ?_
    refine o_iloadN X8 hx (hb hby at_61) (pc' := 62) rfl rfl ?_
    refine o_i2l X8 hx (hb hby at_62) (pc' := 63) rfl ?_
    refine o_lstore (x := (own_law_x3 q0 q1)) X8 hx (hb hby at_63) (pc' := 65) rfl (L' := #[.val (.int q0), .val (.int q1), .val (.int (q0 &&& (15 : Int32))), .val (.int (own_law_v32_1_L3 q0 q1)), .val (.ref b2), .val (.ref b4), .val (.int (own_law_x2 q0 q1)), .val (.long ((own_law_x2 q0 q1).toInt64)), .second, .val (.long (own_law_x3 q0 q1)), .second]) rfl ?_
    refine o_iload X8 hx (hb hby at_65) (pc' := 67) rfl rfl ?_
    by_cases hc67_9 : (own_law_x2 q0 q1) < (0 : Int32)
    · refine o_ifY X8 hx (hb hby at_67) (tlt hc67_9).1 (by decide) (pc' := 98) (by decide) ?_
      refine o_iconst X8 hx (0 : Int32) (hb hby at_98) (pc' := 99) rfl (by decide) ?_
      rw [← hOWE]
      exact o_retZ X8 hx rfl hlk hrt (hb hby at_99) (by decide) (by decide) (by rw [e8]; exact ⟨(by rw [own_law_ret, own_law_ret_j32_1, if_pos hc67_9]), N8⟩)
    · refine o_ifN X8 hx (hb hby at_67) (flt hc67_9).1 (pc' := 70) rfl ?_
      refine o_lload X8 hx (hb hby at_70) (pc' := 72) rfl rfl ?_
      refine o_lload X8 hx (hb hby at_72) (pc' := 74) rfl rfl ?_
      refine o_lmul X8 hx (hb hby at_74) (pc' := 75) rfl ?_
      refine o_iloadN X8 hx (hb hby at_75) (pc' := 76) rfl rfl ?_
      refine o_i2l X8 hx (hb hby at_76) (pc' := 77) rfl ?_
      refine o_lcmp X8 hx (hb hby at_77) (pc' := 78) rfl ?_
      by_cases hc78_10 : (((own_law_x2 q0 q1).toInt64) * (own_law_x3 q0 q1)) < ((q0 &&& (15 : Int32)).toInt64)
      · refine o_ifY X8 hx (hb hby at_78) (tltL hc78_10).1 (by decide) (pc' := 98) (by decide) ?_
        refine o_iconst X8 hx (0 : Int32) (hb hby at_98) (pc' := 99) rfl (by decide) ?_
        rw [← hOWE]
        exact o_retZ X8 hx rfl hlk hrt (hb hby at_99) (by decide) (by decide) (by rw [e8]; exact ⟨(by rw [own_law_ret, own_law_ret_j32_1, if_neg hc67_9, if_pos hc78_10]), N8⟩)
      · refine o_ifN X8 hx (hb hby at_78) (fltL hc78_10).1 (pc' := 81) rfl ?_
        refine o_lload X8 hx (hb hby at_81) (pc' := 83) rfl rfl ?_
        refine o_lconst X8 hx (1 : Int64) (hb hby at_83) (pc' := 84) rfl (by decide) ?_
        refine o_lsub X8 hx (hb hby at_84) (pc' := 85) rfl ?_
        refine o_lload X8 hx (hb hby at_85) (pc' := 87) rfl rfl ?_
        refine o_lmul X8 hx (hb hby at_87) (pc' := 88) rfl ?_
        refine o_iloadN X8 hx (hb hby at_88) (pc' := 89) rfl rfl ?_
        refine o_i2l X8 hx (hb hby at_89) (pc' := 90) rfl ?_
        refine o_lcmp X8 hx (hb hby at_90) (pc' := 91) rfl ?_
        by_cases hc91_11 : ((((own_law_x2 q0 q1).toInt64) - (1 : Int64)) * (own_law_x3 q0 q1)) < ((q0 &&& (15 : Int32)).toInt64)
        · refine o_ifN X8 hx (hb hby at_91) (tltL hc91_11).2.1 (pc' := 94) rfl ?_
          refine o_iconst X8 hx (1 : Int32) (hb hby at_94) (pc' := 95) rfl (by decide) ?_
          refine o_goto X8 hx (hb hby at_95) (by decide) (pc' := 99) (by decide) ?_
          rw [← hOWE]
          exact o_retZ X8 hx rfl hlk hrt (hb hby at_99) (by decide) (by decide) (by rw [e8]; exact ⟨(by rw [own_law_ret, own_law_ret_j32_1, if_neg hc67_9, if_neg hc78_10, if_pos hc91_11]), N8⟩)
        · refine o_ifY X8 hx (hb hby at_91) (fltL hc91_11).2.1 (by decide) (pc' := 98) (by decide) ?_
          refine o_iconst X8 hx (0 : Int32) (hb hby at_98) (pc' := 99) rfl (by decide) ?_
          rw [← hOWE]
          exact o_retZ X8 hx rfl hlk hrt (hb hby at_99) (by decide) (by decide) (by rw [e8]; exact ⟨(by rw [own_law_ret, own_law_ret_j32_1, if_neg hc67_9, if_neg hc78_10, if_neg hc91_11]), N8⟩)
  by_cases hc8_1 : (q1 &&& (1 : Int32)) = (0 : Int32)
  · refine o_ifY X0 hx (hb hby at_8) (teq hc8_1).1 (by decide) (pc' := 23) (by decide) ?_
    refine o_iloadN X0 hx (hb hby at_23) (pc' := 24) rfl rfl ?_
    refine o_iconst X0 hx (1 : Int32) (hb hby at_24) (pc' := 25) rfl (by decide) ?_
    refine o_iushr X0 hx (hb hby at_25) (pc' := 26) rfl ?_
    refine o_ldcI X0 hx hZ (1048575 : Int32) hown (w 28 _ rfl) (hb hby at_26) (pc' := 28) rfl ?_
    refine o_iand X0 hx (hb hby at_28) (pc' := 29) rfl ?_
    refine o_iconst X0 hx (1 : Int32) (hb hby at_29) (pc' := 30) rfl (by decide) ?_
    refine o_iadd X0 hx (hb hby at_30) (pc' := 31) rfl ?_
    refine o_istoreN (x := (own_law_x0 q0 q1)) X0 hx (hb hby at_31) (pc' := 32) rfl (L' := #[.val (.int q0), .val (.int q1), .val (.int (q0 &&& (15 : Int32))), .val (.int (own_law_x0 q0 q1)), .unset, .unset, .unset, .unset, .unset, .unset, .unset]) rfl ?_
    exact J32_1 ((own_law_x0 q0 q1)) (by rw [own_law_v32_1_L3, if_pos hc8_1])
  · refine o_ifN X0 hx (hb hby at_8) (feq hc8_1).1 (pc' := 11) rfl ?_
    refine o_iloadN X0 hx (hb hby at_11) (pc' := 12) rfl rfl ?_
    refine o_iconst X0 hx (1 : Int32) (hb hby at_12) (pc' := 13) rfl (by decide) ?_
    refine o_iushr X0 hx (hb hby at_13) (pc' := 14) rfl ?_
    refine o_bipush X0 hx (7 : Int32) (hb hby at_14) (pc' := 16) rfl (by decide) ?_
    refine o_iand X0 hx (hb hby at_16) (pc' := 17) rfl ?_
    refine o_iconst X0 hx (1 : Int32) (hb hby at_17) (pc' := 18) rfl (by decide) ?_
    refine o_iadd X0 hx (hb hby at_18) (pc' := 19) rfl ?_
    refine o_istoreN (x := (own_law_x1 q0 q1)) X0 hx (hb hby at_19) (pc' := 20) rfl (L' := #[.val (.int q0), .val (.int q1), .val (.int (q0 &&& (15 : Int32))), .val (.int (own_law_x1 q0 q1)), .unset, .unset, .unset, .unset, .unset, .unset, .unset]) rfl ?_
    refine o_goto X0 hx (hb hby at_20) (by decide) (pc' := 32) (by decide) ?_
    exact J32_1 ((own_law_x1 q0 q1)) (by rw [own_law_v32_1_L3, if_neg hc8_1])
theorem own_main (q0 q1 : Int32) : own_law_ret q0 q1 = 1 := by
  have hs := own_sz q0 q1
  have hn := c_and q0 15 (by decide)
  rw [show (15 : Int32).toInt = 15 from rfl] at hn
  unfold own_law_ret own_law_ret_j32_1 own_law_x3 own_law_x2 own_f3_ret
  generalize own_law_v32_1_L3 q0 q1 = s at *
  generalize q0 &&& (15 : Int32) = n at *
  have a1 := c_iadd n s
  have b1 := rng32 (n + s)
  have a2 := c_isub (n + s) 1
  have b2 := rng32 (n + s - 1)
  rw [show (1 : Int32).toInt = 1 from rfl] at a2
  have e1 : (n + s - 1).toInt = n.toInt + s.toInt - 1 := by omega
  have hd := (c_idiv (n + s - 1) s s.toInt rfl (fun q => by rw [q] at hs; exact absurd hs (by decide))).1 (by omega)
  rw [e1] at hd
  have d1 : s.toInt * ((n.toInt + s.toInt - 1) / s.toInt) ≤ n.toInt + s.toInt - 1 := Int.mul_ediv_self_le (by omega)
  have d2 : n.toInt + s.toInt - 1 < s.toInt * ((n.toInt + s.toInt - 1) / s.toInt) + s.toInt := Int.lt_mul_ediv_self_add (by omega)
  have d3 : 0 ≤ (n.toInt + s.toInt - 1) / s.toInt := Int.ediv_nonneg (by omega) (by omega)
  have d4 : (n.toInt + s.toInt - 1) / s.toInt ≤ n.toInt + s.toInt - 1 := Int.ediv_le_self _ (by omega)
  generalize (n.toInt + s.toInt - 1) / s.toInt = K at *
  generalize (n + s - 1) / s = k at *
  have m1 := c_lmul k.toInt64 s.toInt64
  have m2 := c_lmul (k.toInt64 - 1) s.toInt64
  have m3 := c_lsub k.toInt64 1
  have r1 := rng64 (k.toInt64 * s.toInt64)
  have r2 := rng64 ((k.toInt64 - 1) * s.toInt64)
  have r3 := rng64 (k.toInt64 - 1)
  rw [show (1 : Int64).toInt = 1 from rfl] at m3
  simp only [c_i2l] at m1 m2 m3
  have e2 : (k.toInt64 - 1).toInt = K - 1 := by omega
  rw [e2, Int.sub_mul, Int.one_mul] at m2
  rw [hd] at m1
  rw [Int.mul_comm] at d1 d2
  simp only [Int32.lt_iff_toInt_lt, Int64.lt_iff_toInt_lt, c_i2l, show (0 : Int32).toInt = 0 from rfl]
  generalize K * s.toInt = P at *
  rw [if_neg (by omega), if_neg (by omega), if_pos (by omega)]
set_option maxRecDepth 65536 in
set_option maxHeartbeats 40000000 in
theorem comes_1 {Post : Tables → Env → Array Value → State → Outcome → State → Prop} (hpost : ∀ tb e args s v u, (limb_1_1.after args s (.returned v) u = true ∧ limb_1_2.after args s (.returned v) u = true ∧ True) → FrameEnd s (.returned v) u (Jvm.fieldLocs frame_1_writes args s ++ Jvm.arrayLocs frame_1_arrays args s ++ Jvm.staticLocs frame_1_statics s) 16 192 → Post tb e args s (.returned v) u) :
    ArmFor flags0 classFile x code maxLocals ret World_1 tables_1 room_1 Calls_1 rest_1 Pre_1 Post := by
  intro l hfl _ _ p e ha hc hk s m args below hf hA hF happ hP
  obtain ⟨hcalls, hrest, hpre⟩ := hP
  obtain ⟨-, -, -, hnamed, -, -, -, hat⟩ := (Spec.applies_iff hf).mp happ
  obtain ⟨hg, hn⟩ := and_e (Cond.before_iff.mp (show (Jvm.Cond.and given_1 narrow_1).before args s = true from hpre))
  obtain ⟨hcnt, r0⟩ := and_e hg
  obtain ⟨a0, r1⟩ := and_e r0
  obtain ⟨w0, w1, rfl⟩ : ∃ w0 w1 : Value, args = #[w0, w1] := by
    have hs : args.size = 2 := by simpa [Cond.value, given_1] using hcnt
    obtain ⟨L⟩ := args
    match L, hs with
    | [w0, w1], _ => exact ⟨w0, w1, rfl⟩
  have hw := fun d (hd : d ∈ tables_1) => atoms_spec (ws := Jvm.Cond.code x code maxLocals ret :: tables_1) hat d (List.mem_cons_of_mem _ hd)
  obtain ⟨q0, y0⟩ := is_v a0
  obtain rfl : w0 = (.int q0) := Option.some.inj y0
  obtain ⟨q1, y1⟩ := is_v r1
  obtain rfl : w1 = (.int q1) := Option.some.inj y1
  obtain ⟨n, o, h1, h2, h3, _, L, rfl, ⟨rfl, N⟩, hq⟩ := rm0 l s _ hw tables_1 q0 q1 s.heap s.heap.size (Nat.le_refl _) p e ha hc hk s m _ below hf ((Spec.applies_iff_loose hf).mp happ).1 ⟨rfl, State.Warmed39.refl s, rfl⟩ trivial
  refine ⟨n, _, h1, h2, h3, hpost _ _ _ _ _ _ ⟨Cond.after_iff.mpr rfl, Cond.after_iff.mpr (eq_i res_at (Term.int_eval (1)) (congrArg Value.int (own_main q0 q1))), trivial⟩ ⟨hq.1, hq.2.1, (hq.2.2.sift fun y hy => Or.inr (N y hy)).mono (by decide) (by decide)⟩⟩
theorem main_1_1 : Claimed_1_1 := comes_1 fun _ _ _ _ _ _ h hF => ⟨h.1, hF⟩
theorem main_1_2 : Claimed_1_2 := comes_1 fun _ _ _ _ _ _ h hF => ⟨h.2.1, hF⟩
end Jvm.Pilot.@@N@@
namespace Jvm.Pilot.@@N@@
open Jvm Jvm.ClassFile Sem Op Lib Jvm.Free Jvm.Stand Jvm.Pilot.@@N@@.Jvm.D
/-! MADE BY PROGRAM (witnessworld.py) out of the Statement's table words and the real class files: 9 classes; the members and pool entries that the words name. The judged class is class 1, her method 1. -/
namespace start1
open Jvm.ClassFile
def u (s : String) : CpInfo := .utf8 (stringToUtf16 s)
/-- a pool by its gaps: so many unusable entries, then the entry; so many at the end -/
def gap : Nat → List CpInfo → List CpInfo
  | 0, r => r
  | n + 1, r => .unusable :: gap n r
def poolList (es : List (Nat × CpInfo)) (last : Nat) : List CpInfo := es.foldr (fun e r => gap e.1 (e.2 :: r)) (gap last [])
def pool (es : List (Nat × CpInfo)) (last : Nat) : Array CpInfo := ⟨poolList es last⟩
def fileOf (pool : Array CpInfo) (this : Nat) (attrs : Array Attribute := #[]) (ms : Array MethodInfo := #[]) (fl : Nat := 33) (sup : Nat := 0) (ifs : Array Nat := #[]) (fds : Array FieldInfo := #[]) : ClassFile where
  minorVersion := 0
  majorVersion := 65
  constantPool := pool
  accessFlags := fl
  thisClass := this
  superClass := sup
  interfaces := ifs
  fields := fds
  methods := ms
  attributes := attrs
def plain (name : String) (sup : Option ClassId) : Class where
  name := name
  kind := .ordinary
  loader := none
  accessFlags := 33
  super := sup
  interfaces := #[]
  cf := none
  fields := #[]
  methods := #[]
  instanceTypes := #[]
  staticTypes := #[]
  resolved := #[]
  callSites := []
  init := .initialized
  statics := none
  mirror := none

def pool0 : Array CpInfo := pool [(5, u "<init>"), (0, u "()V"), (1, .class_ 10), (1, u "java/lang/Object"), (85, u "clone"), (0, u "()Ljava/lang/Object;")] 26

def k0c0 : Code := { maxStack := 0, maxLocals := 1, code := object_method_1_code, exceptionTable := #[], attributes := #[] }
def k0m0 : Method := { name := "<init>", desc := "()V", sig := { parameters := [], returnType := none }, accessFlags := 1, code := some k0c0 }
def k0m1 : Method := { name := "clone", desc := "()Ljava/lang/Object;", sig := { parameters := [], returnType := some (.object "java/lang/Object") }, accessFlags := 260, code := none }
/-- java/lang/Object -/
def k0 : Class := { plain "java/lang/Object" none with
  accessFlags := 33
  interfaces := #[]
  cf := some (fileOf pool0 8 #[] #[{ accessFlags := 1, nameIndex := 5, descriptorIndex := 6, attributes := #[] }, { accessFlags := 260, nameIndex := 96, descriptorIndex := 97, attributes := #[] }] 33 0 #[] #[])
  fields := #[]
  methods := #[k0m0, k0m1]
  instanceTypes := #[]
  staticTypes := #[]
  resolved := Array.replicate 124 none
  statics := none }

def pool1 : Array CpInfo := pool [(2, .class_ 4), (1, u "java/lang/Object"), (0, u "<init>"), (0, u "()V"), (0, .integer 1048575), (0, .class_ 9), (0, u "com/example/anagrafe/anagrafe/soap/ResultSet"), (0, .methodref 8 11), (0, .nameAndType 5 12), (0, u "([II)V"), (0, .methodref 8 14), (0, .nameAndType 15 16), (0, u "pageCount"), (0, u "()I"), (0, .class_ 18), (0, u "com/example/anagrafe/anagrafe/soap/ResultSetPageCountPinLaw"), (2, u "law"), (0, u "(II)Z")] 5

def k1m0 : Method := { name := "<init>", desc := "()V", sig := { parameters := [], returnType := none }, accessFlags := 1, code := none }
def k1c1 : Code := { maxStack := 4, maxLocals := 11, code := code, exceptionTable := #[], attributes := #[] }
def k1m1 : Method := { name := "law", desc := "(II)Z", sig := { parameters := [.int, .int], returnType := some .boolean }, accessFlags := 9, code := some k1c1 }
/-- com/example/anagrafe/anagrafe/soap/ResultSetPageCountPinLaw -/
def k1 : Class := { plain "com/example/anagrafe/anagrafe/soap/ResultSetPageCountPinLaw" (some 0) with
  accessFlags := 49
  interfaces := #[]
  cf := some (fileOf pool1 17 #[] #[{ accessFlags := 1, nameIndex := 5, descriptorIndex := 6, attributes := #[] }, { accessFlags := 9, nameIndex := 21, descriptorIndex := 22, attributes := #[] }] 49 2 #[] #[])
  fields := #[]
  methods := #[k1m0, k1m1]
  instanceTypes := #[]
  staticTypes := #[]
  resolved := Array.replicate 28 none
  statics := none }

def pool2 : Array CpInfo := pool [(1, .methodref 2 3), (0, .class_ 4), (0, .nameAndType 5 6), (0, u "java/lang/Object"), (0, u "<init>"), (0, u "()V"), (0, .methodref 8 9), (0, .class_ 10), (0, .nameAndType 11 12), (0, u "[I"), (0, u "clone"), (0, u "()Ljava/lang/Object;"), (0, .fieldref 14 15), (0, .class_ 16), (0, .nameAndType 17 10), (0, u "com/example/anagrafe/anagrafe/soap/ResultSet"), (0, u "physdocs"), (0, .fieldref 14 19), (0, .nameAndType 20 21), (0, u "pageSize"), (0, u "I"), (2, u "pageIndex"), (2, u "pageCount"), (0, u "()I"), (23, u "([II)V")] 8

def k2c0 : Code := { maxStack := 2, maxLocals := 3, code := prog_50_method_1_code, exceptionTable := #[], attributes := #[] }
def k2m0 : Method := { name := "<init>", desc := "([II)V", sig := { parameters := [(.array .int), .int], returnType := none }, accessFlags := 0, code := some k2c0 }
def k2c1 : Code := { maxStack := 2, maxLocals := 1, code := prog_50_method_4_code, exceptionTable := #[], attributes := #[] }
def k2m1 : Method := { name := "pageCount", desc := "()I", sig := { parameters := [], returnType := some .int }, accessFlags := 0, code := some k2c1 }
/-- com/example/anagrafe/anagrafe/soap/ResultSet -/
def k2 : Class := { plain "com/example/anagrafe/anagrafe/soap/ResultSet" (some 0) with
  accessFlags := 48
  interfaces := #[]
  cf := some (fileOf pool2 14 #[] #[{ accessFlags := 0, nameIndex := 5, descriptorIndex := 52, attributes := #[] }, { accessFlags := 0, nameIndex := 27, descriptorIndex := 28, attributes := #[] }] 48 2 #[] #[{ accessFlags := 18, nameIndex := 17, descriptorIndex := 10, attributes := #[] }, { accessFlags := 18, nameIndex := 20, descriptorIndex := 21, attributes := #[] }, { accessFlags := 2, nameIndex := 24, descriptorIndex := 21, attributes := #[] }])
  fields := #[{ name := "physdocs", type := (.array .int), accessFlags := 18, slot := 0, constantValue := 0 }, { name := "pageSize", type := .int, accessFlags := 18, slot := 1, constantValue := 0 }, { name := "pageIndex", type := .int, accessFlags := 2, slot := 2, constantValue := 0 }]
  methods := #[k2m0, k2m1]
  instanceTypes := #[(.array .int), .int, .int]
  staticTypes := #[]
  resolved := Array.replicate 61 none
  statics := none }

def pool3 : Array CpInfo := pool [(1, .class_ 2), (0, u "java/lang/Cloneable"), (0, .class_ 4), (0, u "java/lang/Object")] 2

/-- java/lang/Cloneable -/
def k3 : Class := { plain "java/lang/Cloneable" (some 0) with
  accessFlags := 1537
  interfaces := #[]
  cf := some (fileOf pool3 1 #[] #[] 1537 3 #[] #[])
  fields := #[]
  methods := #[]
  instanceTypes := #[]
  staticTypes := #[]
  resolved := Array.replicate 7 none
  statics := none }

def pool4 : Array CpInfo := pool [(1, u "java/io/Serializable"), (0, .class_ 1), (0, u "java/lang/Object"), (0, .class_ 3)] 3

/-- java/io/Serializable -/
def k4 : Class := { plain "java/io/Serializable" (some 0) with
  accessFlags := 1537
  interfaces := #[]
  cf := some (fileOf pool4 2 #[] #[] 1537 4 #[] #[])
  fields := #[]
  methods := #[]
  instanceTypes := #[]
  staticTypes := #[]
  resolved := Array.replicate 8 none
  statics := none }

/-- the primitive byte -/
def k5 : Class := { plain "byte" none with kind := .primitive 'B', accessFlags := 0x411 }
/-- [B -/
def k6 : Class := { plain "[B" (some 0) with kind := .array 5 .byte, interfaces := #[3, 4], accessFlags := 1041 }

/-- the primitive int -/
def k7 : Class := { plain "int" none with kind := .primitive 'I', accessFlags := 0x411 }
/-- [I -/
def k8 : Class := { plain "[I" (some 0) with kind := .array 7 .int, interfaces := #[3, 4], accessFlags := 1041 }

def heap : Heap := #[]
def classes : Array Class := #[k0, k1, k2, k3, k4, k5, k6, k7, k8]
def interned : List (Array UInt16 × Addr) := []
def slotsUsed : Nat := 0
def theMethod : MethodId := ⟨1, 1⟩
def args0 : Array Value := #[.int 5, .int 7]
def aboutOver (below : List Frame) : State where
  vm := { classes := classes, interned := interned.toArray }
  heap := heap
  slotsUsed := slotsUsed
  threads := #[{ frames := .invoking theMethod args0 :: below }]
def below0 : List Frame := [.native { method := ⟨0, 0⟩, args := #[] }]
def about1 : State := aboutOver below0
def p0 : Program := .bare "" "" ""
def e0 : Env := launch0.env 0 0 0
theorem w_frames : about1.frames = Frame.invoking theMethod args0 :: below0 := rfl
set_option maxRecDepth 65536 in
theorem w_args : argsFit about1.vm theMethod args0 = true := by decide +kernel
set_option maxRecDepth 65536 in
theorem w_heap : heapFits about1 = true := by decide +kernel
set_option maxRecDepth 65536 in
theorem w_runnable : about1.curStatus? = some .runnable := by decide +kernel
set_option maxRecDepth 65536 in
theorem w_alone : about1.alone = true := by decide +kernel
set_option maxRecDepth 65536 in
theorem w_named : about1.methodNamed? x = some theMethod := by decide +kernel
set_option maxRecDepth 65536 in
theorem w_hears : about1.hears theMethod below0 = true := by decide +kernel
set_option maxRecDepth 65536 in
theorem w_ripe : about1.ripe theMethod args0 below0 = true := by decide +kernel
theorem w_running : about1.status = .running := rfl
set_option maxRecDepth 65536 in
theorem w_room : about1.hasRoom e0.platform room_1 = true :=
  launch0.hasRoom_least _ room_1 (by decide +kernel) (by decide +kernel) (by decide +kernel) (by decide +kernel) (by decide +kernel) (by decide +kernel)
theorem allAtoms_all (ts : List Jvm.Cond) (a : Array Jvm.Value) (st : Jvm.State) : (allAtoms ts).before a st = ts.all (fun c => c.before a st) := by
  induction ts with
  | nil => rfl
  | cons c t ih =>
    show (Jvm.Cond.and c (allAtoms t)).before a st = _
    rw [Jvm.Cond.before_and, ih, List.all_cons]
def words1 : List Jvm.Cond := Jvm.Cond.code x code maxLocals ret :: tables_1
/-- a 'code' word, met by the world's own term for the bytes: nothing is compared byte by byte -/
theorem code_word {y : MethodName} {bytes : ByteArray} {mx : Nat} {rt : Option FieldType} {a : Array Value} {s : State} {m : MethodId} {meth : Method} {c : Code} (h1 : s.methodNamed? y = some m) (h2 : s.vm.method? m = some meth) (h3 : meth.code = some c) (h4 : c.code = bytes)
    (h5 : (c.maxLocals == mx && c.exceptionTable.isEmpty && decide (c.maxStack ≤ mostOperands) && decide (meth.sig.returnType = rt) && !meth.locks && decide (parseMethodDescriptor y.desc = some meth.sig)) = true) : (Jvm.Cond.code y bytes mx rt).before a s = true := by
  simp only [Bool.and_eq_true, beq_iff_eq, Bool.not_eq_true', decide_eq_true_eq] at h5
  obtain ⟨⟨⟨⟨⟨g1, g2⟩, g3⟩, g4⟩, g5⟩, g6⟩ := h5
  simp [Cond.before, Cond.holds, Cond.value, h1, h2, h3, h4, g1, g2, g3, g4, g5, g6]
def isCode : Jvm.Cond → Bool
  | .code _ _ _ _ => true
  | _ => false
theorem all_split {L : List Jvm.Cond} {P : Jvm.Cond → Bool} (h1 : L.all (fun c => isCode c || P c) = true) (h2 : ∀ c ∈ L.filter isCode, P c = true) : L.all P = true := by
  refine List.all_eq_true.mpr fun c hc => ?_
  have h := List.all_eq_true.mp h1 c hc
  rcases Bool.eq_false_or_eq_true (isCode c) with hi | hi
  · exact h2 c (List.mem_filter.mpr ⟨hc, hi⟩)
  · simpa [hi] using h
set_option maxRecDepth 65536 in
theorem w_c0 : (Jvm.Cond.code x code maxLocals ret).before args0 about1 = true := code_word (m := ⟨1, 1⟩) (meth := k1m1) (c := k1c1) (by decide +kernel) rfl rfl rfl (by decide +kernel)
set_option maxRecDepth 65536 in
theorem w_c1 : (Jvm.Cond.code ({ cls := "com/example/anagrafe/anagrafe/soap/ResultSet", name := "<init>", desc := "([II)V" } : Jvm.MethodName) prog_50_method_1_code (3 : Nat) (Option.none : Option Jvm.ClassFile.FieldType)).before args0 about1 = true := code_word (m := ⟨2, 0⟩) (meth := k2m0) (c := k2c0) (by decide +kernel) rfl rfl rfl (by decide +kernel)
set_option maxRecDepth 65536 in
theorem w_c2 : (Jvm.Cond.code ({ cls := "java/lang/Object", name := "<init>", desc := "()V" } : Jvm.MethodName) object_method_1_code (1 : Nat) (Option.none : Option Jvm.ClassFile.FieldType)).before args0 about1 = true := code_word (m := ⟨0, 0⟩) (meth := k0m0) (c := k0c0) (by decide +kernel) rfl rfl rfl (by decide +kernel)
set_option maxRecDepth 65536 in
theorem w_c3 : (Jvm.Cond.code ({ cls := "com/example/anagrafe/anagrafe/soap/ResultSet", name := "pageCount", desc := "()I" } : Jvm.MethodName) prog_50_method_4_code (1 : Nat) (Option.some Jvm.ClassFile.FieldType.int)).before args0 about1 = true := code_word (m := ⟨2, 1⟩) (meth := k2m1) (c := k2c1) (by decide +kernel) rfl rfl rfl (by decide +kernel)
def codes1 : List Jvm.Cond := [Jvm.Cond.code x code maxLocals ret, Jvm.Cond.code ({ cls := "com/example/anagrafe/anagrafe/soap/ResultSet", name := "<init>", desc := "([II)V" } : Jvm.MethodName) prog_50_method_1_code (3 : Nat) (Option.none : Option Jvm.ClassFile.FieldType), Jvm.Cond.code ({ cls := "java/lang/Object", name := "<init>", desc := "()V" } : Jvm.MethodName) object_method_1_code (1 : Nat) (Option.none : Option Jvm.ClassFile.FieldType), Jvm.Cond.code ({ cls := "com/example/anagrafe/anagrafe/soap/ResultSet", name := "pageCount", desc := "()I" } : Jvm.MethodName) prog_50_method_4_code (1 : Nat) (Option.some Jvm.ClassFile.FieldType.int)]
set_option maxRecDepth 65536 in
theorem codes_eq : words1.filter isCode = codes1 := rfl
theorem w_codes : ∀ c ∈ words1.filter isCode, c.before args0 about1 = true := by
  rw [codes_eq]
  intro c hc
  simp only [codes1, List.mem_cons, List.not_mem_nil, or_false] at hc
  rcases hc with rfl | rfl | rfl | rfl
  · exact w_c0
  · exact w_c1
  · exact w_c2
  · exact w_c3
set_option maxRecDepth 65536 in
theorem w_t1 : (words1.take 24).all (fun c => isCode c || c.before args0 about1) = true := by decide +kernel
set_option maxRecDepth 65536 in
theorem w_t2 : (words1.drop 24).all (fun c => isCode c || c.before args0 about1) = true := by decide +kernel
theorem w_tables : (allAtoms (Jvm.Cond.code x code maxLocals ret :: tables_1)).before args0 about1 = true := by
  rw [allAtoms_all]
  show words1.all (fun c => c.before args0 about1) = true
  refine all_split ?_ w_codes
  rw [← List.take_append_drop 24 words1, List.all_append, w_t1, w_t2]
  rfl
set_option maxRecDepth 65536 in
theorem w_case : (Jvm.Cond.and given_1 narrow_1).before args0 about1 = true := by decide +kernel
theorem w_applies : (headSpec (Jvm.Cond.code x code maxLocals ret :: tables_1) room_1).applies x e0.platform about1 = true :=
  (Spec.applies_iff w_frames).mpr ⟨w_running, w_runnable, w_alone, w_named, w_hears, w_ripe, w_room, w_tables⟩
theorem atStart : AtStart classFile x code maxLocals ret World_1 tables_1 room_1 Calls_1 rest_1 Pre_1 launch0 p0 e0 about1 theMethod args0 below0 :=
  ⟨lists_1, trivial, launch0.admits_env _ _ _, launch0.least_env, fairChoices_fair.cas, fairChoices_fair.clock, w_frames, w_args, w_heap, w_applies, trivial, trivial, w_case⟩
end start1
theorem witness_1 : WitnessClaimed_1 := ⟨start1.p0, start1.e0, start1.about1, start1.theMethod, start1.args0, start1.below0, start1.atStart⟩
end Jvm.Pilot.@@N@@
