import JvmDerived
import JvmDerived.Pilot.@@N@@Statement
import JvmDerived.Pilot.@@N@@Code
set_option linter.unusedVariables false
set_option linter.unusedSimpArgs false
namespace Jvm.Pilot.@@N@@
open Jvm Jvm.ClassFile Sem Op Lib Jvm.Free Jvm.Stand Jvm.LawKit Jvm.RoadKit Bundle Jvm.Pilot.@@N@@.Jvm.D
/-- the body's goal from a state on -/
def Go (p : Program) (e : Env) (below : List Frame) (P : Outcome → State → Prop) (U : State) : Prop :=
  ∃ s₂ o, Steps p.tables e below U s₂ ∧ s₂.status = .running ∧ Ended s₂ below o ∧ P o s₂
/-- the unsigned shifts, the remainders -/
def uI (x y : Int32) : Int32 := (x.toUInt32 >>> (y &&& 31).toUInt32).toInt32
def uL (x : Int64) (y : Int32) : Int64 := (x.toUInt64 >>> (y &&& 0x3f).toInt64.toUInt64).toInt64
def sL (x : Int64) (y : Int32) : Int64 := x >>> (y &&& 0x3f).toInt64
def lL (x : Int64) (y : Int32) : Int64 := x <<< (y &&& 0x3f).toInt64
section Own
variable {p : Program} {l : Launch} {e : Env} {R : Room} {s : State} {m : MethodId} {args : Array Value} {below : List Frame} {meth : Method} {c : Code} {T : State} {locs : List Loc} {cells slots : Nat} {P : Outcome → State → Prop} {pc pc' : Nat} {L L' : Array Slot} {S : List Value} {Z : State} {a0 : Array Value} {h : Heap}
theorem Go.via {U U' : State} (q : ∀ t, Steps p.tables e below U' t → Steps p.tables e below U t) (k : Go p e below P U') : Go p e below P U := by
  obtain ⟨s₂, o, h1, h2⟩ := k
  exact ⟨s₂, o, q _ h1, h2⟩
theorem Go.tr {U U' : State} (q : Steps p.tables e below U U') (k : Go p e below P U') : Go p e below P U := k.via fun _ h => q.trans h
theorem o_iload (X : Stand p l e R s m args below meth c T locs cells slots) (hx : p.tables.exec = Jvm.exec) {k : Nat} {v : Int32} (hd : decode c.code pc = .ok (.iload k, 2)) (hp : pc + 2 = pc') (hl : L[k]? = some (.val (.int v))) (K : Go p e below P (T.setTop (mkF m pc' L (.int v :: S)))) : Go p e below P (T.setTop (mkF m pc L (S))) := by
  subst hp; exact K.via fun t k => XS.iload X.here hx rfl hd hl k
theorem o_iloadN (X : Stand p l e R s m args below meth c T locs cells slots) (hx : p.tables.exec = Jvm.exec) {k : Fin 4} {v : Int32} (hd : decode c.code pc = .ok (.iload_n k, 1)) (hp : pc + 1 = pc') (hl : L[k.val]? = some (.val (.int v))) (K : Go p e below P (T.setTop (mkF m pc' L (.int v :: S)))) : Go p e below P (T.setTop (mkF m pc L (S))) := by
  subst hp; exact K.via fun t k => XS.iloadN X.here hx rfl hd hl k
theorem o_lload (X : Stand p l e R s m args below meth c T locs cells slots) (hx : p.tables.exec = Jvm.exec) {k : Nat} {v : Int64} (hd : decode c.code pc = .ok (.lload k, 2)) (hp : pc + 2 = pc') (hl : L[k]? = some (.val (.long v))) (K : Go p e below P (T.setTop (mkF m pc' L (.long v :: S)))) : Go p e below P (T.setTop (mkF m pc L (S))) := by
  subst hp; exact K.via fun t k => XS.lload X.here hx rfl hd hl k
theorem o_lloadN (X : Stand p l e R s m args below meth c T locs cells slots) (hx : p.tables.exec = Jvm.exec) {k : Fin 4} {v : Int64} (hd : decode c.code pc = .ok (.lload_n k, 1)) (hp : pc + 1 = pc') (hl : L[k.val]? = some (.val (.long v))) (K : Go p e below P (T.setTop (mkF m pc' L (.long v :: S)))) : Go p e below P (T.setTop (mkF m pc L (S))) := by
  subst hp; exact K.via fun t k => XS.lloadN X.here hx rfl hd hl k
theorem o_istore (X : Stand p l e R s m args below meth c T locs cells slots) (hx : p.tables.exec = Jvm.exec) {k : Nat} {x : Int32} (hd : decode c.code pc = .ok (.istore k, 2)) (hp : pc + 2 = pc') (hl : storeLocals L k (.int x) = some L') (K : Go p e below P (T.setTop (mkF m pc' L' (S)))) : Go p e below P (T.setTop (mkF m pc L (.int x :: S))) := by
  subst hp; exact K.via fun t k => XS.istore X.here hx rfl hd rfl hl k
theorem o_istoreN (X : Stand p l e R s m args below meth c T locs cells slots) (hx : p.tables.exec = Jvm.exec) {k : Fin 4} {x : Int32} (hd : decode c.code pc = .ok (.istore_n k, 1)) (hp : pc + 1 = pc') (hl : storeLocals L k.val (.int x) = some L') (K : Go p e below P (T.setTop (mkF m pc' L' (S)))) : Go p e below P (T.setTop (mkF m pc L (.int x :: S))) := by
  subst hp; exact K.via fun t k => XS.istoreN X.here hx rfl hd rfl hl k
theorem o_lstore (X : Stand p l e R s m args below meth c T locs cells slots) (hx : p.tables.exec = Jvm.exec) {k : Nat} {x : Int64} (hd : decode c.code pc = .ok (.lstore k, 2)) (hp : pc + 2 = pc') (hl : storeLocals L k (.long x) = some L') (K : Go p e below P (T.setTop (mkF m pc' L' (S)))) : Go p e below P (T.setTop (mkF m pc L (.long x :: S))) := by
  subst hp; exact K.via fun t k => XS.lstore X.here hx rfl hd rfl hl k
theorem o_lstoreN (X : Stand p l e R s m args below meth c T locs cells slots) (hx : p.tables.exec = Jvm.exec) {k : Fin 4} {x : Int64} (hd : decode c.code pc = .ok (.lstore_n k, 1)) (hp : pc + 1 = pc') (hl : storeLocals L k.val (.long x) = some L') (K : Go p e below P (T.setTop (mkF m pc' L' (S)))) : Go p e below P (T.setTop (mkF m pc L (.long x :: S))) := by
  subst hp; exact K.via fun t k => XS.lstoreN X.here hx rfl hd rfl hl k
theorem o_iconst (X : Stand p l e R s m args below meth c T locs cells slots) (hx : p.tables.exec = Jvm.exec) {i : Int} (v : Int32) (hd : decode c.code pc = .ok (.iconst i, 1)) (hp : pc + 1 = pc') (hv : Int32.ofInt i = v) (K : Go p e below P (T.setTop (mkF m pc' L (.int v :: S)))) : Go p e below P (T.setTop (mkF m pc L (S))) := by
  subst hp; exact K.via fun t k => XS.iconst X.here hx rfl hd (hv ▸ k)
theorem o_bipush (X : Stand p l e R s m args below meth c T locs cells slots) (hx : p.tables.exec = Jvm.exec) {i : Int} (v : Int32) (hd : decode c.code pc = .ok (.bipush i, 2)) (hp : pc + 2 = pc') (hv : (Int8.ofInt i).toInt32 = v) (K : Go p e below P (T.setTop (mkF m pc' L (.int v :: S)))) : Go p e below P (T.setTop (mkF m pc L (S))) := by
  subst hp; exact K.via fun t k => XS.bipush X.here hx rfl hd (hv ▸ k)
theorem o_lconst (X : Stand p l e R s m args below meth c T locs cells slots) (hx : p.tables.exec = Jvm.exec) {i : Fin 2} (v : Int64) (hd : decode c.code pc = .ok (.lconst i, 1)) (hp : pc + 1 = pc') (hv : Int64.ofNat i = v) (K : Go p e below P (T.setTop (mkF m pc' L (.long v :: S)))) : Go p e below P (T.setTop (mkF m pc L (S))) := by
  subst hp; exact K.via fun t k => XS.lconst X.here hx rfl hd (hv ▸ k)
theorem o_iand (X : Stand p l e R s m args below meth c T locs cells slots) (hx : p.tables.exec = Jvm.exec) {x y : Int32} (hd : decode c.code pc = .ok (.iand, 1)) (hp : pc + 1 = pc')  (K : Go p e below P (T.setTop (mkF m pc' L (.int (x &&& y) :: S)))) : Go p e below P (T.setTop (mkF m pc L (.int y :: .int x :: S))) := by
  subst hp; exact K.via fun t k => XS.iand X.here hx rfl hd rfl k
theorem o_ladd (X : Stand p l e R s m args below meth c T locs cells slots) (hx : p.tables.exec = Jvm.exec) {x y : Int64} (hd : decode c.code pc = .ok (.ladd, 1)) (hp : pc + 1 = pc')  (K : Go p e below P (T.setTop (mkF m pc' L (.long (x + y) :: S)))) : Go p e below P (T.setTop (mkF m pc L (.long y :: .long x :: S))) := by
  subst hp; exact K.via fun t k => XS.ladd X.here hx rfl hd rfl k
theorem o_lsub (X : Stand p l e R s m args below meth c T locs cells slots) (hx : p.tables.exec = Jvm.exec) {x y : Int64} (hd : decode c.code pc = .ok (.lsub, 1)) (hp : pc + 1 = pc')  (K : Go p e below P (T.setTop (mkF m pc' L (.long (x - y) :: S)))) : Go p e below P (T.setTop (mkF m pc L (.long y :: .long x :: S))) := by
  subst hp; exact K.via fun t k => XS.lsub X.here hx rfl hd rfl k
theorem o_lmul (X : Stand p l e R s m args below meth c T locs cells slots) (hx : p.tables.exec = Jvm.exec) {x y : Int64} (hd : decode c.code pc = .ok (.lmul, 1)) (hp : pc + 1 = pc')  (K : Go p e below P (T.setTop (mkF m pc' L (.long (x * y) :: S)))) : Go p e below P (T.setTop (mkF m pc L (.long y :: .long x :: S))) := by
  subst hp; exact K.via fun t k => XS.lmul X.here hx rfl hd rfl k
theorem o_ishr (X : Stand p l e R s m args below meth c T locs cells slots) (hx : p.tables.exec = Jvm.exec) {x y : Int32} (hd : decode c.code pc = .ok (.ishr, 1)) (hp : pc + 1 = pc')  (K : Go p e below P (T.setTop (mkF m pc' L (.int (x >>> (y &&& 31)) :: S)))) : Go p e below P (T.setTop (mkF m pc L (.int y :: .int x :: S))) := by
  subst hp; exact K.via fun t k => XS.ishr X.here hx rfl hd rfl k
theorem o_ldiv (X : Stand p l e R s m args below meth c T locs cells slots) (hx : p.tables.exec = Jvm.exec) {x y : Int64} (hd : decode c.code pc = .ok (.ldiv, 1)) (hp : pc + 1 = pc') (hy : y ≠ 0) (K : Go p e below P (T.setTop (mkF m pc' L (.long (x / y) :: S)))) : Go p e below P (T.setTop (mkF m pc L (.long y :: .long x :: S))) := by
  subst hp; exact K.via fun t k => XS.ldiv X.here hx rfl hd rfl hy k
theorem o_i2l (X : Stand p l e R s m args below meth c T locs cells slots) (hx : p.tables.exec = Jvm.exec) {x : Int32} (hd : decode c.code pc = .ok (.i2l, 1)) (hp : pc + 1 = pc')  (K : Go p e below P (T.setTop (mkF m pc' L (.long x.toInt64 :: S)))) : Go p e below P (T.setTop (mkF m pc L (.int x :: S))) := by
  subst hp; exact K.via fun t k => XS.i2l X.here hx rfl hd rfl k
theorem o_goto (X : Stand p l e R s m args below meth c T locs cells slots) (hx : p.tables.exec = Jvm.exec) {o : Int} (hd : decode c.code pc = .ok (.goto o, 3)) (ho : 0 ≤ (pc : Int) + o) (hp : ((pc : Int) + o).toNat = pc') (K : Go p e below P (T.setTop (mkF m pc' L S))) : Go p e below P (T.setTop (mkF m pc L S)) :=
  K.via fun t k => XS.goto X.here hx rfl rfl hd ho hp k
theorem o_ifY (X : Stand p l e R s m args below meth c T locs cells slots) (hx : p.tables.exec = Jvm.exec) {cd : ClassFile.Cond} {x : Int32} {o : Int} (hd : decode c.code pc = .ok (.ifCond cd o, 3)) (hc : if_icmp.holds cd x 0 = true) (ho : 0 ≤ (pc : Int) + o) (hp : ((pc : Int) + o).toNat = pc') (K : Go p e below P (T.setTop (mkF m pc' L S))) : Go p e below P (T.setTop (mkF m pc L (.int x :: S))) :=
  K.via fun t k => XS.ifYes X.here hx rfl rfl hd rfl ((if0 _ _).trans hc) ho hp k
theorem o_ifN (X : Stand p l e R s m args below meth c T locs cells slots) (hx : p.tables.exec = Jvm.exec) {cd : ClassFile.Cond} {x : Int32} {o : Int} (hd : decode c.code pc = .ok (.ifCond cd o, 3)) (hc : if_icmp.holds cd x 0 = false) (hp : pc + 3 = pc') (K : Go p e below P (T.setTop (mkF m pc' L S))) : Go p e below P (T.setTop (mkF m pc L (.int x :: S))) := by
  subst hp; exact K.via fun t k => XS.ifNo X.here hx rfl hd rfl ((if0 _ _).trans hc) k
theorem o_cmpY (X : Stand p l e R s m args below meth c T locs cells slots) (hx : p.tables.exec = Jvm.exec) {cd : ClassFile.Cond} {x y : Int32} {o : Int} (hd : decode c.code pc = .ok (.if_icmp cd o, 3)) (hc : if_icmp.holds cd x y = true) (ho : 0 ≤ (pc : Int) + o) (hp : ((pc : Int) + o).toNat = pc') (K : Go p e below P (T.setTop (mkF m pc' L S))) : Go p e below P (T.setTop (mkF m pc L (.int y :: .int x :: S))) :=
  K.via fun t k => XS.icmpYes X.here hx rfl rfl hd rfl hc ho hp k
theorem o_cmpN (X : Stand p l e R s m args below meth c T locs cells slots) (hx : p.tables.exec = Jvm.exec) {cd : ClassFile.Cond} {x y : Int32} {o : Int} (hd : decode c.code pc = .ok (.if_icmp cd o, 3)) (hc : if_icmp.holds cd x y = false) (hp : pc + 3 = pc') (K : Go p e below P (T.setTop (mkF m pc' L S))) : Go p e below P (T.setTop (mkF m pc L (.int y :: .int x :: S))) := by
  subst hp; exact K.via fun t k => XS.icmpNo X.here hx rfl hd rfl hc k
theorem o_lcmp (X : Stand p l e R s m args below meth c T locs cells slots) (hx : p.tables.exec = Jvm.exec) {x y : Int64} (hd : decode c.code pc = .ok (.lcmp, 1)) (hp : pc + 1 = pc') (K : Go p e below P (T.setTop (mkF m pc' L (.int (lcmpW x y) :: S)))) : Go p e below P (T.setTop (mkF m pc L (.long y :: .long x :: S))) := by
  subst hp; exact K.via fun t k => XS.lcmp X.here hx rfl hd rfl k
theorem tltL {x y : Int64} (q : x < y) : if_icmp.holds .lt (lcmpW x y) 0 = true ∧ if_icmp.holds .ge (lcmpW x y) 0 = false ∧ if_icmp.holds .gt (lcmpW y x) 0 = true ∧ if_icmp.holds .le (lcmpW y x) 0 = false :=
  ⟨(tlt ((lw_lt x y).mpr q)).1, (tlt ((lw_lt x y).mpr q)).2.1, (tlt ((lw_gt y x).mpr q)).2.2.1, (tlt ((lw_gt y x).mpr q)).2.2.2⟩
theorem fltL {x y : Int64} (q : ¬ x < y) : if_icmp.holds .lt (lcmpW x y) 0 = false ∧ if_icmp.holds .ge (lcmpW x y) 0 = true ∧ if_icmp.holds .gt (lcmpW y x) 0 = false ∧ if_icmp.holds .le (lcmpW y x) 0 = true :=
  ⟨(flt (mt (lw_lt x y).mp q)).1, (flt (mt (lw_lt x y).mp q)).2.1, (flt (mt (lw_gt y x).mp q)).2.2.1, (flt (mt (lw_gt y x).mp q)).2.2.2⟩
theorem teqL {x y : Int64} (q : x = y) : if_icmp.holds .eq (lcmpW x y) 0 = true ∧ if_icmp.holds .ne (lcmpW x y) 0 = false := teq ((lw_eq x y).mpr q)
theorem feqL {x y : Int64} (q : ¬ x = y) : if_icmp.holds .eq (lcmpW x y) 0 = false ∧ if_icmp.holds .ne (lcmpW x y) 0 = true := feq (mt (lw_eq x y).mp q)
theorem o_ldcJ (X : Stand p l e R s m args below meth c T locs cells slots) (hx : p.tables.exec = Jvm.exec) (hZ : Z.Warmed39 s.vm) {own : String} {index : Nat} (v : Int64) (hown : s.vm.findClass own = some m.cls) (w : (Cond.constantLong own index v).before a0 Z = true) (hd : decode c.code pc = .ok (.ldc2_w index, 3)) (hp : pc + 3 = pc') (K : Go p e below P (T.setTop (mkF m pc' L (.long v :: S)))) : Go p e below P (T.setTop (mkF m pc L S)) := by
  subst hp; exact K.via (X.ldc2Long hx hown (mvT hZ w) (g := mkF m pc L S) rfl hd)
/-- what a body's end owes -/
abbrev Owe (s : State) (Q : Option Value → Heap → List Loc → Prop) (C D : Nat) : Outcome → State → Prop := fun o U' => ∃ v L, o = .returned v ∧ Q v U'.heap L ∧ FrameEnd s o U' L C D
/-- a body's contract -/
abbrev Con (l : Launch) (y : MethodName) (bytes : ByteArray) (ml : Nat) (ret : Option FieldType) (ws : List Jvm.Cond) (rm : Room) (as' : Array Value) (Z : State) (h0 : Heap) (Q : Option Value → Heap → List Loc → Prop) (C D : Nat) : Prop :=
  MetFree l y (head1 (Jvm.Cond.code y bytes ml ret :: ws) rm) (fun b U => b = as' ∧ Z.Warmed39 U.vm ∧ U.heap = h0) (fun _ _ _ _ _ => True) (fun _ U o U' => ∃ v L, o = .returned v ∧ Q v U'.heap L ∧ FrameEnd U o U' L C D)
theorem own_body {y : MethodName} {bytes : ByteArray} {ml : Nat} {ret : Option FieldType} {ws : List Jvm.Cond} {rm : Room} {as' : Array Value} {h0 : Heap} {Q : Option Value → Heap → List Loc → Prop} {C D : Nat} (hpl : plainFor y = true)
    (K : ∀ (p : Program) (e : Env) (s : State) (m : MethodId) (below : List Frame) (meth : Method) (c : Code) (s₁ : State), p.tables.exec = Jvm.exec → c.code = bytes → meth.locks = false → c.maxLocals = ml → s.vm.findClass y.cls = some m.cls → meth.name = y.name → meth.sig.returnType = ret → Z.Warmed39 s.vm →
      Stand p l e rm s m as' below meth c s₁ [] 0 0 → s₁.heap = h0 → Go p e below (Owe s Q C D) (s₁.setTop (entryFrame m as' ml))) : Con l y bytes ml ret ws rm as' Z h0 Q C D := by
  refine MetFree.of_bodySF hpl hisR ?_
  intro p e s m args below meth c s₁ Bd hml0 hP hK
  obtain ⟨rfl, hZ, hh⟩ := hP
  exact K p e s m below meth c s₁ Bd.exec Bd.bytes (BodyLoose.notSynchronized Bd) hml0 (findClass_of_methodNamed Bd.named) (name_of_methodNamed Bd.named Bd.method).1 Bd.returns hZ (Stand.of_body Bd) (by rw [← hh, Bd.state]; rfl)
theorem o_ret (X : Stand p l e R s m args below meth c T locs cells slots) (hx : p.tables.exec = Jvm.exec) {Q : Option Value → Heap → List Loc → Prop} {C D : Nat} {w : Value} {t : FieldType} {i : Instr} (hlocks : meth.locks = false) (hret : meth.sig.returnType = some t) (hn : narrow t w = w)
    (hi : (i = .ireturn ∧ (t = .int ∨ t = .boolean ∨ t = .byte ∨ t = .char ∨ t = .short) ∧ ∃ z, w = .int z) ∨ (i = .lreturn ∧ t = .long ∧ ∃ z, w = .long z) ∨ (i = .dreturn ∧ t = .double ∧ ∃ z, w = .double z) ∨ (i = .freturn ∧ t = .float ∧ ∃ z, w = .float z) ∨ (i = .areturn ∧ t.isReference = true ∧ w.isRef = true))
    (hd : decode c.code pc = .ok (i, 1)) (hc : cells ≤ C) (hs : slots ≤ D) (hq : Q (some w) T.heap locs) : Go p e below (Owe s Q C D) (T.setTop (mkF m pc L (w :: S))) := by
  obtain ⟨fs, hr, hrun, hended, hW, hsame⟩ := X.leave (v := some w) (fun h => by rw [hret] at h; cases h) hlocks
  exact ⟨_, _, retOut X hx hret hn hi hd hr, hrun, hended, _, _, rfl, hq, ⟨_, rfl⟩, hW, hsame.mono hc hs⟩
theorem o_retZ (X : Stand p l e R s m args below meth c T locs cells slots) (hx : p.tables.exec = Jvm.exec) {Q : Option Value → Heap → List Loc → Prop} {C D : Nat} {z : Int32} (hz : narrow .boolean (.int z) = .int z) (hlocks : meth.locks = false) (hret : meth.sig.returnType = some .boolean) (hd : decode c.code pc = .ok (.ireturn, 1)) (hc : cells ≤ C) (hs : slots ≤ D) (hq : Q (some (.int z)) T.heap locs) : Go p e below (Owe s Q C D) (T.setTop (mkF m pc L (.int z :: S))) :=
  o_ret X hx hlocks hret hz (Or.inl ⟨rfl, Or.inr (Or.inl rfl), z, rfl⟩) hd hc hs hq
theorem o_callS (X : Stand p l e R s m args below meth c T locs cells slots) (hx : p.tables.exec = Jvm.exec) (hZ : Z.Warmed39 s.vm) {own : String} {index : Nat} {y : MethodName} {bytes : ByteArray} {maxL : Nat} {ret : Option FieldType} {rm : Room} (W : Nat) {argsL rest : List Value} {Q : Option Value → Heap → List Loc → Prop} {cells' slots' : Nat}
    (hown : s.vm.findClass own = some m.cls) (w1 : (Cond.methodLink own index y).before a0 Z = true) (w2 : (Cond.static y).before a0 Z = true) (w3 : (Cond.initialized y.cls).before a0 Z = true) (w4 : (Cond.code y bytes maxL ret).before a0 Z = true) (hy : y.cls ≠ "java/lang/invoke/MethodHandle" ∧ y.cls ≠ "java/lang/invoke/VarHandle")
    (hM : MetFree l y (head1 [Cond.code y bytes maxL ret] rm) (fun a U => a = argsL.toArray ∧ Z.Warmed39 U.vm ∧ U.heap = h) (fun _ _ _ _ _ => True) (fun _ U o U' => ∃ v L, o = .returned v ∧ Q v U'.heap L ∧ FrameEnd U o U' L rm.cells rm.slots))
    (hf : rm.frames + 1 ≤ R.frames) (hl : W + (maxL + 11) + rm.locals ≤ R.locals) (hcc : cells + rm.cells = cells') (hss : slots + rm.slots = slots') (hc : cells' ≤ R.cells) (hs : slots' ≤ R.slots) (eT : T.heap = h) (hsize : L.size = c.maxLocals) (hlen : ∀ sig, parseMethodDescriptor y.desc = some sig → argsL.length = sig.parameters.length) (hstk : S = argsL.reverse ++ rest)
    (hW : (rest.map fun v => v.category).sum = W) (hd : decode c.code pc = .ok (.invokestatic index, 3)) (hp : pc + 3 = pc') (K : ∀ T' v Lc, Stand p l e R s m args below meth c T' (locs ++ Lc) cells' slots' → Q v T'.heap Lc → Go p e below P (T'.setTop (mkF m pc' L (v.toList ++ rest)))) : Go p e below P (T.setTop (mkF m pc L S)) := by
  subst hp hcc hss
  obtain ⟨v, _, ⟨T', L', k', n'⟩, -, X', ⟨Lc, hQ, l', y', z'⟩, st⟩ := Jvm.LawKit.callS X hx hown (mvT hZ w1) (mvT hZ w2) (mvT hZ w3) (mvT hZ w4) hy (backOf (W := W) hM hZ w4 w3 hf hl) (g := mkF m pc L S) rfl hsize (argsL := argsL) (rest := rest) hlen hstk (by show 2 * 0 + _ ≤ _; rw [hW]; exact Nat.le_of_eq (by simp)) hd (fun _ _ => ⟨rfl, eT, hc, hs⟩)
  dsimp only [Pt.U, Pt.locs, Pt.cells, Pt.slots] at X' l' y' z' st hQ
  subst l' y' z'
  exact (K T' v Lc X' hQ).via st
end Own
theorem pd_0 : parseMethodDescriptor "(J)Z" = some ⟨[.long], some .boolean⟩ := by decide +kernel
theorem d1_0 : decode method_3_code 0 = .ok (.lload_n 0, 1) := by decide +kernel
theorem d1_1 : decode method_3_code 1 = .ok (.lconst 0, 1) := by decide +kernel
theorem d1_2 : decode method_3_code 2 = .ok (.lcmp, 1) := by decide +kernel
theorem d1_3 : decode method_3_code 3 = .ok (.ifCond .ge 5, 3) := by decide +kernel
theorem d1_6 : decode method_3_code 6 = .ok (.iconst 0, 1) := by decide +kernel
theorem d1_7 : decode method_3_code 7 = .ok (.ireturn, 1) := by decide +kernel
theorem d1_8 : decode method_3_code 8 = .ok (.lload_n 0, 1) := by decide +kernel
theorem d1_9 : decode method_3_code 9 = .ok (.ldc2_w 28, 3) := by decide +kernel
theorem d1_12 : decode method_3_code 12 = .ok (.lmul, 1) := by decide +kernel
theorem d1_13 : decode method_3_code 13 = .ok (.lstore_n 2, 1) := by decide +kernel
theorem d1_14 : decode method_3_code 14 = .ok (.lload_n 2, 1) := by decide +kernel
theorem d1_15 : decode method_3_code 15 = .ok (.lconst 0, 1) := by decide +kernel
theorem d1_16 : decode method_3_code 16 = .ok (.lcmp, 1) := by decide +kernel
theorem d1_17 : decode method_3_code 17 = .ok (.ifCond .ge 5, 3) := by decide +kernel
theorem d1_20 : decode method_3_code 20 = .ok (.iconst 0, 1) := by decide +kernel
theorem d1_21 : decode method_3_code 21 = .ok (.ireturn, 1) := by decide +kernel
theorem d1_22 : decode method_3_code 22 = .ok (.lload_n 2, 1) := by decide +kernel
theorem d1_23 : decode method_3_code 23 = .ok (.ldc2_w 28, 3) := by decide +kernel
theorem d1_26 : decode method_3_code 26 = .ok (.ldiv, 1) := by decide +kernel
theorem d1_27 : decode method_3_code 27 = .ok (.lload_n 0, 1) := by decide +kernel
theorem d1_28 : decode method_3_code 28 = .ok (.lcmp, 1) := by decide +kernel
theorem d1_29 : decode method_3_code 29 = .ok (.ifCond .ne 7, 3) := by decide +kernel
theorem d1_32 : decode method_3_code 32 = .ok (.iconst 1, 1) := by decide +kernel
theorem d1_33 : decode method_3_code 33 = .ok (.goto 4, 3) := by decide +kernel
theorem d1_36 : decode method_3_code 36 = .ok (.iconst 0, 1) := by decide +kernel
theorem d1_37 : decode method_3_code 37 = .ok (.ireturn, 1) := by decide +kernel
theorem pn_1 : plainName "com/example/keelstore/keelstore/ConsumeQueueHasPlaceForPinLaw" = true := by first | (simp [plainName, overriddenIn]; done) | decide +kernel
theorem ef_1 (m : MethodId) (x0 : Int64) : entryFrame m #[(.long x0)] 4 = mkF m 0 #[.val (.long x0), .second, .unset, .unset] [] := by first | (simp [entryFrame, mkF, argsToLocals, Value.category]; done) | rfl
def own_f1_ret (x1 : Int64) : Int32 := (if x1 < (0 : Int64) then (0 : Int32) else (if (x1 * (20 : Int64)) < (0 : Int64) then (0 : Int32) else (if ((x1 * (20 : Int64)) / (20 : Int64)) = x1 then (1 : Int32) else (0 : Int32))))
theorem own_f1_ret_01 (x1 : Int64) : (own_f1_ret x1) = 0 ∨ (own_f1_ret x1) = 1 := by
  unfold own_f1_ret
  repeat' split
  all_goals first | exact Or.inl rfl | exact Or.inr rfl
def Q1 (Z : State) (x1 : Int64) (h0 : Heap) (n0 : Nat) (v : Option Value) (h : Heap) (L : List Loc) : Prop := v = some (.int (own_f1_ret x1)) ∧ Fr n0 L ∧ h = h0
set_option maxRecDepth 65536 in
set_option maxHeartbeats 40000000 in
theorem rm1 (l : Launch) (Z : State) (a0 : Array Value) (hw : ∀ d ∈ tables_1, d.before a0 Z = true) (ws : List Jvm.Cond) (x1 : Int64) (h0 : Heap) (n0 : Nat) (Z0 : n0 ≤ h0.size)  :
    Con l (⟨"com/example/keelstore/keelstore/ConsumeQueueHasPlaceForPinLaw", "fits", "(J)Z"⟩ : MethodName) method_3_code 4 (some .boolean) ws ({ frames := 0, cells := 0, slots := 0, locals := 0 } : Room) #[(.long x1)] Z h0 (Q1 Z x1 h0 n0) ({ frames := 0, cells := 0, slots := 0, locals := 0 } : Room).cells ({ frames := 0, cells := 0, slots := 0, locals := 0 } : Room).slots := by
  refine own_body (plainFor_of_name pn_1) ?_
  intro p e s m below meth c s₁ hx hby hlk hml hown hnm hrt hZ X0 e0
  have w : ∀ (k : Nat) (d : Jvm.Cond), tables_1[k]? = some d → d.before a0 Z = true := fun k d h => hw d (List.mem_of_getElem? h)
  have N0 := Fr.nil n0
  rw [ef_1]
  generalize hOWE : Owe s _ _ _ = OWE
  refine o_lloadN X0 hx (hb hby d1_0) (pc' := 1) rfl rfl ?_
  refine o_lconst X0 hx (0 : Int64) (hb hby d1_1) (pc' := 2) rfl (by decide) ?_
  refine o_lcmp X0 hx (hb hby d1_2) (pc' := 3) rfl ?_
  by_cases hc3_1 : x1 < (0 : Int64)
  · refine o_ifN X0 hx (hb hby d1_3) (tltL hc3_1).2.1 (pc' := 6) rfl ?_
    refine o_iconst X0 hx (0 : Int32) (hb hby d1_6) (pc' := 7) rfl (by decide) ?_
    rw [← hOWE]
    exact o_retZ X0 hx rfl hlk hrt (hb hby d1_7) (by decide) (by decide) (by rw [e0]; exact ⟨(by rw [own_f1_ret, if_pos hc3_1]), N0, rfl⟩)
  · refine o_ifY X0 hx (hb hby d1_3) (fltL hc3_1).2.1 (by decide) (pc' := 8) (by decide) ?_
    refine o_lloadN X0 hx (hb hby d1_8) (pc' := 9) rfl rfl ?_
    refine o_ldcJ X0 hx hZ (20 : Int64) hown (w 10 _ rfl) (hb hby d1_9) (pc' := 12) rfl ?_
    refine o_lmul X0 hx (hb hby d1_12) (pc' := 13) rfl ?_
    refine o_lstoreN X0 hx (hb hby d1_13) (pc' := 14) rfl (L' := #[.val (.long x1), .second, .val (.long (x1 * (20 : Int64))), .second]) rfl ?_
    refine o_lloadN X0 hx (hb hby d1_14) (pc' := 15) rfl rfl ?_
    refine o_lconst X0 hx (0 : Int64) (hb hby d1_15) (pc' := 16) rfl (by decide) ?_
    refine o_lcmp X0 hx (hb hby d1_16) (pc' := 17) rfl ?_
    by_cases hc17_2 : (x1 * (20 : Int64)) < (0 : Int64)
    · refine o_ifN X0 hx (hb hby d1_17) (tltL hc17_2).2.1 (pc' := 20) rfl ?_
      refine o_iconst X0 hx (0 : Int32) (hb hby d1_20) (pc' := 21) rfl (by decide) ?_
      rw [← hOWE]
      exact o_retZ X0 hx rfl hlk hrt (hb hby d1_21) (by decide) (by decide) (by rw [e0]; exact ⟨(by rw [own_f1_ret, if_neg hc3_1, if_pos hc17_2]), N0, rfl⟩)
    · refine o_ifY X0 hx (hb hby d1_17) (fltL hc17_2).2.1 (by decide) (pc' := 22) (by decide) ?_
      refine o_lloadN X0 hx (hb hby d1_22) (pc' := 23) rfl rfl ?_
      refine o_ldcJ X0 hx hZ (20 : Int64) hown (w 10 _ rfl) (hb hby d1_23) (pc' := 26) rfl ?_
      refine o_ldiv X0 hx (hb hby d1_26) (pc' := 27) rfl (by decide) ?_
      refine o_lloadN X0 hx (hb hby d1_27) (pc' := 28) rfl rfl ?_
      refine o_lcmp X0 hx (hb hby d1_28) (pc' := 29) rfl ?_
      by_cases hc29_3 : ((x1 * (20 : Int64)) / (20 : Int64)) = x1
      · refine o_ifN X0 hx (hb hby d1_29) (teqL hc29_3).2 (pc' := 32) rfl ?_
        refine o_iconst X0 hx (1 : Int32) (hb hby d1_32) (pc' := 33) rfl (by decide) ?_
        refine o_goto X0 hx (hb hby d1_33) (by decide) (pc' := 37) (by decide) ?_
        rw [← hOWE]
        exact o_retZ X0 hx rfl hlk hrt (hb hby d1_37) (by decide) (by decide) (by rw [e0]; exact ⟨(by rw [own_f1_ret, if_neg hc3_1, if_neg hc17_2, if_pos hc29_3]), N0, rfl⟩)
      · refine o_ifY X0 hx (hb hby d1_29) (feqL hc29_3).2 (by decide) (pc' := 36) (by decide) ?_
        refine o_iconst X0 hx (0 : Int32) (hb hby d1_36) (pc' := 37) rfl (by decide) ?_
        rw [← hOWE]
        exact o_retZ X0 hx rfl hlk hrt (hb hby d1_37) (by decide) (by decide) (by rw [e0]; exact ⟨(by rw [own_f1_ret, if_neg hc3_1, if_neg hc17_2, if_neg hc29_3]), N0, rfl⟩)
theorem d2_0 : decode prog_2_method_4_code 0 = .ok (.lload_n 0, 1) := by decide +kernel
theorem d2_1 : decode prog_2_method_4_code 1 = .ok (.lconst 0, 1) := by decide +kernel
theorem d2_2 : decode prog_2_method_4_code 2 = .ok (.lcmp, 1) := by decide +kernel
theorem d2_3 : decode prog_2_method_4_code 3 = .ok (.ifCond .lt 15, 3) := by decide +kernel
theorem d2_6 : decode prog_2_method_4_code 6 = .ok (.lload_n 0, 1) := by decide +kernel
theorem d2_7 : decode prog_2_method_4_code 7 = .ok (.ldc2_w 37, 3) := by decide +kernel
theorem d2_10 : decode prog_2_method_4_code 10 = .ok (.lcmp, 1) := by decide +kernel
theorem d2_11 : decode prog_2_method_4_code 11 = .ok (.ifCond .gt 7, 3) := by decide +kernel
theorem d2_14 : decode prog_2_method_4_code 14 = .ok (.iconst 1, 1) := by decide +kernel
theorem d2_15 : decode prog_2_method_4_code 15 = .ok (.goto 4, 3) := by decide +kernel
theorem d2_18 : decode prog_2_method_4_code 18 = .ok (.iconst 0, 1) := by decide +kernel
theorem d2_19 : decode prog_2_method_4_code 19 = .ok (.ireturn, 1) := by decide +kernel
theorem pn_2 : plainName "com/example/keelstore/keelstore/ConsumeQueue" = true := by first | (simp [plainName, overriddenIn]; done) | decide +kernel
theorem ef_2 (m : MethodId) (x0 : Int64) : entryFrame m #[(.long x0)] 2 = mkF m 0 #[.val (.long x0), .second] [] := by first | (simp [entryFrame, mkF, argsToLocals, Value.category]; done) | rfl
def own_f2_ret (x1 : Int64) : Int32 := (if x1 < (0 : Int64) then (0 : Int32) else (if (461168601842738790 : Int64) < x1 then (0 : Int32) else (1 : Int32)))
theorem own_f2_ret_01 (x1 : Int64) : (own_f2_ret x1) = 0 ∨ (own_f2_ret x1) = 1 := by
  unfold own_f2_ret
  repeat' split
  all_goals first | exact Or.inl rfl | exact Or.inr rfl
def Q2 (Z : State) (x1 : Int64) (h0 : Heap) (n0 : Nat) (v : Option Value) (h : Heap) (L : List Loc) : Prop := v = some (.int (own_f2_ret x1)) ∧ Fr n0 L ∧ h = h0
set_option maxRecDepth 65536 in
set_option maxHeartbeats 40000000 in
theorem rm2 (l : Launch) (Z : State) (a0 : Array Value) (hw : ∀ d ∈ tables_1, d.before a0 Z = true) (ws : List Jvm.Cond) (x1 : Int64) (h0 : Heap) (n0 : Nat) (Z0 : n0 ≤ h0.size)  :
    Con l (⟨"com/example/keelstore/keelstore/ConsumeQueue", "hasPlaceFor", "(J)Z"⟩ : MethodName) prog_2_method_4_code 2 (some .boolean) ws ({ frames := 0, cells := 0, slots := 0, locals := 0 } : Room) #[(.long x1)] Z h0 (Q2 Z x1 h0 n0) ({ frames := 0, cells := 0, slots := 0, locals := 0 } : Room).cells ({ frames := 0, cells := 0, slots := 0, locals := 0 } : Room).slots := by
  refine own_body (plainFor_of_name pn_2) ?_
  intro p e s m below meth c s₁ hx hby hlk hml hown hnm hrt hZ X0 e0
  have w : ∀ (k : Nat) (d : Jvm.Cond), tables_1[k]? = some d → d.before a0 Z = true := fun k d h => hw d (List.mem_of_getElem? h)
  have N0 := Fr.nil n0
  rw [ef_2]
  generalize hOWE : Owe s _ _ _ = OWE
  refine o_lloadN X0 hx (hb hby d2_0) (pc' := 1) rfl rfl ?_
  refine o_lconst X0 hx (0 : Int64) (hb hby d2_1) (pc' := 2) rfl (by decide) ?_
  refine o_lcmp X0 hx (hb hby d2_2) (pc' := 3) rfl ?_
  by_cases hc3_1 : x1 < (0 : Int64)
  · refine o_ifY X0 hx (hb hby d2_3) (tltL hc3_1).1 (by decide) (pc' := 18) (by decide) ?_
    refine o_iconst X0 hx (0 : Int32) (hb hby d2_18) (pc' := 19) rfl (by decide) ?_
    rw [← hOWE]
    exact o_retZ X0 hx rfl hlk hrt (hb hby d2_19) (by decide) (by decide) (by rw [e0]; exact ⟨(by rw [own_f2_ret, if_pos hc3_1]), N0, rfl⟩)
  · refine o_ifN X0 hx (hb hby d2_3) (fltL hc3_1).1 (pc' := 6) rfl ?_
    refine o_lloadN X0 hx (hb hby d2_6) (pc' := 7) rfl rfl ?_
    refine o_ldcJ X0 hx hZ (461168601842738790 : Int64) hown (w 11 _ rfl) (hb hby d2_7) (pc' := 10) rfl ?_
    refine o_lcmp X0 hx (hb hby d2_10) (pc' := 11) rfl ?_
    by_cases hc11_2 : (461168601842738790 : Int64) < x1
    · refine o_ifY X0 hx (hb hby d2_11) (tltL hc11_2).2.2.1 (by decide) (pc' := 18) (by decide) ?_
      refine o_iconst X0 hx (0 : Int32) (hb hby d2_18) (pc' := 19) rfl (by decide) ?_
      rw [← hOWE]
      exact o_retZ X0 hx rfl hlk hrt (hb hby d2_19) (by decide) (by decide) (by rw [e0]; exact ⟨(by rw [own_f2_ret, if_neg hc3_1, if_pos hc11_2]), N0, rfl⟩)
    · refine o_ifN X0 hx (hb hby d2_11) (fltL hc11_2).2.2.1 (pc' := 14) rfl ?_
      refine o_iconst X0 hx (1 : Int32) (hb hby d2_14) (pc' := 15) rfl (by decide) ?_
      refine o_goto X0 hx (hb hby d2_15) (by decide) (pc' := 19) (by decide) ?_
      rw [← hOWE]
      exact o_retZ X0 hx rfl hlk hrt (hb hby d2_19) (by decide) (by decide) (by rw [e0]; exact ⟨(by rw [own_f2_ret, if_neg hc3_1, if_neg hc11_2]), N0, rfl⟩)
theorem ef_0 (m : MethodId) (x0 : Int64) (x1 : Int32) : entryFrame m #[(.long x0), (.int x1)] maxLocals = mkF m 0 #[.val (.long x0), .second, .val (.int x1), .unset, .unset, .unset, .unset, .unset, .unset] [] := by first | (simp [entryFrame, mkF, argsToLocals, Value.category, maxLocals]; done) | rfl
def own_law_x0 (q0 : Int64) (q1 : Int32) : Int64 := ((((q1 >>> ((2 : Int32) &&& 31)) &&& (7 : Int32)).toInt64) - (4 : Int64))
def own_law_x1 (q0 : Int64) (q1 : Int32) : Int64 := ((461168601842738790 : Int64) + (own_law_x0 q0 q1))
def own_law_x2 (q0 : Int64) (q1 : Int32) : Int64 := ((-9223372036854775808 : Int64) + ((own_law_x0 q0 q1) + (4 : Int64)))
def own_law_x3 (q0 : Int64) (q1 : Int32) : Int64 := ((9223372036854775807 : Int64) - ((own_law_x0 q0 q1) + (4 : Int64)))
def own_law_v89_1_L6 (q0 : Int64) (q1 : Int32) : Int64 := (if (q1 &&& (3 : Int32)) = (0 : Int32) then q0 else (if (q1 &&& (3 : Int32)) = (1 : Int32) then (own_law_x1 q0 q1) else (if (q1 &&& (3 : Int32)) = (2 : Int32) then (own_law_x0 q0 q1) else (if (q1 &&& (32 : Int32)) = (0 : Int32) then (own_law_x2 q0 q1) else (own_law_x3 q0 q1)))))
def own_law_x4 (q0 : Int64) (q1 : Int32) : Int32 := (own_f1_ret (own_law_v89_1_L6 q0 q1))
def own_law_ret_j89_1 (q0 : Int64) (q1 : Int32) : Int32 := (if (own_f2_ret (own_law_v89_1_L6 q0 q1)) = (own_law_x4 q0 q1) then (1 : Int32) else (0 : Int32))
def own_law_ret (q0 : Int64) (q1 : Int32) : Int32 := (own_law_ret_j89_1 q0 q1)
def Q0 (Z : State) (q0 : Int64) (q1 : Int32) (h0 : Heap) (n0 : Nat) (v : Option Value) (h : Heap) (L : List Loc) : Prop := v = some (.int (own_law_ret q0 q1)) ∧ Fr n0 L
set_option maxRecDepth 65536 in
set_option maxHeartbeats 40000000 in
theorem rm0 (l : Launch) (Z : State) (a0 : Array Value) (hw : ∀ d ∈ tables_1, d.before a0 Z = true) (ws : List Jvm.Cond) (q0 : Int64) (q1 : Int32) (h0 : Heap) (n0 : Nat) (Z0 : n0 ≤ h0.size)  :
    Con l x code maxLocals ret ws room_1 #[(.long q0), (.int q1)] Z h0 (Q0 Z q0 q1 h0 n0) 0 0 := by
  refine own_body (plainFor_of_name pn_1) ?_
  intro p e s m below meth c s₁ hx hby hlk hml hown hnm hrt hZ X0 e0
  have w : ∀ (k : Nat) (d : Jvm.Cond), tables_1[k]? = some d → d.before a0 Z = true := fun k d h => hw d (List.mem_of_getElem? h)
  have N0 := Fr.nil n0
  have hml : c.maxLocals = 9 := hml
  rw [ef_0]
  generalize hOWE : Owe s _ _ _ = OWE
  refine o_iloadN X0 hx (hb hby at_0) (pc' := 1) rfl rfl ?_
  refine o_iconst X0 hx (3 : Int32) (hb hby at_1) (pc' := 2) rfl (by decide) ?_
  refine o_iand X0 hx (hb hby at_2) (pc' := 3) rfl ?_
  refine o_istoreN X0 hx (hb hby at_3) (pc' := 4) rfl (L' := #[.val (.long q0), .second, .val (.int q1), .val (.int (q1 &&& (3 : Int32))), .unset, .unset, .unset, .unset, .unset]) rfl ?_
  refine o_iloadN X0 hx (hb hby at_4) (pc' := 5) rfl rfl ?_
  refine o_iconst X0 hx (2 : Int32) (hb hby at_5) (pc' := 6) rfl (by decide) ?_
  refine o_ishr X0 hx (hb hby at_6) (pc' := 7) rfl ?_
  refine o_bipush X0 hx (7 : Int32) (hb hby at_7) (pc' := 9) rfl (by decide) ?_
  refine o_iand X0 hx (hb hby at_9) (pc' := 10) rfl ?_
  refine o_i2l X0 hx (hb hby at_10) (pc' := 11) rfl ?_
  refine o_ldcJ X0 hx hZ (4 : Int64) hown (w 0 _ rfl) (hb hby at_11) (pc' := 14) rfl ?_
  refine o_lsub X0 hx (hb hby at_14) (pc' := 15) rfl ?_
  refine o_lstore (x := (own_law_x0 q0 q1)) X0 hx (hb hby at_15) (pc' := 17) rfl (L' := #[.val (.long q0), .second, .val (.int q1), .val (.int (q1 &&& (3 : Int32))), .val (.long (own_law_x0 q0 q1)), .second, .unset, .unset, .unset]) rfl ?_
  refine o_iloadN X0 hx (hb hby at_17) (pc' := 18) rfl rfl ?_
  have J89_1 : ∀ (z0 : Int64), z0 = (own_law_v89_1_L6 q0 q1) → Go p e below OWE (s₁.setTop (mkF m 89 #[.val (.long q0), .second, .val (.int q1), .val (.int (q1 &&& (3 : Int32))), .val (.long (own_law_x0 q0 q1)), .second, .val (.long z0), .second, .unset] [])) := by
    intro z0 yy0
    subst yy0
    refine o_lload X0 hx (hb hby at_89) (pc' := 91) rfl rfl ?_
    refine o_callS X0 hx hZ 0 (argsL := [.long (own_law_v89_1_L6 q0 q1)]) (rest := []) hown (w 1 _ rfl) (w 2 _ rfl) (w 3 _ rfl) (w 4 _ rfl) (by decide) (rm1 l Z a0 hw [] (own_law_v89_1_L6 q0 q1) h0 n0 Z0 ) (by decide) (by decide) (cells' := 0) rfl (slots' := 0) rfl (by decide) (by decide) e0 (by rw [hml]; rfl) (lenOf pd_0 rfl) rfl rfl (hb hby at_91) (pc' := 94) rfl ?_
    intro T2 v2 L2 X2 hQ2
    obtain ⟨rfl, Nq2, e2⟩ := hQ2
    have N2 := Fr.app N0 Nq2
    show Go p e below _ (T2.setTop (mkF m 94 _ [.int (own_f1_ret (own_law_v89_1_L6 q0 q1))]))
    refine o_istore (x := (own_law_x4 q0 q1)) X2 hx (hb hby at_94) (pc' := 96) rfl (L' := #[.val (.long q0), .second, .val (.int q1), .val (.int (q1 &&& (3 : Int32))), .val (.long (own_law_x0 q0 q1)), .second, .val (.long (own_law_v89_1_L6 q0 q1)), .second, .val (.int (own_law_x4 q0 q1))]) rfl ?_
    refine o_lload X2 hx (hb hby at_96) (pc' := 98) rfl rfl ?_
    refine o_callS X2 hx hZ 0 (argsL := [.long (own_law_v89_1_L6 q0 q1)]) (rest := []) hown (w 5 _ rfl) (w 6 _ rfl) (w 7 _ rfl) (w 8 _ rfl) (by decide) (rm2 l Z a0 hw [] (own_law_v89_1_L6 q0 q1) h0 n0 Z0 ) (by decide) (by decide) (cells' := 0) rfl (slots' := 0) rfl (by decide) (by decide) e2 (by rw [hml]; rfl) (lenOf pd_0 rfl) rfl rfl (hb hby at_98) (pc' := 101) rfl ?_
    intro T3 v3 L3 X3 hQ3
    obtain ⟨rfl, Nq3, e3⟩ := hQ3
    have N3 := Fr.app N2 Nq3
    show Go p e below _ (T3.setTop (mkF m 101 _ [.int (own_f2_ret (own_law_v89_1_L6 q0 q1))]))
    refine o_iload X3 hx (hb hby at_101) (pc' := 103) rfl rfl ?_
    by_cases hc103_4 : (own_f2_ret (own_law_v89_1_L6 q0 q1)) = (own_law_x4 q0 q1)
    · refine o_cmpN X3 hx (hb hby at_103) (teq hc103_4).2 (pc' := 106) rfl ?_
      refine o_iconst X3 hx (1 : Int32) (hb hby at_106) (pc' := 107) rfl (by decide) ?_
      refine o_goto X3 hx (hb hby at_107) (by decide) (pc' := 111) (by decide) ?_
      rw [← hOWE]
      exact o_retZ X3 hx rfl hlk hrt (hb hby at_111) (by decide) (by decide) (by rw [e3]; exact ⟨(by rw [own_law_ret, own_law_ret_j89_1, if_pos hc103_4]), N3⟩)
    · refine o_cmpY X3 hx (hb hby at_103) (feq hc103_4).2 (by decide) (pc' := 110) (by decide) ?_
      refine o_iconst X3 hx (0 : Int32) (hb hby at_110) (pc' := 111) rfl (by decide) ?_
      rw [← hOWE]
      exact o_retZ X3 hx rfl hlk hrt (hb hby at_111) (by decide) (by decide) (by rw [e3]; exact ⟨(by rw [own_law_ret, own_law_ret_j89_1, if_neg hc103_4]), N3⟩)
  by_cases hc18_1 : (q1 &&& (3 : Int32)) = (0 : Int32)
  · refine o_ifN X0 hx (hb hby at_18) (teq hc18_1).2 (pc' := 21) rfl ?_
    refine o_lloadN X0 hx (hb hby at_21) (pc' := 22) rfl rfl ?_
    refine o_lstore X0 hx (hb hby at_22) (pc' := 24) rfl (L' := #[.val (.long q0), .second, .val (.int q1), .val (.int (q1 &&& (3 : Int32))), .val (.long (own_law_x0 q0 q1)), .second, .val (.long q0), .second, .unset]) rfl ?_
    refine o_goto X0 hx (hb hby at_24) (by decide) (pc' := 89) (by decide) ?_
    exact J89_1 (q0) (by rw [own_law_v89_1_L6, if_pos hc18_1])
  · refine o_ifY X0 hx (hb hby at_18) (feq hc18_1).2 (by decide) (pc' := 27) (by decide) ?_
    refine o_iloadN X0 hx (hb hby at_27) (pc' := 28) rfl rfl ?_
    refine o_iconst X0 hx (1 : Int32) (hb hby at_28) (pc' := 29) rfl (by decide) ?_
    by_cases hc29_5 : (q1 &&& (3 : Int32)) = (1 : Int32)
    · refine o_cmpN X0 hx (hb hby at_29) (teq hc29_5).2 (pc' := 32) rfl ?_
      refine o_ldcJ X0 hx hZ (461168601842738790 : Int64) hown (w 12 _ rfl) (hb hby at_32) (pc' := 35) rfl ?_
      refine o_lload X0 hx (hb hby at_35) (pc' := 37) rfl rfl ?_
      refine o_ladd X0 hx (hb hby at_37) (pc' := 38) rfl ?_
      refine o_lstore (x := (own_law_x1 q0 q1)) X0 hx (hb hby at_38) (pc' := 40) rfl (L' := #[.val (.long q0), .second, .val (.int q1), .val (.int (q1 &&& (3 : Int32))), .val (.long (own_law_x0 q0 q1)), .second, .val (.long (own_law_x1 q0 q1)), .second, .unset]) rfl ?_
      refine o_goto X0 hx (hb hby at_40) (by decide) (pc' := 89) (by decide) ?_
      exact J89_1 ((own_law_x1 q0 q1)) (by rw [own_law_v89_1_L6, if_neg hc18_1, if_pos hc29_5])
    · refine o_cmpY X0 hx (hb hby at_29) (feq hc29_5).2 (by decide) (pc' := 43) (by decide) ?_
      refine o_iloadN X0 hx (hb hby at_43) (pc' := 44) rfl rfl ?_
      refine o_iconst X0 hx (2 : Int32) (hb hby at_44) (pc' := 45) rfl (by decide) ?_
      by_cases hc45_6 : (q1 &&& (3 : Int32)) = (2 : Int32)
      · refine o_cmpN X0 hx (hb hby at_45) (teq hc45_6).2 (pc' := 48) rfl ?_
        refine o_lload X0 hx (hb hby at_48) (pc' := 50) rfl rfl ?_
        refine o_lstore X0 hx (hb hby at_50) (pc' := 52) rfl (L' := #[.val (.long q0), .second, .val (.int q1), .val (.int (q1 &&& (3 : Int32))), .val (.long (own_law_x0 q0 q1)), .second, .val (.long (own_law_x0 q0 q1)), .second, .unset]) rfl ?_
        refine o_goto X0 hx (hb hby at_52) (by decide) (pc' := 89) (by decide) ?_
        exact J89_1 ((own_law_x0 q0 q1)) (by rw [own_law_v89_1_L6, if_neg hc18_1, if_neg hc29_5, if_pos hc45_6])
      · refine o_cmpY X0 hx (hb hby at_45) (feq hc45_6).2 (by decide) (pc' := 55) (by decide) ?_
        refine o_iloadN X0 hx (hb hby at_55) (pc' := 56) rfl rfl ?_
        refine o_bipush X0 hx (32 : Int32) (hb hby at_56) (pc' := 58) rfl (by decide) ?_
        refine o_iand X0 hx (hb hby at_58) (pc' := 59) rfl ?_
        by_cases hc59_7 : (q1 &&& (32 : Int32)) = (0 : Int32)
        · refine o_ifY X0 hx (hb hby at_59) (teq hc59_7).1 (by decide) (pc' := 77) (by decide) ?_
          refine o_ldcJ X0 hx hZ (-9223372036854775808 : Int64) hown (w 9 _ rfl) (hb hby at_77) (pc' := 80) rfl ?_
          refine o_lload X0 hx (hb hby at_80) (pc' := 82) rfl rfl ?_
          refine o_ldcJ X0 hx hZ (4 : Int64) hown (w 0 _ rfl) (hb hby at_82) (pc' := 85) rfl ?_
          refine o_ladd X0 hx (hb hby at_85) (pc' := 86) rfl ?_
          refine o_ladd X0 hx (hb hby at_86) (pc' := 87) rfl ?_
          refine o_lstore (x := (own_law_x2 q0 q1)) X0 hx (hb hby at_87) (pc' := 89) rfl (L' := #[.val (.long q0), .second, .val (.int q1), .val (.int (q1 &&& (3 : Int32))), .val (.long (own_law_x0 q0 q1)), .second, .val (.long (own_law_x2 q0 q1)), .second, .unset]) rfl ?_
          exact J89_1 ((own_law_x2 q0 q1)) (by rw [own_law_v89_1_L6, if_neg hc18_1, if_neg hc29_5, if_neg hc45_6, if_pos hc59_7])
        · refine o_ifN X0 hx (hb hby at_59) (feq hc59_7).1 (pc' := 62) rfl ?_
          refine o_ldcJ X0 hx hZ (9223372036854775807 : Int64) hown (w 13 _ rfl) (hb hby at_62) (pc' := 65) rfl ?_
          refine o_lload X0 hx (hb hby at_65) (pc' := 67) rfl rfl ?_
          refine o_ldcJ X0 hx hZ (4 : Int64) hown (w 0 _ rfl) (hb hby at_67) (pc' := 70) rfl ?_
          refine o_ladd X0 hx (hb hby at_70) (pc' := 71) rfl ?_
          refine o_lsub X0 hx (hb hby at_71) (pc' := 72) rfl ?_
          refine o_lstore (x := (own_law_x3 q0 q1)) X0 hx (hb hby at_72) (pc' := 74) rfl (L' := #[.val (.long q0), .second, .val (.int q1), .val (.int (q1 &&& (3 : Int32))), .val (.long (own_law_x0 q0 q1)), .second, .val (.long (own_law_x3 q0 q1)), .second, .unset]) rfl ?_
          refine o_goto X0 hx (hb hby at_74) (by decide) (pc' := 89) (by decide) ?_
          exact J89_1 ((own_law_x3 q0 q1)) (by rw [own_law_v89_1_L6, if_neg hc18_1, if_neg hc29_5, if_neg hc45_6, if_neg hc59_7])
theorem own_place (o : Int64) : own_f1_ret o = own_f2_ret o := by
  unfold own_f1_ret own_f2_ret
  by_cases h0 : o < 0
  · rw [if_pos h0, if_pos h0]
  · rw [if_neg h0, if_neg h0]
    have z0 : (0 : Int64).toInt = 0 := rfl
    have z1 : (461168601842738790 : Int64).toInt = 461168601842738790 := by decide
    have z2 : (20 : Int64).toInt = 20 := by decide
    have h1 := rng64 o
    have h2 := rng64 (o * 20)
    have h3 := c_lmul o 20
    rw [z2] at h3
    have h4 := c_ldiv (o * 20) 20 20 z2 (by decide)
    simp only [Int64.lt_iff_toInt_lt, z0, z1, ← Int64.toInt_inj] at h0 ⊢
    have key : ¬ 461168601842738790 < o.toInt → (o * 20).toInt = o.toInt * 20 := by
      intro h
      have w1 : o.toInt * 20 ≤ 9223372036854775800 := by clear h2 h3 h4; omega
      have w0 : 0 ≤ o.toInt * 20 := by clear h2 h3 h4; omega
      clear h4 h h0 h1
      generalize o.toInt * 20 = w at *
      omega
    generalize hp : (o * 20).toInt = p at *
    generalize hd : (o * 20 / 20).toInt = d at *
    clear h3
    by_cases hk : 461168601842738790 < o.toInt
    · rw [if_pos hk]
      by_cases h5 : p < 0
      · rw [if_pos h5]
      · rw [if_neg h5, if_neg]
        have := h4.1 (by omega)
        omega
    · rw [if_neg hk]
      have k := key hk
      rw [if_neg (by omega), if_pos]
      have := h4.1 (by omega)
      omega
theorem own_main (q0 : Int64) (q1 : Int32) : own_law_ret q0 q1 = 1 := by
  simp +decide [own_law_x4, own_law_ret_j89_1, own_law_ret, own_place]
set_option maxRecDepth 65536 in
set_option maxHeartbeats 40000000 in
theorem comes_1 {Post : Tables → Env → Array Value → State → Outcome → State → Prop} (hpost : ∀ tb e args s v u, (limb_1_1.after args s (.returned v) u = true ∧ limb_1_2.after args s (.returned v) u = true ∧ True) → FrameEnd s (.returned v) u (Jvm.fieldLocs frame_1_writes args s ++ Jvm.arrayLocs frame_1_arrays args s ++ Jvm.staticLocs frame_1_statics s) 0 0 → Post tb e args s (.returned v) u) :
    ArmFor flags0 classFile x code maxLocals ret World_1 tables_1 room_1 Calls_1 rest_1 Pre_1 Post := by
  intro l hfl _ _ p e ha hc hk s m args below hf hA hF happ hP
  obtain ⟨hcalls, hrest, hpre⟩ := hP
  obtain ⟨-, -, -, hnamed, -, -, -, hat⟩ := (Spec.applies_iff hf).mp happ
  obtain ⟨hg, hn⟩ := and_e (Cond.before_iff.mp (show (Jvm.Cond.and given_1 narrow_1).before args s = true from hpre))
  obtain ⟨hcnt, r0⟩ := and_e hg
  obtain ⟨a0, r1⟩ := and_e r0
  obtain ⟨w0, w1, rfl⟩ : ∃ w0 w1 : Value, args = #[w0, w1] := by
    have hs : args.size = 2 := by simpa [Cond.value, given_1] using hcnt
    obtain ⟨L⟩ := args
    match L, hs with
    | [w0, w1], _ => exact ⟨w0, w1, rfl⟩
  have hw := fun d (hd : d ∈ tables_1) => atoms_spec (ws := Jvm.Cond.code x code maxLocals ret :: tables_1) hat d (List.mem_cons_of_mem _ hd)
  obtain ⟨q0, y0⟩ := isL_v a0
  obtain rfl : w0 = (.long q0) := Option.some.inj y0
  obtain ⟨q1, y1⟩ := is_v r1
  obtain rfl : w1 = (.int q1) := Option.some.inj y1
  obtain ⟨n, o, h1, h2, h3, _, L, rfl, ⟨rfl, N⟩, hq⟩ := rm0 l s _ hw tables_1 q0 q1 s.heap s.heap.size (Nat.le_refl _) p e ha hc hk s m _ below hf ((Spec.applies_iff_loose hf).mp happ).1 ⟨rfl, State.Warmed39.refl s, rfl⟩ trivial
  refine ⟨n, _, h1, h2, h3, hpost _ _ _ _ _ _ ⟨Cond.after_iff.mpr rfl, Cond.after_iff.mpr (eq_i res_at (Term.int_eval (1)) (congrArg Value.int (own_main q0 q1))), trivial⟩ ⟨hq.1, hq.2.1, (hq.2.2.sift fun y hy => Or.inr (N y hy)).mono (by decide) (by decide)⟩⟩
theorem main_1_1 : Claimed_1_1 := comes_1 fun _ _ _ _ _ _ h hF => ⟨h.1, hF⟩
theorem main_1_2 : Claimed_1_2 := comes_1 fun _ _ _ _ _ _ h hF => ⟨h.2.1, hF⟩
end Jvm.Pilot.@@N@@
namespace Jvm.Pilot.@@N@@
open Jvm Jvm.ClassFile Sem Op Lib Jvm.Free Jvm.Stand Jvm.Pilot.@@N@@.Jvm.D
/-! MADE BY PROGRAM (witnessworld.py) out of the Statement's table words and the real class files: 9 classes; the members and pool entries that the words name. The judged class is class 1, her method 1. -/
namespace start1
open Jvm.ClassFile
def u (s : String) : CpInfo := .utf8 (stringToUtf16 s)
/-- a pool by its gaps: so many unusable entries, then the entry; so many at the end -/
def gap : Nat → List CpInfo → List CpInfo
  | 0, r => r
  | n + 1, r => .unusable :: gap n r
def poolList (es : List (Nat × CpInfo)) (last : Nat) : List CpInfo := es.foldr (fun e r => gap e.1 (e.2 :: r)) (gap last [])
def pool (es : List (Nat × CpInfo)) (last : Nat) : Array CpInfo := ⟨poolList es last⟩
def fileOf (pool : Array CpInfo) (this : Nat) (attrs : Array Attribute := #[]) (ms : Array MethodInfo := #[]) (fl : Nat := 33) (sup : Nat := 0) (ifs : Array Nat := #[]) (fds : Array FieldInfo := #[]) : ClassFile where
  minorVersion := 0
  majorVersion := 65
  constantPool := pool
  accessFlags := fl
  thisClass := this
  superClass := sup
  interfaces := ifs
  fields := fds
  methods := ms
  attributes := attrs
def plain (name : String) (sup : Option ClassId) : Class where
  name := name
  kind := .ordinary
  loader := none
  accessFlags := 33
  super := sup
  interfaces := #[]
  cf := none
  fields := #[]
  methods := #[]
  instanceTypes := #[]
  staticTypes := #[]
  resolved := #[]
  callSites := []
  init := .initialized
  statics := none
  mirror := none

def pool0 : Array CpInfo := pool [(5, u "<init>"), (0, u "()V"), (1, .class_ 10), (1, u "java/lang/Object")] 113

def k0m0 : Method := { name := "<init>", desc := "()V", sig := { parameters := [], returnType := none }, accessFlags := 1, code := none }
/-- java/lang/Object -/
def k0 : Class := { plain "java/lang/Object" none with
  accessFlags := 33
  interfaces := #[]
  cf := some (fileOf pool0 8 #[] #[{ accessFlags := 1, nameIndex := 5, descriptorIndex := 6, attributes := #[] }] 33 0 #[] #[])
  fields := #[]
  methods := #[k0m0]
  instanceTypes := #[]
  staticTypes := #[]
  resolved := Array.replicate 124 none
  statics := none }

def pool1 : Array CpInfo := pool [(2, .class_ 4), (1, u "java/lang/Object"), (0, u "<init>"), (0, u "()V"), (0, .long 4), (1, .long 461168601842738790), (3, .long 9223372036854775807), (1, .long 9223372036854775808), (1, .methodref 18 19), (0, .class_ 20), (0, .nameAndType 21 22), (0, u "com/example/keelstore/keelstore/ConsumeQueueHasPlaceForPinLaw"), (0, u "fits"), (0, u "(J)Z"), (0, .methodref 24 25), (0, .class_ 26), (0, .nameAndType 27 22), (0, u "com/example/keelstore/keelstore/ConsumeQueue"), (0, u "hasPlaceFor"), (0, .long 20), (3, u "law"), (0, u "(JI)Z")] 3

def k1m0 : Method := { name := "<init>", desc := "()V", sig := { parameters := [], returnType := none }, accessFlags := 2, code := none }
def k1c1 : Code := { maxStack := 6, maxLocals := 9, code := code, exceptionTable := #[], attributes := #[] }
def k1m1 : Method := { name := "law", desc := "(JI)Z", sig := { parameters := [.long, .int], returnType := some .boolean }, accessFlags := 9, code := some k1c1 }
def k1c2 : Code := { maxStack := 4, maxLocals := 4, code := method_3_code, exceptionTable := #[], attributes := #[] }
def k1m2 : Method := { name := "fits", desc := "(J)Z", sig := { parameters := [.long], returnType := some .boolean }, accessFlags := 10, code := some k1c2 }
/-- com/example/keelstore/keelstore/ConsumeQueueHasPlaceForPinLaw -/
def k1 : Class := { plain "com/example/keelstore/keelstore/ConsumeQueueHasPlaceForPinLaw" (some 0) with
  accessFlags := 49
  interfaces := #[]
  cf := some (fileOf pool1 18 #[] #[{ accessFlags := 2, nameIndex := 5, descriptorIndex := 6, attributes := #[] }, { accessFlags := 9, nameIndex := 32, descriptorIndex := 33, attributes := #[] }, { accessFlags := 10, nameIndex := 21, descriptorIndex := 22, attributes := #[] }] 49 2 #[] #[])
  fields := #[]
  methods := #[k1m0, k1m1, k1m2]
  instanceTypes := #[]
  staticTypes := #[]
  resolved := Array.replicate 37 none
  statics := none }

def pool2 : Array CpInfo := pool [(3, .class_ 4), (0, u "com/example/keelstore/keelstore/ConsumeQueue"), (1, .class_ 8), (1, u "java/lang/Object"), (6, u "next"), (0, u "J"), (2, u "files"), (0, u "Lcom/example/keelstore/keelstore/commitlog/FileSeries;"), (2, u "writable"), (0, u "Z"), (12, .long 461168601842738790), (99, .class_ 139), (1, u "com/example/keelstore/keelstore/ConsumeQueue$EntryVisitor"), (25, u "hasPlaceFor"), (0, u "(J)Z"), (15, u "ENTRY_SIZE"), (0, u "I"), (2, u "LENGTH_POSITION"), (1, u "TAG_HASH_POSITION"), (1, u "MAX_OFFSET")] 35

def k2c0 : Code := { maxStack := 4, maxLocals := 2, code := prog_2_method_4_code, exceptionTable := #[], attributes := #[] }
def k2m0 : Method := { name := "hasPlaceFor", desc := "(J)Z", sig := { parameters := [.long], returnType := some .boolean }, accessFlags := 8, code := some k2c0 }
/-- com/example/keelstore/keelstore/ConsumeQueue -/
def k2 : Class := { plain "com/example/keelstore/keelstore/ConsumeQueue" (some 0) with
  accessFlags := 48
  interfaces := #[]
  cf := some (fileOf pool2 3 #[.nestMembers #[137]] #[{ accessFlags := 8, nameIndex := 165, descriptorIndex := 166, attributes := #[] }] 48 6 #[] #[{ accessFlags := 24, nameIndex := 182, descriptorIndex := 183, attributes := #[] }, { accessFlags := 26, nameIndex := 186, descriptorIndex := 183, attributes := #[] }, { accessFlags := 26, nameIndex := 188, descriptorIndex := 183, attributes := #[] }, { accessFlags := 26, nameIndex := 190, descriptorIndex := 16, attributes := #[] }, { accessFlags := 18, nameIndex := 19, descriptorIndex := 20, attributes := #[] }, { accessFlags := 18, nameIndex := 23, descriptorIndex := 24, attributes := #[] }, { accessFlags := 2, nameIndex := 15, descriptorIndex := 16, attributes := #[] }])
  fields := #[{ name := "ENTRY_SIZE", type := .int, accessFlags := 24, slot := 0, constantValue := 0 }, { name := "LENGTH_POSITION", type := .int, accessFlags := 26, slot := 1, constantValue := 0 }, { name := "TAG_HASH_POSITION", type := .int, accessFlags := 26, slot := 2, constantValue := 0 }, { name := "MAX_OFFSET", type := .long, accessFlags := 26, slot := 3, constantValue := 0 }, { name := "files", type := (.object "com/example/keelstore/keelstore/commitlog/FileSeries"), accessFlags := 18, slot := 0, constantValue := 0 }, { name := "writable", type := .boolean, accessFlags := 18, slot := 1, constantValue := 0 }, { name := "next", type := .long, accessFlags := 2, slot := 2, constantValue := 0 }]
  methods := #[k2m0]
  instanceTypes := #[(.object "com/example/keelstore/keelstore/commitlog/FileSeries"), .boolean, .long]
  staticTypes := #[.int, .int, .int, .long]
  resolved := Array.replicate 226 none
  statics := none }

def pool3 : Array CpInfo := pool [(1, u "java/lang/Cloneable"), (0, .class_ 1), (0, u "java/lang/Object"), (0, .class_ 3)] 3

/-- java/lang/Cloneable -/
def k3 : Class := { plain "java/lang/Cloneable" (some 0) with
  accessFlags := 1537
  interfaces := #[]
  cf := some (fileOf pool3 2 #[] #[] 1537 4 #[] #[])
  fields := #[]
  methods := #[]
  instanceTypes := #[]
  staticTypes := #[]
  resolved := Array.replicate 8 none
  statics := none }

def pool4 : Array CpInfo := pool [(1, u "java/io/Serializable"), (0, .class_ 1), (0, u "java/lang/Object"), (0, .class_ 3)] 3

/-- java/io/Serializable -/
def k4 : Class := { plain "java/io/Serializable" (some 0) with
  accessFlags := 1537
  interfaces := #[]
  cf := some (fileOf pool4 2 #[] #[] 1537 4 #[] #[])
  fields := #[]
  methods := #[]
  instanceTypes := #[]
  staticTypes := #[]
  resolved := Array.replicate 8 none
  statics := none }

/-- the primitive byte -/
def k5 : Class := { plain "byte" none with kind := .primitive 'B', accessFlags := 0x411 }
/-- [B -/
def k6 : Class := { plain "[B" (some 0) with kind := .array 5 .byte, interfaces := #[3, 4], accessFlags := 1041 }

/-- the primitive int -/
def k7 : Class := { plain "int" none with kind := .primitive 'I', accessFlags := 0x411 }
/-- [I -/
def k8 : Class := { plain "[I" (some 0) with kind := .array 7 .int, interfaces := #[3, 4], accessFlags := 1041 }

def heap : Heap := #[]
def classes : Array Class := #[k0, k1, k2, k3, k4, k5, k6, k7, k8]
def interned : List (Array UInt16 × Addr) := []
def slotsUsed : Nat := 0
def theMethod : MethodId := ⟨1, 1⟩
def args0 : Array Value := #[.long 5, .int 7]
def aboutOver (below : List Frame) : State where
  vm := { classes := classes, interned := interned.toArray }
  heap := heap
  slotsUsed := slotsUsed
  threads := #[{ frames := .invoking theMethod args0 :: below }]
def below0 : List Frame := [.native { method := ⟨0, 0⟩, args := #[] }]
def about1 : State := aboutOver below0
def p0 : Program := .bare "" "" ""
def e0 : Env := launch0.env 0 0 0
theorem w_frames : about1.frames = Frame.invoking theMethod args0 :: below0 := rfl
set_option maxRecDepth 65536 in
theorem w_args : argsFit about1.vm theMethod args0 = true := by decide +kernel
set_option maxRecDepth 65536 in
theorem w_heap : heapFits about1 = true := by decide +kernel
set_option maxRecDepth 65536 in
theorem w_runnable : about1.curStatus? = some .runnable := by decide +kernel
set_option maxRecDepth 65536 in
theorem w_alone : about1.alone = true := by decide +kernel
set_option maxRecDepth 65536 in
theorem w_named : about1.methodNamed? x = some theMethod := by decide +kernel
set_option maxRecDepth 65536 in
theorem w_hears : about1.hears theMethod below0 = true := by decide +kernel
set_option maxRecDepth 65536 in
theorem w_ripe : about1.ripe theMethod args0 below0 = true := by decide +kernel
theorem w_running : about1.status = .running := rfl
set_option maxRecDepth 65536 in
theorem w_room : about1.hasRoom e0.platform room_1 = true :=
  launch0.hasRoom_least _ room_1 (by decide +kernel) (by decide +kernel) (by decide +kernel) (by decide +kernel) (by decide +kernel) (by decide +kernel)
theorem allAtoms_all (ts : List Jvm.Cond) (a : Array Jvm.Value) (st : Jvm.State) : (allAtoms ts).before a st = ts.all (fun c => c.before a st) := by
  induction ts with
  | nil => rfl
  | cons c t ih =>
    show (Jvm.Cond.and c (allAtoms t)).before a st = _
    rw [Jvm.Cond.before_and, ih, List.all_cons]
def words1 : List Jvm.Cond := Jvm.Cond.code x code maxLocals ret :: tables_1
/-- a 'code' word, met by the world's own term for the bytes: nothing is compared byte by byte -/
theorem code_word {y : MethodName} {bytes : ByteArray} {mx : Nat} {rt : Option FieldType} {a : Array Value} {s : State} {m : MethodId} {meth : Method} {c : Code} (h1 : s.methodNamed? y = some m) (h2 : s.vm.method? m = some meth) (h3 : meth.code = some c) (h4 : c.code = bytes)
    (h5 : (c.maxLocals == mx && c.exceptionTable.isEmpty && decide (c.maxStack ≤ mostOperands) && decide (meth.sig.returnType = rt) && !meth.locks && decide (parseMethodDescriptor y.desc = some meth.sig)) = true) : (Jvm.Cond.code y bytes mx rt).before a s = true := by
  simp only [Bool.and_eq_true, beq_iff_eq, Bool.not_eq_true', decide_eq_true_eq] at h5
  obtain ⟨⟨⟨⟨⟨g1, g2⟩, g3⟩, g4⟩, g5⟩, g6⟩ := h5
  simp [Cond.before, Cond.holds, Cond.value, h1, h2, h3, h4, g1, g2, g3, g4, g5, g6]
def isCode : Jvm.Cond → Bool
  | .code _ _ _ _ => true
  | _ => false
theorem all_split {L : List Jvm.Cond} {P : Jvm.Cond → Bool} (h1 : L.all (fun c => isCode c || P c) = true) (h2 : ∀ c ∈ L.filter isCode, P c = true) : L.all P = true := by
  refine List.all_eq_true.mpr fun c hc => ?_
  have h := List.all_eq_true.mp h1 c hc
  rcases Bool.eq_false_or_eq_true (isCode c) with hi | hi
  · exact h2 c (List.mem_filter.mpr ⟨hc, hi⟩)
  · simpa [hi] using h
set_option maxRecDepth 65536 in
theorem w_c0 : (Jvm.Cond.code x code maxLocals ret).before args0 about1 = true := code_word (m := ⟨1, 1⟩) (meth := k1m1) (c := k1c1) (by decide +kernel) rfl rfl rfl (by decide +kernel)
set_option maxRecDepth 65536 in
theorem w_c1 : (Jvm.Cond.code ({ cls := "com/example/keelstore/keelstore/ConsumeQueueHasPlaceForPinLaw", name := "fits", desc := "(J)Z" } : Jvm.MethodName) method_3_code (4 : Nat) (Option.some Jvm.ClassFile.FieldType.boolean)).before args0 about1 = true := code_word (m := ⟨1, 2⟩) (meth := k1m2) (c := k1c2) (by decide +kernel) rfl rfl rfl (by decide +kernel)
set_option maxRecDepth 65536 in
theorem w_c2 : (Jvm.Cond.code ({ cls := "com/example/keelstore/keelstore/ConsumeQueue", name := "hasPlaceFor", desc := "(J)Z" } : Jvm.MethodName) prog_2_method_4_code (2 : Nat) (Option.some Jvm.ClassFile.FieldType.boolean)).before args0 about1 = true := code_word (m := ⟨2, 0⟩) (meth := k2m0) (c := k2c0) (by decide +kernel) rfl rfl rfl (by decide +kernel)
def codes1 : List Jvm.Cond := [Jvm.Cond.code x code maxLocals ret, Jvm.Cond.code ({ cls := "com/example/keelstore/keelstore/ConsumeQueueHasPlaceForPinLaw", name := "fits", desc := "(J)Z" } : Jvm.MethodName) method_3_code (4 : Nat) (Option.some Jvm.ClassFile.FieldType.boolean), Jvm.Cond.code ({ cls := "com/example/keelstore/keelstore/ConsumeQueue", name := "hasPlaceFor", desc := "(J)Z" } : Jvm.MethodName) prog_2_method_4_code (2 : Nat) (Option.some Jvm.ClassFile.FieldType.boolean)]
set_option maxRecDepth 65536 in
theorem codes_eq : words1.filter isCode = codes1 := rfl
theorem w_codes : ∀ c ∈ words1.filter isCode, c.before args0 about1 = true := by
  rw [codes_eq]
  intro c hc
  simp only [codes1, List.mem_cons, List.not_mem_nil, or_false] at hc
  rcases hc with rfl | rfl | rfl
  · exact w_c0
  · exact w_c1
  · exact w_c2
set_option maxRecDepth 65536 in
theorem w_t1 : words1.all (fun c => isCode c || c.before args0 about1) = true := by decide +kernel
theorem w_tables : (allAtoms (Jvm.Cond.code x code maxLocals ret :: tables_1)).before args0 about1 = true := by
  rw [allAtoms_all]
  show words1.all (fun c => c.before args0 about1) = true
  refine all_split ?_ w_codes
  rw [w_t1]
set_option maxRecDepth 65536 in
theorem w_case : (Jvm.Cond.and given_1 narrow_1).before args0 about1 = true := by decide +kernel
theorem w_applies : (headSpec (Jvm.Cond.code x code maxLocals ret :: tables_1) room_1).applies x e0.platform about1 = true :=
  (Spec.applies_iff w_frames).mpr ⟨w_running, w_runnable, w_alone, w_named, w_hears, w_ripe, w_room, w_tables⟩
theorem atStart : AtStart classFile x code maxLocals ret World_1 tables_1 room_1 Calls_1 rest_1 Pre_1 launch0 p0 e0 about1 theMethod args0 below0 :=
  ⟨lists_1, trivial, launch0.admits_env _ _ _, launch0.least_env, fairChoices_fair.cas, fairChoices_fair.clock, w_frames, w_args, w_heap, w_applies, trivial, trivial, w_case⟩
end start1
theorem witness_1 : WitnessClaimed_1 := ⟨start1.p0, start1.e0, start1.about1, start1.theMethod, start1.args0, start1.below0, start1.atStart⟩
end Jvm.Pilot.@@N@@
