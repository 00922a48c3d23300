import JvmDerived
import JvmDerived.Pilot.@@N@@Statement
import JvmDerived.Pilot.@@N@@Code
set_option linter.unusedVariables false
set_option linter.unusedSimpArgs false
namespace Jvm.Pilot.@@N@@
open Jvm Jvm.ClassFile Sem Op Lib Jvm.Free Jvm.Stand Jvm.LawKit Jvm.RoadKit Bundle Jvm.Pilot.@@N@@.Jvm.D
/-- the body's goal from a state on -/
def Go (p : Program) (e : Env) (below : List Frame) (P : Outcome → State → Prop) (U : State) : Prop :=
  ∃ s₂ o, Steps p.tables e below U s₂ ∧ s₂.status = .running ∧ Ended s₂ below o ∧ P o s₂
/-- the unsigned shifts, the remainders -/
def uI (x y : Int32) : Int32 := (x.toUInt32 >>> (y &&& 31).toUInt32).toInt32
def uL (x : Int64) (y : Int32) : Int64 := (x.toUInt64 >>> (y &&& 0x3f).toInt64.toUInt64).toInt64
def sL (x : Int64) (y : Int32) : Int64 := x >>> (y &&& 0x3f).toInt64
def lL (x : Int64) (y : Int32) : Int64 := x <<< (y &&& 0x3f).toInt64
section Own
variable {p : Program} {l : Launch} {e : Env} {R : Room} {s : State} {m : MethodId} {args : Array Value} {below : List Frame} {meth : Method} {c : Code} {T : State} {locs : List Loc} {cells slots : Nat} {P : Outcome → State → Prop} {pc pc' : Nat} {L L' : Array Slot} {S : List Value} {Z : State} {a0 : Array Value} {h : Heap}
theorem Go.via {U U' : State} (q : ∀ t, Steps p.tables e below U' t → Steps p.tables e below U t) (k : Go p e below P U') : Go p e below P U := by
  obtain ⟨s₂, o, h1, h2⟩ := k
  exact ⟨s₂, o, q _ h1, h2⟩
theorem Go.tr {U U' : State} (q : Steps p.tables e below U U') (k : Go p e below P U') : Go p e below P U := k.via fun _ h => q.trans h
theorem o_iload (X : Stand p l e R s m args below meth c T locs cells slots) (hx : p.tables.exec = Jvm.exec) {k : Nat} {v : Int32} (hd : decode c.code pc = .ok (.iload k, 2)) (hp : pc + 2 = pc') (hl : L[k]? = some (.val (.int v))) (K : Go p e below P (T.setTop (mkF m pc' L (.int v :: S)))) : Go p e below P (T.setTop (mkF m pc L (S))) := by
  subst hp; exact K.via fun t k => XS.iload X.here hx rfl hd hl k
theorem o_iloadN (X : Stand p l e R s m args below meth c T locs cells slots) (hx : p.tables.exec = Jvm.exec) {k : Fin 4} {v : Int32} (hd : decode c.code pc = .ok (.iload_n k, 1)) (hp : pc + 1 = pc') (hl : L[k.val]? = some (.val (.int v))) (K : Go p e below P (T.setTop (mkF m pc' L (.int v :: S)))) : Go p e below P (T.setTop (mkF m pc L (S))) := by
  subst hp; exact K.via fun t k => XS.iloadN X.here hx rfl hd hl k
theorem o_lload (X : Stand p l e R s m args below meth c T locs cells slots) (hx : p.tables.exec = Jvm.exec) {k : Nat} {v : Int64} (hd : decode c.code pc = .ok (.lload k, 2)) (hp : pc + 2 = pc') (hl : L[k]? = some (.val (.long v))) (K : Go p e below P (T.setTop (mkF m pc' L (.long v :: S)))) : Go p e below P (T.setTop (mkF m pc L (S))) := by
  subst hp; exact K.via fun t k => XS.lload X.here hx rfl hd hl k
theorem o_lloadN (X : Stand p l e R s m args below meth c T locs cells slots) (hx : p.tables.exec = Jvm.exec) {k : Fin 4} {v : Int64} (hd : decode c.code pc = .ok (.lload_n k, 1)) (hp : pc + 1 = pc') (hl : L[k.val]? = some (.val (.long v))) (K : Go p e below P (T.setTop (mkF m pc' L (.long v :: S)))) : Go p e below P (T.setTop (mkF m pc L (S))) := by
  subst hp; exact K.via fun t k => XS.lloadN X.here hx rfl hd hl k
theorem o_aload (X : Stand p l e R s m args below meth c T locs cells slots) (hx : p.tables.exec = Jvm.exec) {k : Nat} {v : Value} (hd : decode c.code pc = .ok (.aload k, 2)) (hp : pc + 2 = pc') (hl : L[k]? = some (.val v)) (hv : v.isRef = true) (K : Go p e below P (T.setTop (mkF m pc' L (v :: S)))) : Go p e below P (T.setTop (mkF m pc L (S))) := by
  subst hp; exact K.via fun t k => XS.aload X.here hx rfl hd hl hv k
theorem o_aloadN (X : Stand p l e R s m args below meth c T locs cells slots) (hx : p.tables.exec = Jvm.exec) {k : Fin 4} {v : Value} (hd : decode c.code pc = .ok (.aload_n k, 1)) (hp : pc + 1 = pc') (hl : L[k.val]? = some (.val v)) (hv : v.isRef = true) (K : Go p e below P (T.setTop (mkF m pc' L (v :: S)))) : Go p e below P (T.setTop (mkF m pc L (S))) := by
  subst hp; exact K.via fun t k => XS.aloadN X.here hx rfl hd hl hv k
theorem o_istore (X : Stand p l e R s m args below meth c T locs cells slots) (hx : p.tables.exec = Jvm.exec) {k : Nat} {x : Int32} (hd : decode c.code pc = .ok (.istore k, 2)) (hp : pc + 2 = pc') (hl : storeLocals L k (.int x) = some L') (K : Go p e below P (T.setTop (mkF m pc' L' (S)))) : Go p e below P (T.setTop (mkF m pc L (.int x :: S))) := by
  subst hp; exact K.via fun t k => XS.istore X.here hx rfl hd rfl hl k
theorem o_lstore (X : Stand p l e R s m args below meth c T locs cells slots) (hx : p.tables.exec = Jvm.exec) {k : Nat} {x : Int64} (hd : decode c.code pc = .ok (.lstore k, 2)) (hp : pc + 2 = pc') (hl : storeLocals L k (.long x) = some L') (K : Go p e below P (T.setTop (mkF m pc' L' (S)))) : Go p e below P (T.setTop (mkF m pc L (.long x :: S))) := by
  subst hp; exact K.via fun t k => XS.lstore X.here hx rfl hd rfl hl k
theorem o_astore (X : Stand p l e R s m args below meth c T locs cells slots) (hx : p.tables.exec = Jvm.exec) {k : Nat} {x : Value} (hd : decode c.code pc = .ok (.astore k, 2)) (hp : pc + 2 = pc') (hv : x.isRef = true) (hl : storeLocals L k x = some L') (K : Go p e below P (T.setTop (mkF m pc' L' (S)))) : Go p e below P (T.setTop (mkF m pc L (x :: S))) := by
  subst hp; exact K.via fun t k => XS.astore X.here hx rfl hd rfl hv hl k
theorem o_iconst (X : Stand p l e R s m args below meth c T locs cells slots) (hx : p.tables.exec = Jvm.exec) {i : Int} (v : Int32) (hd : decode c.code pc = .ok (.iconst i, 1)) (hp : pc + 1 = pc') (hv : Int32.ofInt i = v) (K : Go p e below P (T.setTop (mkF m pc' L (.int v :: S)))) : Go p e below P (T.setTop (mkF m pc L (S))) := by
  subst hp; exact K.via fun t k => XS.iconst X.here hx rfl hd (hv ▸ k)
theorem o_bipush (X : Stand p l e R s m args below meth c T locs cells slots) (hx : p.tables.exec = Jvm.exec) {i : Int} (v : Int32) (hd : decode c.code pc = .ok (.bipush i, 2)) (hp : pc + 2 = pc') (hv : (Int8.ofInt i).toInt32 = v) (K : Go p e below P (T.setTop (mkF m pc' L (.int v :: S)))) : Go p e below P (T.setTop (mkF m pc L (S))) := by
  subst hp; exact K.via fun t k => XS.bipush X.here hx rfl hd (hv ▸ k)
theorem o_lconst (X : Stand p l e R s m args below meth c T locs cells slots) (hx : p.tables.exec = Jvm.exec) {i : Fin 2} (v : Int64) (hd : decode c.code pc = .ok (.lconst i, 1)) (hp : pc + 1 = pc') (hv : Int64.ofNat i = v) (K : Go p e below P (T.setTop (mkF m pc' L (.long v :: S)))) : Go p e below P (T.setTop (mkF m pc L (S))) := by
  subst hp; exact K.via fun t k => XS.lconst X.here hx rfl hd (hv ▸ k)
theorem o_iadd (X : Stand p l e R s m args below meth c T locs cells slots) (hx : p.tables.exec = Jvm.exec) {x y : Int32} (hd : decode c.code pc = .ok (.iadd, 1)) (hp : pc + 1 = pc')  (K : Go p e below P (T.setTop (mkF m pc' L (.int (x + y) :: S)))) : Go p e below P (T.setTop (mkF m pc L (.int y :: .int x :: S))) := by
  subst hp; exact K.via fun t k => XS.iadd X.here hx rfl hd rfl k
theorem o_iand (X : Stand p l e R s m args below meth c T locs cells slots) (hx : p.tables.exec = Jvm.exec) {x y : Int32} (hd : decode c.code pc = .ok (.iand, 1)) (hp : pc + 1 = pc')  (K : Go p e below P (T.setTop (mkF m pc' L (.int (x &&& y) :: S)))) : Go p e below P (T.setTop (mkF m pc L (.int y :: .int x :: S))) := by
  subst hp; exact K.via fun t k => XS.iand X.here hx rfl hd rfl k
theorem o_ladd (X : Stand p l e R s m args below meth c T locs cells slots) (hx : p.tables.exec = Jvm.exec) {x y : Int64} (hd : decode c.code pc = .ok (.ladd, 1)) (hp : pc + 1 = pc')  (K : Go p e below P (T.setTop (mkF m pc' L (.long (x + y) :: S)))) : Go p e below P (T.setTop (mkF m pc L (.long y :: .long x :: S))) := by
  subst hp; exact K.via fun t k => XS.ladd X.here hx rfl hd rfl k
theorem o_lushr (X : Stand p l e R s m args below meth c T locs cells slots) (hx : p.tables.exec = Jvm.exec) {x : Int64} {y : Int32} (hd : decode c.code pc = .ok (.lushr, 1)) (hp : pc + 1 = pc')  (K : Go p e below P (T.setTop (mkF m pc' L (.long (uL x y) :: S)))) : Go p e below P (T.setTop (mkF m pc L (.int y :: .long x :: S))) := by
  subst hp; exact K.via fun t k => XS.lushr X.here hx rfl hd rfl k
theorem o_l2i (X : Stand p l e R s m args below meth c T locs cells slots) (hx : p.tables.exec = Jvm.exec) {x : Int64} (hd : decode c.code pc = .ok (.l2i, 1)) (hp : pc + 1 = pc')  (K : Go p e below P (T.setTop (mkF m pc' L (.int x.toInt32 :: S)))) : Go p e below P (T.setTop (mkF m pc L (.long x :: S))) := by
  subst hp; exact K.via fun t k => XS.l2i X.here hx rfl hd rfl k
theorem o_dup (X : Stand p l e R s m args below meth c T locs cells slots) (hx : p.tables.exec = Jvm.exec) {x : Value} (hd : decode c.code pc = .ok (.dup, 1)) (hp : pc + 1 = pc') (hc : x.category = 1) (K : Go p e below P (T.setTop (mkF m pc' L (x :: x :: S)))) : Go p e below P (T.setTop (mkF m pc L (x :: S))) := by
  subst hp; exact K.via fun t k => XS.dup X.here hx rfl hd rfl hc k
theorem o_goto (X : Stand p l e R s m args below meth c T locs cells slots) (hx : p.tables.exec = Jvm.exec) {o : Int} (hd : decode c.code pc = .ok (.goto o, 3)) (ho : 0 ≤ (pc : Int) + o) (hp : ((pc : Int) + o).toNat = pc') (K : Go p e below P (T.setTop (mkF m pc' L S))) : Go p e below P (T.setTop (mkF m pc L S)) :=
  K.via fun t k => XS.goto X.here hx rfl rfl hd ho hp k
theorem o_ifY (X : Stand p l e R s m args below meth c T locs cells slots) (hx : p.tables.exec = Jvm.exec) {cd : ClassFile.Cond} {x : Int32} {o : Int} (hd : decode c.code pc = .ok (.ifCond cd o, 3)) (hc : if_icmp.holds cd x 0 = true) (ho : 0 ≤ (pc : Int) + o) (hp : ((pc : Int) + o).toNat = pc') (K : Go p e below P (T.setTop (mkF m pc' L S))) : Go p e below P (T.setTop (mkF m pc L (.int x :: S))) :=
  K.via fun t k => XS.ifYes X.here hx rfl rfl hd rfl ((if0 _ _).trans hc) ho hp k
theorem o_ifN (X : Stand p l e R s m args below meth c T locs cells slots) (hx : p.tables.exec = Jvm.exec) {cd : ClassFile.Cond} {x : Int32} {o : Int} (hd : decode c.code pc = .ok (.ifCond cd o, 3)) (hc : if_icmp.holds cd x 0 = false) (hp : pc + 3 = pc') (K : Go p e below P (T.setTop (mkF m pc' L S))) : Go p e below P (T.setTop (mkF m pc L (.int x :: S))) := by
  subst hp; exact K.via fun t k => XS.ifNo X.here hx rfl hd rfl ((if0 _ _).trans hc) k
theorem o_cmpY (X : Stand p l e R s m args below meth c T locs cells slots) (hx : p.tables.exec = Jvm.exec) {cd : ClassFile.Cond} {x y : Int32} {o : Int} (hd : decode c.code pc = .ok (.if_icmp cd o, 3)) (hc : if_icmp.holds cd x y = true) (ho : 0 ≤ (pc : Int) + o) (hp : ((pc : Int) + o).toNat = pc') (K : Go p e below P (T.setTop (mkF m pc' L S))) : Go p e below P (T.setTop (mkF m pc L (.int y :: .int x :: S))) :=
  K.via fun t k => XS.icmpYes X.here hx rfl rfl hd rfl hc ho hp k
theorem o_cmpN (X : Stand p l e R s m args below meth c T locs cells slots) (hx : p.tables.exec = Jvm.exec) {cd : ClassFile.Cond} {x y : Int32} {o : Int} (hd : decode c.code pc = .ok (.if_icmp cd o, 3)) (hc : if_icmp.holds cd x y = false) (hp : pc + 3 = pc') (K : Go p e below P (T.setTop (mkF m pc' L S))) : Go p e below P (T.setTop (mkF m pc L (.int y :: .int x :: S))) := by
  subst hp; exact K.via fun t k => XS.icmpNo X.here hx rfl hd rfl hc k
theorem o_lcmp (X : Stand p l e R s m args below meth c T locs cells slots) (hx : p.tables.exec = Jvm.exec) {x y : Int64} (hd : decode c.code pc = .ok (.lcmp, 1)) (hp : pc + 1 = pc') (K : Go p e below P (T.setTop (mkF m pc' L (.int (lcmpW x y) :: S)))) : Go p e below P (T.setTop (mkF m pc L (.long y :: .long x :: S))) := by
  subst hp; exact K.via fun t k => XS.lcmp X.here hx rfl hd rfl k
theorem tltL {x y : Int64} (q : x < y) : if_icmp.holds .lt (lcmpW x y) 0 = true ∧ if_icmp.holds .ge (lcmpW x y) 0 = false ∧ if_icmp.holds .gt (lcmpW y x) 0 = true ∧ if_icmp.holds .le (lcmpW y x) 0 = false :=
  ⟨(tlt ((lw_lt x y).mpr q)).1, (tlt ((lw_lt x y).mpr q)).2.1, (tlt ((lw_gt y x).mpr q)).2.2.1, (tlt ((lw_gt y x).mpr q)).2.2.2⟩
theorem fltL {x y : Int64} (q : ¬ x < y) : if_icmp.holds .lt (lcmpW x y) 0 = false ∧ if_icmp.holds .ge (lcmpW x y) 0 = true ∧ if_icmp.holds .gt (lcmpW y x) 0 = false ∧ if_icmp.holds .le (lcmpW y x) 0 = true :=
  ⟨(flt (mt (lw_lt x y).mp q)).1, (flt (mt (lw_lt x y).mp q)).2.1, (flt (mt (lw_gt y x).mp q)).2.2.1, (flt (mt (lw_gt y x).mp q)).2.2.2⟩
theorem teqL {x y : Int64} (q : x = y) : if_icmp.holds .eq (lcmpW x y) 0 = true ∧ if_icmp.holds .ne (lcmpW x y) 0 = false := teq ((lw_eq x y).mpr q)
theorem feqL {x y : Int64} (q : ¬ x = y) : if_icmp.holds .eq (lcmpW x y) 0 = false ∧ if_icmp.holds .ne (lcmpW x y) 0 = true := feq (mt (lw_eq x y).mp q)
/-- what a body's end owes -/
abbrev Owe (s : State) (Q : Option Value → Heap → List Loc → Prop) (C D : Nat) : Outcome → State → Prop := fun o U' => ∃ v L, o = .returned v ∧ Q v U'.heap L ∧ FrameEnd s o U' L C D
/-- a body's contract -/
abbrev Con (l : Launch) (y : MethodName) (bytes : ByteArray) (ml : Nat) (ret : Option FieldType) (ws : List Jvm.Cond) (rm : Room) (as' : Array Value) (Z : State) (h0 : Heap) (Q : Option Value → Heap → List Loc → Prop) (C D : Nat) : Prop :=
  MetFree l y (head1 (Jvm.Cond.code y bytes ml ret :: ws) rm) (fun b U => b = as' ∧ Z.Warmed39 U.vm ∧ U.heap = h0) (fun _ _ _ _ _ => True) (fun _ U o U' => ∃ v L, o = .returned v ∧ Q v U'.heap L ∧ FrameEnd U o U' L C D)
theorem own_body {y : MethodName} {bytes : ByteArray} {ml : Nat} {ret : Option FieldType} {ws : List Jvm.Cond} {rm : Room} {as' : Array Value} {h0 : Heap} {Q : Option Value → Heap → List Loc → Prop} {C D : Nat} (hpl : plainFor y = true)
    (K : ∀ (p : Program) (e : Env) (s : State) (m : MethodId) (below : List Frame) (meth : Method) (c : Code) (s₁ : State), p.tables.exec = Jvm.exec → c.code = bytes → meth.locks = false → c.maxLocals = ml → s.vm.findClass y.cls = some m.cls → meth.name = y.name → meth.sig.returnType = ret → Z.Warmed39 s.vm →
      Stand p l e rm s m as' below meth c s₁ [] 0 0 → s₁.heap = h0 → Go p e below (Owe s Q C D) (s₁.setTop (entryFrame m as' ml))) : Con l y bytes ml ret ws rm as' Z h0 Q C D := by
  refine MetFree.of_bodySF hpl hisR ?_
  intro p e s m args below meth c s₁ Bd hml0 hP hK
  obtain ⟨rfl, hZ, hh⟩ := hP
  exact K p e s m below meth c s₁ Bd.exec Bd.bytes (BodyLoose.notSynchronized Bd) hml0 (findClass_of_methodNamed Bd.named) (name_of_methodNamed Bd.named Bd.method).1 Bd.returns hZ (Stand.of_body Bd) (by rw [← hh, Bd.state]; rfl)
theorem o_ret (X : Stand p l e R s m args below meth c T locs cells slots) (hx : p.tables.exec = Jvm.exec) {Q : Option Value → Heap → List Loc → Prop} {C D : Nat} {w : Value} {t : FieldType} {i : Instr} (hlocks : meth.locks = false) (hret : meth.sig.returnType = some t) (hn : narrow t w = w)
    (hi : (i = .ireturn ∧ (t = .int ∨ t = .boolean ∨ t = .byte ∨ t = .char ∨ t = .short) ∧ ∃ z, w = .int z) ∨ (i = .lreturn ∧ t = .long ∧ ∃ z, w = .long z) ∨ (i = .dreturn ∧ t = .double ∧ ∃ z, w = .double z) ∨ (i = .freturn ∧ t = .float ∧ ∃ z, w = .float z) ∨ (i = .areturn ∧ t.isReference = true ∧ w.isRef = true))
    (hd : decode c.code pc = .ok (i, 1)) (hc : cells ≤ C) (hs : slots ≤ D) (hq : Q (some w) T.heap locs) : Go p e below (Owe s Q C D) (T.setTop (mkF m pc L (w :: S))) := by
  obtain ⟨fs, hr, hrun, hended, hW, hsame⟩ := X.leave (v := some w) (fun h => by rw [hret] at h; cases h) hlocks
  exact ⟨_, _, retOut X hx hret hn hi hd hr, hrun, hended, _, _, rfl, hq, ⟨_, rfl⟩, hW, hsame.mono hc hs⟩
theorem o_retZ (X : Stand p l e R s m args below meth c T locs cells slots) (hx : p.tables.exec = Jvm.exec) {Q : Option Value → Heap → List Loc → Prop} {C D : Nat} {z : Int32} (hz : narrow .boolean (.int z) = .int z) (hlocks : meth.locks = false) (hret : meth.sig.returnType = some .boolean) (hd : decode c.code pc = .ok (.ireturn, 1)) (hc : cells ≤ C) (hs : slots ≤ D) (hq : Q (some (.int z)) T.heap locs) : Go p e below (Owe s Q C D) (T.setTop (mkF m pc L (.int z :: S))) :=
  o_ret X hx hlocks hret hz (Or.inl ⟨rfl, Or.inr (Or.inl rfl), z, rfl⟩) hd hc hs hq
theorem o_retV (X : Stand p l e R s m args below meth c T locs cells slots) (hx : p.tables.exec = Jvm.exec) {Q : Option Value → Heap → List Loc → Prop} {C D : Nat} (hlocks : meth.locks = false) (hret : meth.sig.returnType = none) (hd : decode c.code pc = .ok (.return_, 1)) (hc : cells ≤ C) (hs : slots ≤ D) (hq : Q none T.heap locs) : Go p e below (Owe s Q C D) (T.setTop (mkF m pc L [])) := by
  obtain ⟨fs, hr, hrun, hended, hW, hsame⟩ := X.leave (v := none) (fun _ => rfl) hlocks
  exact ⟨_, _, X.returnOut hx hret hd hr, hrun, hended, _, _, rfl, hq, ⟨_, rfl⟩, hW, hsame.mono hc hs⟩
theorem o_callI (X : Stand p l e R s m args below meth c T locs cells slots) (hx : p.tables.exec = Jvm.exec) (hZ : Z.Warmed39 s.vm) {own : String} {index : Nat} {y : MethodName} {bytes : ByteArray} {maxL : Nat} {rm : Room} (W : Nat) {argsL rest : List Value} {a : Addr} {Q : Option Value → Heap → List Loc → Prop} {cells' slots' : Nat}
    (hn : y.name = "<init>") (hown : s.vm.findClass own = some m.cls) (w1 : (Cond.methodLink own index y).before a0 Z = true) (w2 : (Cond.instanceMethod y).before a0 Z = true) (w3 : (Cond.initialized y.cls).before a0 Z = true) (w4 : (Cond.code y bytes maxL none).before a0 Z = true) (hy : y.cls ≠ "java/lang/invoke/MethodHandle" ∧ y.cls ≠ "java/lang/invoke/VarHandle")
    (hM : MetFree l y (head1 [Cond.code y bytes maxL none] rm) (fun b U => b = (.ref a :: argsL).toArray ∧ Z.Warmed39 U.vm ∧ U.heap = h) (fun _ _ _ _ _ => True) (fun _ U o U' => ∃ v L, o = .returned v ∧ Q v U'.heap L ∧ FrameEnd U o U' L rm.cells rm.slots))
    (hf : rm.frames + 1 ≤ R.frames) (hl : W + (maxL + 11) + rm.locals ≤ R.locals) (hcc : cells + rm.cells = cells') (hss : slots + rm.slots = slots') (hc : cells' ≤ R.cells) (hs : slots' ≤ R.slots) (eT : T.heap = h) (hsize : L.size = c.maxLocals) (hlen : ∀ sig, parseMethodDescriptor y.desc = some sig → argsL.length = sig.parameters.length) (hstk : S = argsL.reverse ++ .ref a :: rest)
    (hW : (rest.map fun v => v.category).sum = W) (hd : decode c.code pc = .ok (.invokespecial index, 3)) (hp : pc + 3 = pc') (K : ∀ T' v Lc, Stand p l e R s m args below meth c T' (locs ++ Lc) cells' slots' → Q v T'.heap Lc → Go p e below P (T'.setTop (mkF m pc' L (v.toList ++ rest)))) : Go p e below P (T.setTop (mkF m pc L S)) := by
  subst hp hcc hss
  obtain ⟨v, _, ⟨T', L', k', n'⟩, -, X', ⟨Lc, hQ, l', y', z'⟩, st⟩ := X.specialBack hx hn hown (mvT hZ w1) (mvT hZ w2) (mvT hZ w4) hy (backOf (W := W) hM hZ w4 w3 hf hl) (g := mkF m pc L S) rfl hsize (Steps.refl _) (a := a) (argsL := argsL) (rest := rest) hlen hstk (by show 2 * 0 + _ ≤ _; rw [hW]; exact Nat.le_of_eq (by simp)) hd (fun _ _ => ⟨rfl, eT, hc, hs⟩)
  dsimp only [Pt.U, Pt.locs, Pt.cells, Pt.slots] at X' l' y' z' st hQ
  subst l' y' z'
  exact (K T' v Lc X' hQ).tr st
theorem o_callV (X : Stand p l e R s m args below meth c T locs cells slots) (hx : p.tables.exec = Jvm.exec) (hZ : Z.Warmed39 s.vm) {own C : String} {index : Nat} {y : MethodName} {bytes : ByteArray} {maxL : Nat} {ret : Option FieldType} {rm : Room} (W : Nat) {argsL rest : List Value} {a : Addr} {Q : Option Value → Heap → List Loc → Prop} {cells' slots' : Nat}
    (hown : s.vm.findClass own = some m.cls) (w1 : (Cond.methodLink own index y).before a0 Z = true) (w2 : (Cond.declares y).before a0 Z = true) (w5 : (Cond.selects C y y).before a0 Z = true) (w6 : (Cond.instanceMethod y).before a0 Z = true) (w3 : (Cond.initialized y.cls).before a0 Z = true) (w4 : (Cond.code y bytes maxL ret).before a0 Z = true) (hy : y.cls ≠ "java/lang/invoke/MethodHandle" ∧ y.cls ≠ "java/lang/invoke/VarHandle")
    (hM : MetFree l y (head1 [Cond.code y bytes maxL ret] rm) (fun b U => b = (.ref a :: argsL).toArray ∧ Z.Warmed39 U.vm ∧ U.heap = h) (fun _ _ _ _ _ => True) (fun _ U o U' => ∃ v L, o = .returned v ∧ Q v U'.heap L ∧ FrameEnd U o U' L rm.cells rm.slots))
    (hE : Exa Z h a C) (hf : rm.frames + 1 ≤ R.frames) (hl : W + (maxL + 11) + rm.locals ≤ R.locals) (hcc : cells + rm.cells = cells') (hss : slots + rm.slots = slots') (hc : cells' ≤ R.cells) (hs : slots' ≤ R.slots) (eT : T.heap = h) (hsize : L.size = c.maxLocals) (hlen : ∀ sig, parseMethodDescriptor y.desc = some sig → argsL.length = sig.parameters.length) (hstk : S = argsL.reverse ++ .ref a :: rest)
    (hW : (rest.map fun v => v.category).sum = W) (hd : decode c.code pc = .ok (.invokevirtual index, 3)) (hp : pc + 3 = pc') (K : ∀ T' v Lc, Stand p l e R s m args below meth c T' (locs ++ Lc) cells' slots' → Q v T'.heap Lc → Go p e below P (T'.setTop (mkF m pc' L (v.toList ++ rest)))) : Go p e below P (T.setTop (mkF m pc L S)) := by
  subst hp hcc hss
  obtain ⟨cq, kq, qa, qb, qc⟩ := isOf hZ eT hE
  obtain ⟨v, _, ⟨T', L', k', n'⟩, -, X', ⟨Lc, hQ, l', y', z'⟩, st⟩ := X.virtualBack hx (y := y) (z := y) hown (mvT hZ w1) (mvT hZ w2) (notFace_of_selects (args := #[]) (mvT hZ w5)) (mvT hZ w5) (mvT hZ w6) hy (backOf (W := W) hM hZ w4 w3 hf hl) qa qc (g := mkF m pc L S) rfl hsize (Steps.refl _) (argsL := argsL) (rest := rest) hlen hstk (by show 2 * 0 + _ ≤ _; rw [hW]; exact Nat.le_of_eq (by simp)) hd (fun _ _ => ⟨rfl, eT, hc, hs⟩)
  dsimp only [Pt.U, Pt.locs, Pt.cells, Pt.slots] at X' l' y' z' st hQ
  subst l' y' z'
  exact (K T' v Lc X' hQ).tr st
theorem o_new (X : Stand p l e R s m args below meth c T locs cells slots) (hx : p.tables.exec = Jvm.exec) (hZ : Z.Warmed39 s.vm) {own C : String} {index n : Nat} {cells' slots' : Nat} (hown : s.vm.findClass own = some m.cls) (w1 : (Cond.classLink own index C).before a0 Z = true) (w2 : (Cond.instantiable C n).before a0 Z = true) (w3 : (Cond.initialized C).before a0 Z = true) (eT : T.heap = h)
    (hd : decode c.code pc = .ok (.new index, 3)) (hp : pc + 3 = pc') (hcc : cells + 1 = cells') (hss : slots + n = slots') (hc : cells' ≤ R.cells) (hs : slots' ≤ R.slots)
    (K : ∀ T' h' a, a = h.size → Stand p l e R s m args below meth c T' locs cells' slots' → T'.heap = h' → Ext h h' → Exa Z h' a C → (∀ {O nm d : String} {ty : FieldType}, Laid Z a0 C O nm d → parseFieldDescriptor d = some ty → Fld Z h' a O nm d (defaultValue ty)) → Go p e below P (T'.setTop (mkF m pc' L (.ref a :: S)))) : Go p e below P (T.setTop (mkF m pc L S)) := by
  subst hp hcc hss
  obtain ⟨T', h', X', e', E', A', D', -, st⟩ := newO X hx hZ hown w1 w2 w3 eT (g := mkF m pc L S) rfl hd hc hs
  exact (K T' h' h.size rfl X' e' E' A' D').via st
theorem o_initO (X : Stand p l e R s m args below meth c T locs cells slots) (hx : p.tables.exec = Jvm.exec) (hZ : Z.Warmed39 s.vm) {own : String} {index : Nat} {a : Addr} (W : Nat) (hown : s.vm.findClass own = some m.cls) (w1 : (Cond.methodLink own index Lib.objectInit).before a0 Z = true) (w2 : (Cond.instanceMethod Lib.objectInit).before a0 Z = true) (w3 : (Cond.code Lib.objectInit ⟨#[0xb1]⟩ 1 none).before a0 Z = true) (eT : T.heap = h) (hsize : L.size = c.maxLocals)
    (hd : decode c.code pc = .ok (.invokespecial index, 3)) (hp : pc + 3 = pc') (hf : 1 ≤ R.frames) (hW : (S.map fun v => v.category).sum = W) (hl : W + 12 ≤ R.locals) (K : ∀ T', Stand p l e R s m args below meth c T' locs cells slots → T'.heap = h → Go p e below P (T'.setTop (mkF m pc' L S))) : Go p e below P (T.setTop (mkF m pc L (.ref a :: S))) := by
  subst hp
  obtain ⟨T', X', e', st⟩ := initO X hx hZ hown w1 w2 w3 eT (g := mkF m pc L (.ref a :: S)) rfl hsize rfl hd hf (W := W) (by show 2 * 0 + _ ≤ _; rw [hW]; exact Nat.le_of_eq (by simp)) hl
  exact (K T' X' e').via st
theorem o_getF (X : Stand p l e R s m args below meth c T locs cells slots) (hx : p.tables.exec = Jvm.exec) (hZ : Z.Warmed39 s.vm) {own O n d : String} {index : Nat} {a : Addr} {v : Value} (hown : s.vm.findClass own = some m.cls) (w : (Cond.fieldLink own index O n d).before a0 Z = true) (eT : T.heap = h) (F : Fld Z h a O n d v) (hd : decode c.code pc = .ok (.getfield index, 3)) (hp : pc + 3 = pc')
    (K : ∀ T', Stand p l e R s m args below meth c T' locs cells slots → T'.heap = h → Go p e below P (T'.setTop (mkF m pc' L (v :: S)))) : Go p e below P (T.setTop (mkF m pc L (.ref a :: S))) := by
  subst hp
  obtain ⟨T', X', e', st⟩ := getF X hx hZ hown (host := "") (Or.inl w) Via.refl eT F (g := mkF m pc L (.ref a :: S)) rfl rfl hd
  exact (K T' X' e').via st
theorem o_putF (X : Stand p l e R s m args below meth c T locs cells slots) (hx : p.tables.exec = Jvm.exec) (hZ : Z.Warmed39 s.vm) {own O n d C : String} {index kk : Nat} {a : Addr} {v old : Value} {ty : FieldType} (hown : s.vm.findClass own = some m.cls) (w : (Cond.fieldLink own index O n d).before a0 Z = true) (eT : T.heap = h) (F : Fld Z h a O n d old) (E : Exa Z h a C)
    (LL : (Cond.lays C O n d).before a0 Z = true ∨ ((Cond.laysFinal C O n d).before a0 Z = true ∧ own = O ∧ meth.name = "<init>")) (wi : (Cond.instantiable C kk).before a0 Z = true) (hty : parseFieldDescriptor d = some ty) (hn : narrow ty v = v) (hf : fits ty v = true) (hd : decode c.code pc = .ok (.putfield index, 3)) (hp : pc + 3 = pc')
    (K : ∀ T' h', Stand p l e R s m args below meth c T' (locs ++ [⟨a, Jvm.RoadKit.slotOf Z O n d⟩]) cells slots → T'.heap = h' → Wr h h' a (Jvm.RoadKit.slotOf Z O n d) v → Go p e below P (T'.setTop (mkF m pc' L S))) : Go p e below P (T.setTop (mkF m pc L (v :: .ref a :: S))) := by
  subst hp
  obtain ⟨T', h', X', e', W', st⟩ := putF X hx hZ hown (host := "") (Or.inl w) Via.refl eT F E LL wi hty hn hf (g := mkF m pc L (v :: .ref a :: S)) rfl rfl hd
  exact (K T' h' X' e' W').via st
end Own
theorem pd_0 : parseMethodDescriptor "()V" = some ⟨[], none⟩ := by decide +kernel
theorem pd_1 : parseMethodDescriptor "(IJII)V" = some ⟨[.int, .long, .int, .int], none⟩ := by decide +kernel
theorem pd_2 : parseMethodDescriptor "(IJI)Z" = some ⟨[.int, .long, .int], some .boolean⟩ := by decide +kernel
theorem d2_0 : decode jdk_30_method_1_code 0 = .ok (.aload_n 0, 1) := by decide +kernel
theorem d2_1 : decode jdk_30_method_1_code 1 = .ok (.invokespecial 1, 3) := by decide +kernel
theorem d2_4 : decode jdk_30_method_1_code 4 = .ok (.return_, 1) := by decide +kernel
theorem ef_2 (m : MethodId) (x0 : Addr) : entryFrame m #[(.ref x0)] 1 = mkF m 0 #[.val (.ref x0)] [] := by first | (simp [entryFrame, mkF, argsToLocals, Value.category]; done) | rfl
def Q2 (Z : State) (aa : Addr) (h0 : Heap) (n0 : Nat) (v : Option Value) (h : Heap) (L : List Loc) : Prop := v = none ∧ Fr n0 L ∧ h = h0
set_option maxRecDepth 65536 in
set_option maxHeartbeats 40000000 in
theorem rm2 (l : Launch) (Z : State) (a0 : Array Value) (hw : ∀ d ∈ tables_1, d.before a0 Z = true) (ws : List Jvm.Cond) (aa : Addr) (h0 : Heap) (n0 : Nat) (Z0 : n0 ≤ h0.size)  :
    Con l (⟨"java/lang/Record", "<init>", "()V"⟩ : MethodName) jdk_30_method_1_code 1 none ws ({ frames := 1, cells := 0, slots := 0, locals := 12 } : Room) #[(.ref aa)] Z h0 (Q2 Z aa h0 n0) ({ frames := 1, cells := 0, slots := 0, locals := 12 } : Room).cells ({ frames := 1, cells := 0, slots := 0, locals := 12 } : Room).slots := by
  refine own_body (by decide +kernel) ?_
  intro p e s m below meth c s₁ hx hby hlk hml hown hnm hrt hZ X0 e0
  have w : ∀ (k : Nat) (d : Jvm.Cond), tables_1[k]? = some d → d.before a0 Z = true := fun k d h => hw d (List.mem_of_getElem? h)
  have N0 := Fr.nil n0
  rw [ef_2]
  generalize hOWE : Owe s _ _ _ = OWE
  refine o_aloadN X0 hx (hb hby d2_0) (pc' := 1) rfl rfl rfl ?_
  refine o_initO X0 hx hZ 0 hown (w 11 _ rfl) (w 12 _ rfl) (w 13 _ rfl) e0 (by rw [hml]; rfl) (hb hby d2_1) (pc' := 4) rfl (by decide) rfl (by decide) ?_
  intro T1 X1 e1
  rw [← hOWE]
  exact o_retV X1 hx hlk hrt (hb hby d2_4) (by decide) (by decide) (by rw [e1]; exact ⟨rfl, N0, rfl⟩)
theorem d1_0 : decode prog_14_method_1_code 0 = .ok (.aload_n 0, 1) := by decide +kernel
theorem d1_1 : decode prog_14_method_1_code 1 = .ok (.invokespecial 1, 3) := by decide +kernel
theorem d1_4 : decode prog_14_method_1_code 4 = .ok (.aload_n 0, 1) := by decide +kernel
theorem d1_5 : decode prog_14_method_1_code 5 = .ok (.iload_n 1, 1) := by decide +kernel
theorem d1_6 : decode prog_14_method_1_code 6 = .ok (.putfield 7, 3) := by decide +kernel
theorem d1_9 : decode prog_14_method_1_code 9 = .ok (.aload_n 0, 1) := by decide +kernel
theorem d1_10 : decode prog_14_method_1_code 10 = .ok (.lload_n 2, 1) := by decide +kernel
theorem d1_11 : decode prog_14_method_1_code 11 = .ok (.putfield 13, 3) := by decide +kernel
theorem d1_14 : decode prog_14_method_1_code 14 = .ok (.aload_n 0, 1) := by decide +kernel
theorem d1_15 : decode prog_14_method_1_code 15 = .ok (.iload 4, 2) := by decide +kernel
theorem d1_17 : decode prog_14_method_1_code 17 = .ok (.putfield 17, 3) := by decide +kernel
theorem d1_20 : decode prog_14_method_1_code 20 = .ok (.aload_n 0, 1) := by decide +kernel
theorem d1_21 : decode prog_14_method_1_code 21 = .ok (.iload 5, 2) := by decide +kernel
theorem d1_23 : decode prog_14_method_1_code 23 = .ok (.putfield 20, 3) := by decide +kernel
theorem d1_26 : decode prog_14_method_1_code 26 = .ok (.return_, 1) := by decide +kernel
theorem pn_1 : plainName "com/example/keelstore/keelstore/IndexFile$IndexEntry" = true := by first | (simp [plainName, overriddenIn]; done) | decide +kernel
theorem ef_1 (m : MethodId) (x0 : Addr) (x1 : Int32) (x2 : Int64) (x3 : Int32) (x4 : Int32) : entryFrame m #[(.ref x0), (.int x1), (.long x2), (.int x3), (.int x4)] 6 = mkF m 0 #[.val (.ref x0), .val (.int x1), .val (.long x2), .second, .val (.int x3), .val (.int x4)] [] := by first | (simp [entryFrame, mkF, argsToLocals, Value.category]; done) | rfl
def Q1 (Z : State) (aa : Addr) (u0 : Value) (u1 : Value) (u2 : Value) (u3 : Value) (x1 : Int32) (x2 : Int64) (x3 : Int32) (x4 : Int32) (h0 : Heap) (n0 : Nat) (v : Option Value) (h : Heap) (L : List Loc) : Prop := v = none ∧ Fr n0 L ∧ Keep h0 h [aa] ∧ Exa Z h aa "com/example/keelstore/keelstore/IndexFile$IndexEntry" ∧ Fld Z h aa "com/example/keelstore/keelstore/IndexFile$IndexEntry" "hash" "I" (.int x1) ∧ Fld Z h aa "com/example/keelstore/keelstore/IndexFile$IndexEntry" "commitLogOffset" "J" (.long x2) ∧ Fld Z h aa "com/example/keelstore/keelstore/IndexFile$IndexEntry" "seconds" "I" (.int x3) ∧ Fld Z h aa "com/example/keelstore/keelstore/IndexFile$IndexEntry" "previous" "I" (.int x4)
set_option maxRecDepth 65536 in
set_option maxHeartbeats 40000000 in
theorem rm1 (l : Launch) (Z : State) (a0 : Array Value) (hw : ∀ d ∈ tables_1, d.before a0 Z = true) (ws : List Jvm.Cond) (aa : Addr) (u0 : Value) (u1 : Value) (u2 : Value) (u3 : Value) (x1 : Int32) (x2 : Int64) (x3 : Int32) (x4 : Int32) (h0 : Heap) (n0 : Nat) (Z0 : n0 ≤ h0.size) (E_aa : Exa Z h0 aa "com/example/keelstore/keelstore/IndexFile$IndexEntry") (F_hash_aa : Fld Z h0 aa "com/example/keelstore/keelstore/IndexFile$IndexEntry" "hash" "I" u0) (F_commitLogOffset_aa : Fld Z h0 aa "com/example/keelstore/keelstore/IndexFile$IndexEntry" "commitLogOffset" "J" u1) (F_seconds_aa : Fld Z h0 aa "com/example/keelstore/keelstore/IndexFile$IndexEntry" "seconds" "I" u2) (F_previous_aa : Fld Z h0 aa "com/example/keelstore/keelstore/IndexFile$IndexEntry" "previous" "I" u3) (g_aa : n0 ≤ aa) :
    Con l (⟨"com/example/keelstore/keelstore/IndexFile$IndexEntry", "<init>", "(IJII)V"⟩ : MethodName) prog_14_method_1_code 6 none ws ({ frames := 2, cells := 0, slots := 0, locals := 24 } : Room) #[(.ref aa), (.int x1), (.long x2), (.int x3), (.int x4)] Z h0 (Q1 Z aa u0 u1 u2 u3 x1 x2 x3 x4 h0 n0) ({ frames := 2, cells := 0, slots := 0, locals := 24 } : Room).cells ({ frames := 2, cells := 0, slots := 0, locals := 24 } : Room).slots := by
  refine own_body (plainFor_of_name pn_1) ?_
  intro p e s m below meth c s₁ hx hby hlk hml hown hnm hrt hZ X0 e0
  have w : ∀ (k : Nat) (d : Jvm.Cond), tables_1[k]? = some d → d.before a0 Z = true := fun k d h => hw d (List.mem_of_getElem? h)
  have N0 := Fr.nil n0
  have K0 := Keep.refl h0 [aa]
  rw [ef_1]
  generalize hOWE : Owe s _ _ _ = OWE
  refine o_aloadN X0 hx (hb hby d1_0) (pc' := 1) rfl rfl rfl ?_
  refine o_callI X0 hx hZ 0 (argsL := []) (rest := []) (a := aa) rfl hown (w 6 _ rfl) (w 7 _ rfl) (w 9 _ rfl) (w 10 _ rfl) (by decide) (rm2 l Z a0 hw [] aa h0 n0 Z0 ) (by decide) (by decide) (cells' := 0) rfl (slots' := 0) rfl (by decide) (by decide) e0 (by rw [hml]; rfl) (lenOf pd_0 rfl) rfl rfl (hb hby d1_1) (pc' := 4) rfl ?_
  intro T1 v1 L1 X1 hQ1
  obtain ⟨rfl, Nq1, e1⟩ := hQ1
  have N1 := Fr.app N0 Nq1
  show Go p e below _ (T1.setTop (mkF m 4 _ []))
  refine o_aloadN X1 hx (hb hby d1_4) (pc' := 5) rfl rfl rfl ?_
  refine o_iloadN X1 hx (hb hby d1_5) (pc' := 6) rfl rfl ?_
  refine o_putF X1 hx hZ hown (w 14 _ rfl) e1 F_hash_aa E_aa (Or.inr ⟨(w 15 _ rfl), rfl, hnm⟩) (w 1 _ rfl) (ty := .int) (by decide) rfl rfl (hb hby d1_6) (pc' := 9) rfl ?_
  intro T2 h2 X2 e2 W2
  have Fw2 := Fld.same W2 F_hash_aa
  have E3_aa := Exa.wr W2 E_aa
  have F3_aa_commitLogOffset := Fld.other W2 F_commitLogOffset_aa (Or.inr (slot_ne (C := "com/example/keelstore/keelstore/IndexFile$IndexEntry") (a0 := a0) (Or.inr (w 17 _ rfl)) (Or.inr (w 15 _ rfl)) (by decide) (t := .long) (t' := .int) (by decide) (by decide)))
  have F3_aa_seconds := Fld.other W2 F_seconds_aa (Or.inr (slot_ne (C := "com/example/keelstore/keelstore/IndexFile$IndexEntry") (a0 := a0) (Or.inr (w 19 _ rfl)) (Or.inr (w 15 _ rfl)) (by decide) (t := .int) (t' := .int) (by decide) (by decide)))
  have F3_aa_previous := Fld.other W2 F_previous_aa (Or.inr (slot_ne (C := "com/example/keelstore/keelstore/IndexFile$IndexEntry") (a0 := a0) (Or.inr (w 21 _ rfl)) (Or.inr (w 15 _ rfl)) (by decide) (t := .int) (t' := .int) (by decide) (by decide)))
  have N2 := Fr.snoc X2 N1 g_aa
  have Z2 : n0 ≤ h2.size := by rw [W2.size]; exact Z0
  have K2 := Keep.wr K0 W2 (Or.inl (List.mem_of_getElem? (i := 0) rfl))
  refine o_aloadN X2 hx (hb hby d1_9) (pc' := 10) rfl rfl rfl ?_
  refine o_lloadN X2 hx (hb hby d1_10) (pc' := 11) rfl rfl ?_
  refine o_putF X2 hx hZ hown (w 16 _ rfl) e2 F3_aa_commitLogOffset E3_aa (Or.inr ⟨(w 17 _ rfl), rfl, hnm⟩) (w 1 _ rfl) (ty := .long) (by decide) rfl rfl (hb hby d1_11) (pc' := 14) rfl ?_
  intro T4 h4 X4 e4 W4
  have Fw4 := Fld.same W4 F3_aa_commitLogOffset
  have E5_aa := Exa.wr W4 E3_aa
  have F5_aa_hash := Fld.other W4 Fw2 (Or.inr (slot_ne (C := "com/example/keelstore/keelstore/IndexFile$IndexEntry") (a0 := a0) (Or.inr (w 15 _ rfl)) (Or.inr (w 17 _ rfl)) (by decide) (t := .int) (t' := .long) (by decide) (by decide)))
  have F5_aa_seconds := Fld.other W4 F3_aa_seconds (Or.inr (slot_ne (C := "com/example/keelstore/keelstore/IndexFile$IndexEntry") (a0 := a0) (Or.inr (w 19 _ rfl)) (Or.inr (w 17 _ rfl)) (by decide) (t := .int) (t' := .long) (by decide) (by decide)))
  have F5_aa_previous := Fld.other W4 F3_aa_previous (Or.inr (slot_ne (C := "com/example/keelstore/keelstore/IndexFile$IndexEntry") (a0 := a0) (Or.inr (w 21 _ rfl)) (Or.inr (w 17 _ rfl)) (by decide) (t := .int) (t' := .long) (by decide) (by decide)))
  have N4 := Fr.snoc X4 N2 g_aa
  have Z4 : n0 ≤ h4.size := by rw [W4.size]; exact Z2
  have K4 := Keep.wr K2 W4 (Or.inl (List.mem_of_getElem? (i := 0) rfl))
  refine o_aloadN X4 hx (hb hby d1_14) (pc' := 15) rfl rfl rfl ?_
  refine o_iload X4 hx (hb hby d1_15) (pc' := 17) rfl rfl ?_
  refine o_putF X4 hx hZ hown (w 18 _ rfl) e4 F5_aa_seconds E5_aa (Or.inr ⟨(w 19 _ rfl), rfl, hnm⟩) (w 1 _ rfl) (ty := .int) (by decide) rfl rfl (hb hby d1_17) (pc' := 20) rfl ?_
  intro T6 h6 X6 e6 W6
  have Fw6 := Fld.same W6 F5_aa_seconds
  have E7_aa := Exa.wr W6 E5_aa
  have F7_aa_hash := Fld.other W6 F5_aa_hash (Or.inr (slot_ne (C := "com/example/keelstore/keelstore/IndexFile$IndexEntry") (a0 := a0) (Or.inr (w 15 _ rfl)) (Or.inr (w 19 _ rfl)) (by decide) (t := .int) (t' := .int) (by decide) (by decide)))
  have F7_aa_commitLogOffset := Fld.other W6 Fw4 (Or.inr (slot_ne (C := "com/example/keelstore/keelstore/IndexFile$IndexEntry") (a0 := a0) (Or.inr (w 17 _ rfl)) (Or.inr (w 19 _ rfl)) (by decide) (t := .long) (t' := .int) (by decide) (by decide)))
  have F7_aa_previous := Fld.other W6 F5_aa_previous (Or.inr (slot_ne (C := "com/example/keelstore/keelstore/IndexFile$IndexEntry") (a0 := a0) (Or.inr (w 21 _ rfl)) (Or.inr (w 19 _ rfl)) (by decide) (t := .int) (t' := .int) (by decide) (by decide)))
  have N6 := Fr.snoc X6 N4 g_aa
  have Z6 : n0 ≤ h6.size := by rw [W6.size]; exact Z4
  have K6 := Keep.wr K4 W6 (Or.inl (List.mem_of_getElem? (i := 0) rfl))
  refine o_aloadN X6 hx (hb hby d1_20) (pc' := 21) rfl rfl rfl ?_
  refine o_iload X6 hx (hb hby d1_21) (pc' := 23) rfl rfl ?_
  refine o_putF X6 hx hZ hown (w 20 _ rfl) e6 F7_aa_previous E7_aa (Or.inr ⟨(w 21 _ rfl), rfl, hnm⟩) (w 1 _ rfl) (ty := .int) (by decide) rfl rfl (hb hby d1_23) (pc' := 26) rfl ?_
  intro T8 h8 X8 e8 W8
  have Fw8 := Fld.same W8 F7_aa_previous
  have E9_aa := Exa.wr W8 E7_aa
  have F9_aa_hash := Fld.other W8 F7_aa_hash (Or.inr (slot_ne (C := "com/example/keelstore/keelstore/IndexFile$IndexEntry") (a0 := a0) (Or.inr (w 15 _ rfl)) (Or.inr (w 21 _ rfl)) (by decide) (t := .int) (t' := .int) (by decide) (by decide)))
  have F9_aa_commitLogOffset := Fld.other W8 F7_aa_commitLogOffset (Or.inr (slot_ne (C := "com/example/keelstore/keelstore/IndexFile$IndexEntry") (a0 := a0) (Or.inr (w 17 _ rfl)) (Or.inr (w 21 _ rfl)) (by decide) (t := .long) (t' := .int) (by decide) (by decide)))
  have F9_aa_seconds := Fld.other W8 Fw6 (Or.inr (slot_ne (C := "com/example/keelstore/keelstore/IndexFile$IndexEntry") (a0 := a0) (Or.inr (w 19 _ rfl)) (Or.inr (w 21 _ rfl)) (by decide) (t := .int) (t' := .int) (by decide) (by decide)))
  have N8 := Fr.snoc X8 N6 g_aa
  have Z8 : n0 ≤ h8.size := by rw [W8.size]; exact Z6
  have K8 := Keep.wr K6 W8 (Or.inl (List.mem_of_getElem? (i := 0) rfl))
  rw [← hOWE]
  exact o_retV X8 hx hlk hrt (hb hby d1_26) (by decide) (by decide) (by rw [e8]; exact ⟨rfl, N8, K8, E9_aa, F9_aa_hash, F9_aa_commitLogOffset, F9_aa_seconds, Fw8⟩)
theorem d4_0 : decode prog_14_method_2_code 0 = .ok (.aload_n 0, 1) := by decide +kernel
theorem d4_1 : decode prog_14_method_2_code 1 = .ok (.getfield 7, 3) := by decide +kernel
theorem d4_4 : decode prog_14_method_2_code 4 = .ok (.iload_n 1, 1) := by decide +kernel
theorem d4_5 : decode prog_14_method_2_code 5 = .ok (.if_icmp .ne 25, 3) := by decide +kernel
theorem d4_8 : decode prog_14_method_2_code 8 = .ok (.aload_n 0, 1) := by decide +kernel
theorem d4_9 : decode prog_14_method_2_code 9 = .ok (.getfield 13, 3) := by decide +kernel
theorem d4_12 : decode prog_14_method_2_code 12 = .ok (.lload_n 2, 1) := by decide +kernel
theorem d4_13 : decode prog_14_method_2_code 13 = .ok (.lcmp, 1) := by decide +kernel
theorem d4_14 : decode prog_14_method_2_code 14 = .ok (.ifCond .ne 16, 3) := by decide +kernel
theorem d4_17 : decode prog_14_method_2_code 17 = .ok (.aload_n 0, 1) := by decide +kernel
theorem d4_18 : decode prog_14_method_2_code 18 = .ok (.getfield 17, 3) := by decide +kernel
theorem d4_21 : decode prog_14_method_2_code 21 = .ok (.iload 4, 2) := by decide +kernel
theorem d4_23 : decode prog_14_method_2_code 23 = .ok (.if_icmp .ne 7, 3) := by decide +kernel
theorem d4_26 : decode prog_14_method_2_code 26 = .ok (.iconst 1, 1) := by decide +kernel
theorem d4_27 : decode prog_14_method_2_code 27 = .ok (.goto 4, 3) := by decide +kernel
theorem d4_30 : decode prog_14_method_2_code 30 = .ok (.iconst 0, 1) := by decide +kernel
theorem d4_31 : decode prog_14_method_2_code 31 = .ok (.ireturn, 1) := by decide +kernel
theorem ef_4 (m : MethodId) (x0 : Addr) (x1 : Int32) (x2 : Int64) (x3 : Int32) : entryFrame m #[(.ref x0), (.int x1), (.long x2), (.int x3)] 5 = mkF m 0 #[.val (.ref x0), .val (.int x1), .val (.long x2), .second, .val (.int x3)] [] := by first | (simp [entryFrame, mkF, argsToLocals, Value.category]; done) | rfl
def own_f4_ret (y0 : Int32) (y1 : Int64) (y2 : Int32) (x1 : Int32) (x2 : Int64) (x3 : Int32) : Int32 := (if y0 = x1 then (if y1 = x2 then (if y2 = x3 then (1 : Int32) else (0 : Int32)) else (0 : Int32)) else (0 : Int32))
theorem own_f4_ret_01 (y0 : Int32) (y1 : Int64) (y2 : Int32) (x1 : Int32) (x2 : Int64) (x3 : Int32) : (own_f4_ret y0 y1 y2 x1 x2 x3) = 0 ∨ (own_f4_ret y0 y1 y2 x1 x2 x3) = 1 := by
  unfold own_f4_ret
  repeat' split
  all_goals first | exact Or.inl rfl | exact Or.inr rfl
def Q4 (Z : State) (aa : Addr) (y0 : Int32) (y1 : Int64) (y2 : Int32) (x1 : Int32) (x2 : Int64) (x3 : Int32) (h0 : Heap) (n0 : Nat) (v : Option Value) (h : Heap) (L : List Loc) : Prop := v = some (.int (own_f4_ret y0 y1 y2 x1 x2 x3)) ∧ Fr n0 L ∧ h = h0
set_option maxRecDepth 65536 in
set_option maxHeartbeats 40000000 in
theorem rm4 (l : Launch) (Z : State) (a0 : Array Value) (hw : ∀ d ∈ tables_1, d.before a0 Z = true) (ws : List Jvm.Cond) (aa : Addr) (y0 : Int32) (y1 : Int64) (y2 : Int32) (x1 : Int32) (x2 : Int64) (x3 : Int32) (h0 : Heap) (n0 : Nat) (Z0 : n0 ≤ h0.size) (F_hash_aa : Fld Z h0 aa "com/example/keelstore/keelstore/IndexFile$IndexEntry" "hash" "I" (.int y0)) (F_commitLogOffset_aa : Fld Z h0 aa "com/example/keelstore/keelstore/IndexFile$IndexEntry" "commitLogOffset" "J" (.long y1)) (F_seconds_aa : Fld Z h0 aa "com/example/keelstore/keelstore/IndexFile$IndexEntry" "seconds" "I" (.int y2)) :
    Con l (⟨"com/example/keelstore/keelstore/IndexFile$IndexEntry", "is", "(IJI)Z"⟩ : MethodName) prog_14_method_2_code 5 (some .boolean) ws ({ frames := 0, cells := 0, slots := 0, locals := 0 } : Room) #[(.ref aa), (.int x1), (.long x2), (.int x3)] Z h0 (Q4 Z aa y0 y1 y2 x1 x2 x3 h0 n0) ({ frames := 0, cells := 0, slots := 0, locals := 0 } : Room).cells ({ frames := 0, cells := 0, slots := 0, locals := 0 } : Room).slots := by
  refine own_body (plainFor_of_name pn_1) ?_
  intro p e s m below meth c s₁ hx hby hlk hml hown hnm hrt hZ X0 e0
  have w : ∀ (k : Nat) (d : Jvm.Cond), tables_1[k]? = some d → d.before a0 Z = true := fun k d h => hw d (List.mem_of_getElem? h)
  have N0 := Fr.nil n0
  rw [ef_4]
  generalize hOWE : Owe s _ _ _ = OWE
  refine o_aloadN X0 hx (hb hby d4_0) (pc' := 1) rfl rfl rfl ?_
  refine o_getF X0 hx hZ hown (w 14 _ rfl) e0 F_hash_aa (hb hby d4_1) (pc' := 4) rfl ?_
  intro T1 X1 e1
  refine o_iloadN X1 hx (hb hby d4_4) (pc' := 5) rfl rfl ?_
  by_cases hc5_2 : y0 = x1
  · refine o_cmpN X1 hx (hb hby d4_5) (teq hc5_2).2 (pc' := 8) rfl ?_
    refine o_aloadN X1 hx (hb hby d4_8) (pc' := 9) rfl rfl rfl ?_
    refine o_getF X1 hx hZ hown (w 16 _ rfl) e1 F_commitLogOffset_aa (hb hby d4_9) (pc' := 12) rfl ?_
    intro T3 X3 e3
    refine o_lloadN X3 hx (hb hby d4_12) (pc' := 13) rfl rfl ?_
    refine o_lcmp X3 hx (hb hby d4_13) (pc' := 14) rfl ?_
    by_cases hc14_4 : y1 = x2
    · refine o_ifN X3 hx (hb hby d4_14) (teqL hc14_4).2 (pc' := 17) rfl ?_
      refine o_aloadN X3 hx (hb hby d4_17) (pc' := 18) rfl rfl rfl ?_
      refine o_getF X3 hx hZ hown (w 18 _ rfl) e3 F_seconds_aa (hb hby d4_18) (pc' := 21) rfl ?_
      intro T5 X5 e5
      refine o_iload X5 hx (hb hby d4_21) (pc' := 23) rfl rfl ?_
      by_cases hc23_6 : y2 = x3
      · refine o_cmpN X5 hx (hb hby d4_23) (teq hc23_6).2 (pc' := 26) rfl ?_
        refine o_iconst X5 hx (1 : Int32) (hb hby d4_26) (pc' := 27) rfl (by decide) ?_
        refine o_goto X5 hx (hb hby d4_27) (by decide) (pc' := 31) (by decide) ?_
        rw [← hOWE]
        exact o_retZ X5 hx rfl hlk hrt (hb hby d4_31) (by decide) (by decide) (by rw [e5]; exact ⟨(by rw [own_f4_ret, if_pos hc5_2, if_pos hc14_4, if_pos hc23_6]), N0, rfl⟩)
      · refine o_cmpY X5 hx (hb hby d4_23) (feq hc23_6).2 (by decide) (pc' := 30) (by decide) ?_
        refine o_iconst X5 hx (0 : Int32) (hb hby d4_30) (pc' := 31) rfl (by decide) ?_
        rw [← hOWE]
        exact o_retZ X5 hx rfl hlk hrt (hb hby d4_31) (by decide) (by decide) (by rw [e5]; exact ⟨(by rw [own_f4_ret, if_pos hc5_2, if_pos hc14_4, if_neg hc23_6]), N0, rfl⟩)
    · refine o_ifY X3 hx (hb hby d4_14) (feqL hc14_4).2 (by decide) (pc' := 30) (by decide) ?_
      refine o_iconst X3 hx (0 : Int32) (hb hby d4_30) (pc' := 31) rfl (by decide) ?_
      rw [← hOWE]
      exact o_retZ X3 hx rfl hlk hrt (hb hby d4_31) (by decide) (by decide) (by rw [e3]; exact ⟨(by rw [own_f4_ret, if_pos hc5_2, if_neg hc14_4]), N0, rfl⟩)
  · refine o_cmpY X1 hx (hb hby d4_5) (feq hc5_2).2 (by decide) (pc' := 30) (by decide) ?_
    refine o_iconst X1 hx (0 : Int32) (hb hby d4_30) (pc' := 31) rfl (by decide) ?_
    rw [← hOWE]
    exact o_retZ X1 hx rfl hlk hrt (hb hby d4_31) (by decide) (by decide) (by rw [e1]; exact ⟨(by rw [own_f4_ret, if_neg hc5_2]), N0, rfl⟩)
theorem pn_0 : plainName "com/example/keelstore/keelstore/IndexEntryIsPinLaw" = true := by first | (simp [plainName, overriddenIn]; done) | decide +kernel
theorem ef_0 (m : MethodId) (x0 : Int32) (x1 : Int64) (x2 : Int32) (x3 : Int32) (x4 : Int32) (x5 : Int64) : entryFrame m #[(.int x0), (.long x1), (.int x2), (.int x3), (.int x4), (.long x5)] maxLocals = mkF m 0 #[.val (.int x0), .val (.long x1), .second, .val (.int x2), .val (.int x3), .val (.int x4), .val (.long x5), .second, .unset, .unset, .unset, .unset, .unset, .unset, .unset, .unset, .unset, .unset, .unset, .unset, .unset] [] := by first | (simp [entryFrame, mkF, argsToLocals, Value.category, maxLocals]; done) | rfl
def own_law_v13_1_L8 (q0 : Int32) (q1 : Int64) (q2 : Int32) (q3 : Int32) (q4 : Int32) (q5 : Int64) : Int32 := (if (q5.toInt32) = (0 : Int32) then (1 : Int32) else (q5.toInt32))
def own_law_v27_2_L9 (q0 : Int32) (q1 : Int64) (q2 : Int32) (q3 : Int32) (q4 : Int32) (q5 : Int64) : Int64 := (if q5 = (0 : Int64) then (1 : Int64) else q5)
def own_law_v43_3_L11 (q0 : Int32) (q1 : Int64) (q2 : Int32) (q3 : Int32) (q4 : Int32) (q5 : Int64) : Int32 := (if ((uL q5 (32 : Int32)).toInt32) = (0 : Int32) then (1 : Int32) else ((uL q5 (32 : Int32)).toInt32))
def own_law_v55_4_S0 (q0 : Int32) (q1 : Int64) (q2 : Int32) (q3 : Int32) (q4 : Int32) (q5 : Int64) : Int32 := (if (q4 &&& (1 : Int32)) = (0 : Int32) then (0 : Int32) else (1 : Int32))
theorem own_law_v55_4_S0_01 (q0 : Int32) (q1 : Int64) (q2 : Int32) (q3 : Int32) (q4 : Int32) (q5 : Int64) : (own_law_v55_4_S0 q0 q1 q2 q3 q4 q5) = 0 ∨ (own_law_v55_4_S0 q0 q1 q2 q3 q4 q5) = 1 := by
  unfold own_law_v55_4_S0
  repeat' split
  all_goals first | exact Or.inl rfl | exact Or.inr rfl
def own_law_v69_5_S0 (q0 : Int32) (q1 : Int64) (q2 : Int32) (q3 : Int32) (q4 : Int32) (q5 : Int64) : Int32 := (if (q4 &&& (2 : Int32)) = (0 : Int32) then (0 : Int32) else (1 : Int32))
theorem own_law_v69_5_S0_01 (q0 : Int32) (q1 : Int64) (q2 : Int32) (q3 : Int32) (q4 : Int32) (q5 : Int64) : (own_law_v69_5_S0 q0 q1 q2 q3 q4 q5) = 0 ∨ (own_law_v69_5_S0 q0 q1 q2 q3 q4 q5) = 1 := by
  unfold own_law_v69_5_S0
  repeat' split
  all_goals first | exact Or.inl rfl | exact Or.inr rfl
def own_law_v83_6_S0 (q0 : Int32) (q1 : Int64) (q2 : Int32) (q3 : Int32) (q4 : Int32) (q5 : Int64) : Int32 := (if (q4 &&& (4 : Int32)) = (0 : Int32) then (0 : Int32) else (1 : Int32))
theorem own_law_v83_6_S0_01 (q0 : Int32) (q1 : Int64) (q2 : Int32) (q3 : Int32) (q4 : Int32) (q5 : Int64) : (own_law_v83_6_S0 q0 q1 q2 q3 q4 q5) = 0 ∨ (own_law_v83_6_S0 q0 q1 q2 q3 q4 q5) = 1 := by
  unfold own_law_v83_6_S0
  repeat' split
  all_goals first | exact Or.inl rfl | exact Or.inr rfl
def own_law_v98_7_S0 (q0 : Int32) (q1 : Int64) (q2 : Int32) (q3 : Int32) (q4 : Int32) (q5 : Int64) : Int32 := (if (own_law_v55_4_S0 q0 q1 q2 q3 q4 q5) = (0 : Int32) then q0 else (q0 + (own_law_v13_1_L8 q0 q1 q2 q3 q4 q5)))
def own_law_v113_8_S0 (q0 : Int32) (q1 : Int64) (q2 : Int32) (q3 : Int32) (q4 : Int32) (q5 : Int64) : Int64 := (if (own_law_v69_5_S0 q0 q1 q2 q3 q4 q5) = (0 : Int32) then q1 else (q1 + (own_law_v27_2_L9 q0 q1 q2 q3 q4 q5)))
def own_law_v128_9_S0 (q0 : Int32) (q1 : Int64) (q2 : Int32) (q3 : Int32) (q4 : Int32) (q5 : Int64) : Int32 := (if (own_law_v83_6_S0 q0 q1 q2 q3 q4 q5) = (0 : Int32) then q2 else (q2 + (own_law_v43_3_L11 q0 q1 q2 q3 q4 q5)))
def own_law_v164_10_S0 (q0 : Int32) (q1 : Int64) (q2 : Int32) (q3 : Int32) (q4 : Int32) (q5 : Int64) : Int32 := (if (own_law_v55_4_S0 q0 q1 q2 q3 q4 q5) = (0 : Int32) then (if (own_law_v69_5_S0 q0 q1 q2 q3 q4 q5) = (0 : Int32) then (if (own_law_v83_6_S0 q0 q1 q2 q3 q4 q5) = (0 : Int32) then (1 : Int32) else (0 : Int32)) else (0 : Int32)) else (0 : Int32))
theorem own_law_v164_10_S0_01 (q0 : Int32) (q1 : Int64) (q2 : Int32) (q3 : Int32) (q4 : Int32) (q5 : Int64) : (own_law_v164_10_S0 q0 q1 q2 q3 q4 q5) = 0 ∨ (own_law_v164_10_S0 q0 q1 q2 q3 q4 q5) = 1 := by
  unfold own_law_v164_10_S0
  repeat' split
  all_goals first | exact Or.inl rfl | exact Or.inr rfl
def own_law_ret_j164_10 (q0 : Int32) (q1 : Int64) (q2 : Int32) (q3 : Int32) (q4 : Int32) (q5 : Int64) : Int32 := (if (own_f4_ret q0 q1 q2 (own_law_v98_7_S0 q0 q1 q2 q3 q4 q5) (own_law_v113_8_S0 q0 q1 q2 q3 q4 q5) (own_law_v128_9_S0 q0 q1 q2 q3 q4 q5)) = (own_law_v164_10_S0 q0 q1 q2 q3 q4 q5) then (1 : Int32) else (0 : Int32))
def own_law_ret_j128_9 (q0 : Int32) (q1 : Int64) (q2 : Int32) (q3 : Int32) (q4 : Int32) (q5 : Int64) : Int32 := (own_law_ret_j164_10 q0 q1 q2 q3 q4 q5)
def own_law_ret_j113_8 (q0 : Int32) (q1 : Int64) (q2 : Int32) (q3 : Int32) (q4 : Int32) (q5 : Int64) : Int32 := (own_law_ret_j128_9 q0 q1 q2 q3 q4 q5)
def own_law_ret_j98_7 (q0 : Int32) (q1 : Int64) (q2 : Int32) (q3 : Int32) (q4 : Int32) (q5 : Int64) : Int32 := (own_law_ret_j113_8 q0 q1 q2 q3 q4 q5)
def own_law_ret_j83_6 (q0 : Int32) (q1 : Int64) (q2 : Int32) (q3 : Int32) (q4 : Int32) (q5 : Int64) : Int32 := (own_law_ret_j98_7 q0 q1 q2 q3 q4 q5)
def own_law_ret_j69_5 (q0 : Int32) (q1 : Int64) (q2 : Int32) (q3 : Int32) (q4 : Int32) (q5 : Int64) : Int32 := (own_law_ret_j83_6 q0 q1 q2 q3 q4 q5)
def own_law_ret_j55_4 (q0 : Int32) (q1 : Int64) (q2 : Int32) (q3 : Int32) (q4 : Int32) (q5 : Int64) : Int32 := (own_law_ret_j69_5 q0 q1 q2 q3 q4 q5)
def own_law_ret_j43_3 (q0 : Int32) (q1 : Int64) (q2 : Int32) (q3 : Int32) (q4 : Int32) (q5 : Int64) : Int32 := (own_law_ret_j55_4 q0 q1 q2 q3 q4 q5)
def own_law_ret_j27_2 (q0 : Int32) (q1 : Int64) (q2 : Int32) (q3 : Int32) (q4 : Int32) (q5 : Int64) : Int32 := (own_law_ret_j43_3 q0 q1 q2 q3 q4 q5)
def own_law_ret_j13_1 (q0 : Int32) (q1 : Int64) (q2 : Int32) (q3 : Int32) (q4 : Int32) (q5 : Int64) : Int32 := (own_law_ret_j27_2 q0 q1 q2 q3 q4 q5)
def own_law_ret (q0 : Int32) (q1 : Int64) (q2 : Int32) (q3 : Int32) (q4 : Int32) (q5 : Int64) : Int32 := (own_law_ret_j13_1 q0 q1 q2 q3 q4 q5)
def Q0 (Z : State) (q0 : Int32) (q1 : Int64) (q2 : Int32) (q3 : Int32) (q4 : Int32) (q5 : Int64) (h0 : Heap) (n0 : Nat) (v : Option Value) (h : Heap) (L : List Loc) : Prop := v = some (.int (own_law_ret q0 q1 q2 q3 q4 q5)) ∧ Fr n0 L
set_option maxRecDepth 65536 in
set_option maxHeartbeats 40000000 in
theorem rm0 (l : Launch) (Z : State) (a0 : Array Value) (hw : ∀ d ∈ tables_1, d.before a0 Z = true) (ws : List Jvm.Cond) (q0 : Int32) (q1 : Int64) (q2 : Int32) (q3 : Int32) (q4 : Int32) (q5 : Int64) (h0 : Heap) (n0 : Nat) (Z0 : n0 ≤ h0.size)  :
    Con l x code maxLocals ret ws room_1 #[(.int q0), (.long q1), (.int q2), (.int q3), (.int q4), (.long q5)] Z h0 (Q0 Z q0 q1 q2 q3 q4 q5 h0 n0) 1 4 := by
  refine own_body (plainFor_of_name pn_0) ?_
  intro p e s m below meth c s₁ hx hby hlk hml hown hnm hrt hZ X0 e0
  have w : ∀ (k : Nat) (d : Jvm.Cond), tables_1[k]? = some d → d.before a0 Z = true := fun k d h => hw d (List.mem_of_getElem? h)
  have N0 := Fr.nil n0
  have hml : c.maxLocals = 21 := hml
  rw [ef_0]
  generalize hOWE : Owe s _ _ _ = OWE
  refine o_lload X0 hx (hb hby at_0) (pc' := 2) rfl rfl ?_
  refine o_l2i X0 hx (hb hby at_2) (pc' := 3) rfl ?_
  refine o_istore X0 hx (hb hby at_3) (pc' := 5) rfl (L' := #[.val (.int q0), .val (.long q1), .second, .val (.int q2), .val (.int q3), .val (.int q4), .val (.long q5), .second, .val (.int (q5.toInt32)), .unset, .unset, .unset, .unset, .unset, .unset, .unset, .unset, .unset, .unset, .unset, .unset]) rfl ?_
  refine o_iload X0 hx (hb hby at_5) (pc' := 7) rfl rfl ?_
  have J13_1 : ∀ (z0 : Int32), z0 = (own_law_v13_1_L8 q0 q1 q2 q3 q4 q5) → Go p e below OWE (s₁.setTop (mkF m 13 #[.val (.int q0), .val (.long q1), .second, .val (.int q2), .val (.int q3), .val (.int q4), .val (.long q5), .second, .val (.int z0), .unset, .unset, .unset, .unset, .unset, .unset, .unset, .unset, .unset, .unset, .unset, .unset] [])) := by
    intro z0 yy0
    subst yy0
    refine o_lload X0 hx (hb hby at_13) (pc' := 15) rfl rfl ?_
    refine o_lstore X0 hx (hb hby at_15) (pc' := 17) rfl (L' := #[.val (.int q0), .val (.long q1), .second, .val (.int q2), .val (.int q3), .val (.int q4), .val (.long q5), .second, .val (.int (own_law_v13_1_L8 q0 q1 q2 q3 q4 q5)), .val (.long q5), .second, .unset, .unset, .unset, .unset, .unset, .unset, .unset, .unset, .unset, .unset]) rfl ?_
    refine o_lload X0 hx (hb hby at_17) (pc' := 19) rfl rfl ?_
    refine o_lconst X0 hx (0 : Int64) (hb hby at_19) (pc' := 20) rfl (by decide) ?_
    refine o_lcmp X0 hx (hb hby at_20) (pc' := 21) rfl ?_
    have J27_2 : ∀ (z0 : Int64), z0 = (own_law_v27_2_L9 q0 q1 q2 q3 q4 q5) → Go p e below OWE (s₁.setTop (mkF m 27 #[.val (.int q0), .val (.long q1), .second, .val (.int q2), .val (.int q3), .val (.int q4), .val (.long q5), .second, .val (.int (own_law_v13_1_L8 q0 q1 q2 q3 q4 q5)), .val (.long z0), .second, .unset, .unset, .unset, .unset, .unset, .unset, .unset, .unset, .unset, .unset] [])) := by
      intro z0 yy0
      subst yy0
      refine o_lload X0 hx (hb hby at_27) (pc' := 29) rfl rfl ?_
      refine o_bipush X0 hx (32 : Int32) (hb hby at_29) (pc' := 31) rfl (by decide) ?_
      refine o_lushr X0 hx (hb hby at_31) (pc' := 32) rfl ?_
      refine o_l2i X0 hx (hb hby at_32) (pc' := 33) rfl ?_
      refine o_istore X0 hx (hb hby at_33) (pc' := 35) rfl (L' := #[.val (.int q0), .val (.long q1), .second, .val (.int q2), .val (.int q3), .val (.int q4), .val (.long q5), .second, .val (.int (own_law_v13_1_L8 q0 q1 q2 q3 q4 q5)), .val (.long (own_law_v27_2_L9 q0 q1 q2 q3 q4 q5)), .second, .val (.int ((uL q5 (32 : Int32)).toInt32)), .unset, .unset, .unset, .unset, .unset, .unset, .unset, .unset, .unset]) rfl ?_
      refine o_iload X0 hx (hb hby at_35) (pc' := 37) rfl rfl ?_
      have J43_3 : ∀ (z0 : Int32), z0 = (own_law_v43_3_L11 q0 q1 q2 q3 q4 q5) → Go p e below OWE (s₁.setTop (mkF m 43 #[.val (.int q0), .val (.long q1), .second, .val (.int q2), .val (.int q3), .val (.int q4), .val (.long q5), .second, .val (.int (own_law_v13_1_L8 q0 q1 q2 q3 q4 q5)), .val (.long (own_law_v27_2_L9 q0 q1 q2 q3 q4 q5)), .second, .val (.int z0), .unset, .unset, .unset, .unset, .unset, .unset, .unset, .unset, .unset] [])) := by
        intro z0 yy0
        subst yy0
        refine o_iload X0 hx (hb hby at_43) (pc' := 45) rfl rfl ?_
        refine o_iconst X0 hx (1 : Int32) (hb hby at_45) (pc' := 46) rfl (by decide) ?_
        refine o_iand X0 hx (hb hby at_46) (pc' := 47) rfl ?_
        have J55_4 : ∀ (z0 : Int32), z0 = (own_law_v55_4_S0 q0 q1 q2 q3 q4 q5) → Go p e below OWE (s₁.setTop (mkF m 55 #[.val (.int q0), .val (.long q1), .second, .val (.int q2), .val (.int q3), .val (.int q4), .val (.long q5), .second, .val (.int (own_law_v13_1_L8 q0 q1 q2 q3 q4 q5)), .val (.long (own_law_v27_2_L9 q0 q1 q2 q3 q4 q5)), .second, .val (.int (own_law_v43_3_L11 q0 q1 q2 q3 q4 q5)), .unset, .unset, .unset, .unset, .unset, .unset, .unset, .unset, .unset] [.int z0])) := by
          intro z0 yy0
          subst yy0
          refine o_istore X0 hx (hb hby at_55) (pc' := 57) rfl (L' := #[.val (.int q0), .val (.long q1), .second, .val (.int q2), .val (.int q3), .val (.int q4), .val (.long q5), .second, .val (.int (own_law_v13_1_L8 q0 q1 q2 q3 q4 q5)), .val (.long (own_law_v27_2_L9 q0 q1 q2 q3 q4 q5)), .second, .val (.int (own_law_v43_3_L11 q0 q1 q2 q3 q4 q5)), .val (.int (own_law_v55_4_S0 q0 q1 q2 q3 q4 q5)), .unset, .unset, .unset, .unset, .unset, .unset, .unset, .unset]) rfl ?_
          refine o_iload X0 hx (hb hby at_57) (pc' := 59) rfl rfl ?_
          refine o_iconst X0 hx (2 : Int32) (hb hby at_59) (pc' := 60) rfl (by decide) ?_
          refine o_iand X0 hx (hb hby at_60) (pc' := 61) rfl ?_
          have J69_5 : ∀ (z0 : Int32), z0 = (own_law_v69_5_S0 q0 q1 q2 q3 q4 q5) → Go p e below OWE (s₁.setTop (mkF m 69 #[.val (.int q0), .val (.long q1), .second, .val (.int q2), .val (.int q3), .val (.int q4), .val (.long q5), .second, .val (.int (own_law_v13_1_L8 q0 q1 q2 q3 q4 q5)), .val (.long (own_law_v27_2_L9 q0 q1 q2 q3 q4 q5)), .second, .val (.int (own_law_v43_3_L11 q0 q1 q2 q3 q4 q5)), .val (.int (own_law_v55_4_S0 q0 q1 q2 q3 q4 q5)), .unset, .unset, .unset, .unset, .unset, .unset, .unset, .unset] [.int z0])) := by
            intro z0 yy0
            subst yy0
            refine o_istore X0 hx (hb hby at_69) (pc' := 71) rfl (L' := #[.val (.int q0), .val (.long q1), .second, .val (.int q2), .val (.int q3), .val (.int q4), .val (.long q5), .second, .val (.int (own_law_v13_1_L8 q0 q1 q2 q3 q4 q5)), .val (.long (own_law_v27_2_L9 q0 q1 q2 q3 q4 q5)), .second, .val (.int (own_law_v43_3_L11 q0 q1 q2 q3 q4 q5)), .val (.int (own_law_v55_4_S0 q0 q1 q2 q3 q4 q5)), .val (.int (own_law_v69_5_S0 q0 q1 q2 q3 q4 q5)), .unset, .unset, .unset, .unset, .unset, .unset, .unset]) rfl ?_
            refine o_iload X0 hx (hb hby at_71) (pc' := 73) rfl rfl ?_
            refine o_iconst X0 hx (4 : Int32) (hb hby at_73) (pc' := 74) rfl (by decide) ?_
            refine o_iand X0 hx (hb hby at_74) (pc' := 75) rfl ?_
            have J83_6 : ∀ (z0 : Int32), z0 = (own_law_v83_6_S0 q0 q1 q2 q3 q4 q5) → Go p e below OWE (s₁.setTop (mkF m 83 #[.val (.int q0), .val (.long q1), .second, .val (.int q2), .val (.int q3), .val (.int q4), .val (.long q5), .second, .val (.int (own_law_v13_1_L8 q0 q1 q2 q3 q4 q5)), .val (.long (own_law_v27_2_L9 q0 q1 q2 q3 q4 q5)), .second, .val (.int (own_law_v43_3_L11 q0 q1 q2 q3 q4 q5)), .val (.int (own_law_v55_4_S0 q0 q1 q2 q3 q4 q5)), .val (.int (own_law_v69_5_S0 q0 q1 q2 q3 q4 q5)), .unset, .unset, .unset, .unset, .unset, .unset, .unset] [.int z0])) := by
              intro z0 yy0
              subst yy0
              refine o_istore X0 hx (hb hby at_83) (pc' := 85) rfl (L' := #[.val (.int q0), .val (.long q1), .second, .val (.int q2), .val (.int q3), .val (.int q4), .val (.long q5), .second, .val (.int (own_law_v13_1_L8 q0 q1 q2 q3 q4 q5)), .val (.long (own_law_v27_2_L9 q0 q1 q2 q3 q4 q5)), .second, .val (.int (own_law_v43_3_L11 q0 q1 q2 q3 q4 q5)), .val (.int (own_law_v55_4_S0 q0 q1 q2 q3 q4 q5)), .val (.int (own_law_v69_5_S0 q0 q1 q2 q3 q4 q5)), .val (.int (own_law_v83_6_S0 q0 q1 q2 q3 q4 q5)), .unset, .unset, .unset, .unset, .unset, .unset]) rfl ?_
              refine o_iload X0 hx (hb hby at_85) (pc' := 87) rfl rfl ?_
              have J98_7 : ∀ (z0 : Int32), z0 = (own_law_v98_7_S0 q0 q1 q2 q3 q4 q5) → Go p e below OWE (s₁.setTop (mkF m 98 #[.val (.int q0), .val (.long q1), .second, .val (.int q2), .val (.int q3), .val (.int q4), .val (.long q5), .second, .val (.int (own_law_v13_1_L8 q0 q1 q2 q3 q4 q5)), .val (.long (own_law_v27_2_L9 q0 q1 q2 q3 q4 q5)), .second, .val (.int (own_law_v43_3_L11 q0 q1 q2 q3 q4 q5)), .val (.int (own_law_v55_4_S0 q0 q1 q2 q3 q4 q5)), .val (.int (own_law_v69_5_S0 q0 q1 q2 q3 q4 q5)), .val (.int (own_law_v83_6_S0 q0 q1 q2 q3 q4 q5)), .unset, .unset, .unset, .unset, .unset, .unset] [.int z0])) := by
                intro z0 yy0
                subst yy0
                refine o_istore X0 hx (hb hby at_98) (pc' := 100) rfl (L' := #[.val (.int q0), .val (.long q1), .second, .val (.int q2), .val (.int q3), .val (.int q4), .val (.long q5), .second, .val (.int (own_law_v13_1_L8 q0 q1 q2 q3 q4 q5)), .val (.long (own_law_v27_2_L9 q0 q1 q2 q3 q4 q5)), .second, .val (.int (own_law_v43_3_L11 q0 q1 q2 q3 q4 q5)), .val (.int (own_law_v55_4_S0 q0 q1 q2 q3 q4 q5)), .val (.int (own_law_v69_5_S0 q0 q1 q2 q3 q4 q5)), .val (.int (own_law_v83_6_S0 q0 q1 q2 q3 q4 q5)), .val (.int (own_law_v98_7_S0 q0 q1 q2 q3 q4 q5)), .unset, .unset, .unset, .unset, .unset]) rfl ?_
                refine o_iload X0 hx (hb hby at_100) (pc' := 102) rfl rfl ?_
                have J113_8 : ∀ (z0 : Int64), z0 = (own_law_v113_8_S0 q0 q1 q2 q3 q4 q5) → Go p e below OWE (s₁.setTop (mkF m 113 #[.val (.int q0), .val (.long q1), .second, .val (.int q2), .val (.int q3), .val (.int q4), .val (.long q5), .second, .val (.int (own_law_v13_1_L8 q0 q1 q2 q3 q4 q5)), .val (.long (own_law_v27_2_L9 q0 q1 q2 q3 q4 q5)), .second, .val (.int (own_law_v43_3_L11 q0 q1 q2 q3 q4 q5)), .val (.int (own_law_v55_4_S0 q0 q1 q2 q3 q4 q5)), .val (.int (own_law_v69_5_S0 q0 q1 q2 q3 q4 q5)), .val (.int (own_law_v83_6_S0 q0 q1 q2 q3 q4 q5)), .val (.int (own_law_v98_7_S0 q0 q1 q2 q3 q4 q5)), .unset, .unset, .unset, .unset, .unset] [.long z0])) := by
                  intro z0 yy0
                  subst yy0
                  refine o_lstore X0 hx (hb hby at_113) (pc' := 115) rfl (L' := #[.val (.int q0), .val (.long q1), .second, .val (.int q2), .val (.int q3), .val (.int q4), .val (.long q5), .second, .val (.int (own_law_v13_1_L8 q0 q1 q2 q3 q4 q5)), .val (.long (own_law_v27_2_L9 q0 q1 q2 q3 q4 q5)), .second, .val (.int (own_law_v43_3_L11 q0 q1 q2 q3 q4 q5)), .val (.int (own_law_v55_4_S0 q0 q1 q2 q3 q4 q5)), .val (.int (own_law_v69_5_S0 q0 q1 q2 q3 q4 q5)), .val (.int (own_law_v83_6_S0 q0 q1 q2 q3 q4 q5)), .val (.int (own_law_v98_7_S0 q0 q1 q2 q3 q4 q5)), .val (.long (own_law_v113_8_S0 q0 q1 q2 q3 q4 q5)), .second, .unset, .unset, .unset]) rfl ?_
                  refine o_iload X0 hx (hb hby at_115) (pc' := 117) rfl rfl ?_
                  have J128_9 : ∀ (z0 : Int32), z0 = (own_law_v128_9_S0 q0 q1 q2 q3 q4 q5) → Go p e below OWE (s₁.setTop (mkF m 128 #[.val (.int q0), .val (.long q1), .second, .val (.int q2), .val (.int q3), .val (.int q4), .val (.long q5), .second, .val (.int (own_law_v13_1_L8 q0 q1 q2 q3 q4 q5)), .val (.long (own_law_v27_2_L9 q0 q1 q2 q3 q4 q5)), .second, .val (.int (own_law_v43_3_L11 q0 q1 q2 q3 q4 q5)), .val (.int (own_law_v55_4_S0 q0 q1 q2 q3 q4 q5)), .val (.int (own_law_v69_5_S0 q0 q1 q2 q3 q4 q5)), .val (.int (own_law_v83_6_S0 q0 q1 q2 q3 q4 q5)), .val (.int (own_law_v98_7_S0 q0 q1 q2 q3 q4 q5)), .val (.long (own_law_v113_8_S0 q0 q1 q2 q3 q4 q5)), .second, .unset, .unset, .unset] [.int z0])) := by
                    intro z0 yy0
                    subst yy0
                    refine o_istore X0 hx (hb hby at_128) (pc' := 130) rfl (L' := #[.val (.int q0), .val (.long q1), .second, .val (.int q2), .val (.int q3), .val (.int q4), .val (.long q5), .second, .val (.int (own_law_v13_1_L8 q0 q1 q2 q3 q4 q5)), .val (.long (own_law_v27_2_L9 q0 q1 q2 q3 q4 q5)), .second, .val (.int (own_law_v43_3_L11 q0 q1 q2 q3 q4 q5)), .val (.int (own_law_v55_4_S0 q0 q1 q2 q3 q4 q5)), .val (.int (own_law_v69_5_S0 q0 q1 q2 q3 q4 q5)), .val (.int (own_law_v83_6_S0 q0 q1 q2 q3 q4 q5)), .val (.int (own_law_v98_7_S0 q0 q1 q2 q3 q4 q5)), .val (.long (own_law_v113_8_S0 q0 q1 q2 q3 q4 q5)), .second, .val (.int (own_law_v128_9_S0 q0 q1 q2 q3 q4 q5)), .unset, .unset]) rfl ?_
                    refine o_new X0 hx hZ hown (w 0 _ rfl) (w 1 _ rfl) (w 2 _ rfl) e0 (hb hby at_130) (pc' := 133) rfl (cells' := 1) rfl (slots' := 4) rfl (by decide) (by decide) ?_
                    intro T10 h10 b10 qa10 X10 e10 Ex10 A10 D10
                    have g_b10 : n0 ≤ b10 := by rw [qa10]; exact Z0
                    have Z10 : n0 ≤ h10.size := Nat.le_trans Z0 Ex10.1
                    have D10_hash : Fld Z h10 b10 "com/example/keelstore/keelstore/IndexFile$IndexEntry" "hash" "I" (.int (0 : Int32)) := D10 (Or.inr (w 15 _ rfl)) (ty := .int) (by decide)
                    have D10_commitLogOffset : Fld Z h10 b10 "com/example/keelstore/keelstore/IndexFile$IndexEntry" "commitLogOffset" "J" (.long (0 : Int64)) := D10 (Or.inr (w 17 _ rfl)) (ty := .long) (by decide)
                    have D10_seconds : Fld Z h10 b10 "com/example/keelstore/keelstore/IndexFile$IndexEntry" "seconds" "I" (.int (0 : Int32)) := D10 (Or.inr (w 19 _ rfl)) (ty := .int) (by decide)
                    have D10_previous : Fld Z h10 b10 "com/example/keelstore/keelstore/IndexFile$IndexEntry" "previous" "I" (.int (0 : Int32)) := D10 (Or.inr (w 21 _ rfl)) (ty := .int) (by decide)
                    refine o_dup X10 hx (hb hby at_133) (pc' := 134) rfl rfl ?_
                    refine o_iloadN X10 hx (hb hby at_134) (pc' := 135) rfl rfl ?_
                    refine o_lloadN X10 hx (hb hby at_135) (pc' := 136) rfl rfl ?_
                    refine o_iloadN X10 hx (hb hby at_136) (pc' := 137) rfl rfl ?_
                    refine o_iload X10 hx (hb hby at_137) (pc' := 139) rfl rfl ?_
                    refine o_callI X10 hx hZ 1 (argsL := [.int q0, .long q1, .int q2, .int q3]) (rest := [.ref b10]) (a := b10) rfl hown (w 3 _ rfl) (w 4 _ rfl) (w 2 _ rfl) (w 5 _ rfl) (by decide) (rm1 l Z a0 hw [] b10 (.int (0 : Int32)) (.long (0 : Int64)) (.int (0 : Int32)) (.int (0 : Int32)) q0 q1 q2 q3 h10 n0 Z10 A10 D10_hash D10_commitLogOffset D10_seconds D10_previous g_b10) (by decide) (by decide) (cells' := 1) rfl (slots' := 4) rfl (by decide) (by decide) e10 (by rw [hml]; rfl) (lenOf pd_1 rfl) rfl rfl (hb hby at_139) (pc' := 142) rfl ?_
                    intro T12 v12 L12 X12 hQ12
                    obtain ⟨rfl, Nq12, Kq12, P12_0, P12_1, P12_2, P12_3, P12_4⟩ := hQ12
                    have N12 := Fr.app N0 Nq12
                    have Z12 : n0 ≤ T12.heap.size := Nat.le_trans Z10 Kq12.1
                    show Go p e below _ (T12.setTop (mkF m 142 _ [.ref b10]))
                    refine o_astore X12 hx (hb hby at_142) (pc' := 144) rfl (L' := #[.val (.int q0), .val (.long q1), .second, .val (.int q2), .val (.int q3), .val (.int q4), .val (.long q5), .second, .val (.int (own_law_v13_1_L8 q0 q1 q2 q3 q4 q5)), .val (.long (own_law_v27_2_L9 q0 q1 q2 q3 q4 q5)), .second, .val (.int (own_law_v43_3_L11 q0 q1 q2 q3 q4 q5)), .val (.int (own_law_v55_4_S0 q0 q1 q2 q3 q4 q5)), .val (.int (own_law_v69_5_S0 q0 q1 q2 q3 q4 q5)), .val (.int (own_law_v83_6_S0 q0 q1 q2 q3 q4 q5)), .val (.int (own_law_v98_7_S0 q0 q1 q2 q3 q4 q5)), .val (.long (own_law_v113_8_S0 q0 q1 q2 q3 q4 q5)), .second, .val (.int (own_law_v128_9_S0 q0 q1 q2 q3 q4 q5)), .val (.ref b10), .unset]) rfl rfl ?_
                    refine o_iload X12 hx (hb hby at_144) (pc' := 146) rfl rfl ?_
                    have J164_10 : ∀ (z0 : Int32), z0 = (own_law_v164_10_S0 q0 q1 q2 q3 q4 q5) → Go p e below OWE (T12.setTop (mkF m 164 #[.val (.int q0), .val (.long q1), .second, .val (.int q2), .val (.int q3), .val (.int q4), .val (.long q5), .second, .val (.int (own_law_v13_1_L8 q0 q1 q2 q3 q4 q5)), .val (.long (own_law_v27_2_L9 q0 q1 q2 q3 q4 q5)), .second, .val (.int (own_law_v43_3_L11 q0 q1 q2 q3 q4 q5)), .val (.int (own_law_v55_4_S0 q0 q1 q2 q3 q4 q5)), .val (.int (own_law_v69_5_S0 q0 q1 q2 q3 q4 q5)), .val (.int (own_law_v83_6_S0 q0 q1 q2 q3 q4 q5)), .val (.int (own_law_v98_7_S0 q0 q1 q2 q3 q4 q5)), .val (.long (own_law_v113_8_S0 q0 q1 q2 q3 q4 q5)), .second, .val (.int (own_law_v128_9_S0 q0 q1 q2 q3 q4 q5)), .val (.ref b10), .unset] [.int z0])) := by
                      intro z0 yy0
                      subst yy0
                      refine o_istore X12 hx (hb hby at_164) (pc' := 166) rfl (L' := #[.val (.int q0), .val (.long q1), .second, .val (.int q2), .val (.int q3), .val (.int q4), .val (.long q5), .second, .val (.int (own_law_v13_1_L8 q0 q1 q2 q3 q4 q5)), .val (.long (own_law_v27_2_L9 q0 q1 q2 q3 q4 q5)), .second, .val (.int (own_law_v43_3_L11 q0 q1 q2 q3 q4 q5)), .val (.int (own_law_v55_4_S0 q0 q1 q2 q3 q4 q5)), .val (.int (own_law_v69_5_S0 q0 q1 q2 q3 q4 q5)), .val (.int (own_law_v83_6_S0 q0 q1 q2 q3 q4 q5)), .val (.int (own_law_v98_7_S0 q0 q1 q2 q3 q4 q5)), .val (.long (own_law_v113_8_S0 q0 q1 q2 q3 q4 q5)), .second, .val (.int (own_law_v128_9_S0 q0 q1 q2 q3 q4 q5)), .val (.ref b10), .val (.int (own_law_v164_10_S0 q0 q1 q2 q3 q4 q5))]) rfl ?_
                      refine o_aload X12 hx (hb hby at_166) (pc' := 168) rfl rfl rfl ?_
                      refine o_iload X12 hx (hb hby at_168) (pc' := 170) rfl rfl ?_
                      refine o_lload X12 hx (hb hby at_170) (pc' := 172) rfl rfl ?_
                      refine o_iload X12 hx (hb hby at_172) (pc' := 174) rfl rfl ?_
                      refine o_callV X12 hx hZ 0 (argsL := [.int (own_law_v98_7_S0 q0 q1 q2 q3 q4 q5), .long (own_law_v113_8_S0 q0 q1 q2 q3 q4 q5), .int (own_law_v128_9_S0 q0 q1 q2 q3 q4 q5)]) (rest := []) (a := b10) hown (w 22 _ rfl) (w 23 _ rfl) (w 25 _ rfl) (w 24 _ rfl) (w 2 _ rfl) (w 26 _ rfl) (by decide) (rm4 l Z a0 hw [] b10 q0 q1 q2 (own_law_v98_7_S0 q0 q1 q2 q3 q4 q5) (own_law_v113_8_S0 q0 q1 q2 q3 q4 q5) (own_law_v128_9_S0 q0 q1 q2 q3 q4 q5) T12.heap n0 Z12 P12_1 P12_2 P12_3) P12_0 (by decide) (by decide) (cells' := 1) rfl (slots' := 4) rfl (by decide) (by decide) rfl (by rw [hml]; rfl) (lenOf pd_2 rfl) rfl rfl (hb hby at_174) (pc' := 177) rfl ?_
                      intro T15 v15 L15 X15 hQ15
                      obtain ⟨rfl, Nq15, e15⟩ := hQ15
                      have N15 := Fr.app N12 Nq15
                      show Go p e below _ (T15.setTop (mkF m 177 _ [.int (own_f4_ret q0 q1 q2 (own_law_v98_7_S0 q0 q1 q2 q3 q4 q5) (own_law_v113_8_S0 q0 q1 q2 q3 q4 q5) (own_law_v128_9_S0 q0 q1 q2 q3 q4 q5))]))
                      refine o_iload X15 hx (hb hby at_177) (pc' := 179) rfl rfl ?_
                      by_cases hc179_16 : (own_f4_ret q0 q1 q2 (own_law_v98_7_S0 q0 q1 q2 q3 q4 q5) (own_law_v113_8_S0 q0 q1 q2 q3 q4 q5) (own_law_v128_9_S0 q0 q1 q2 q3 q4 q5)) = (own_law_v164_10_S0 q0 q1 q2 q3 q4 q5)
                      · refine o_cmpN X15 hx (hb hby at_179) (teq hc179_16).2 (pc' := 182) rfl ?_
                        refine o_iconst X15 hx (1 : Int32) (hb hby at_182) (pc' := 183) rfl (by decide) ?_
                        refine o_goto X15 hx (hb hby at_183) (by decide) (pc' := 187) (by decide) ?_
                        rw [← hOWE]
                        exact o_retZ X15 hx rfl hlk hrt (hb hby at_187) (by decide) (by decide) (by rw [e15]; exact ⟨(by rw [own_law_ret, own_law_ret_j13_1, own_law_ret_j27_2, own_law_ret_j43_3, own_law_ret_j55_4, own_law_ret_j69_5, own_law_ret_j83_6, own_law_ret_j98_7, own_law_ret_j113_8, own_law_ret_j128_9, own_law_ret_j164_10, if_pos hc179_16]), N15⟩)
                      · refine o_cmpY X15 hx (hb hby at_179) (feq hc179_16).2 (by decide) (pc' := 186) (by decide) ?_
                        refine o_iconst X15 hx (0 : Int32) (hb hby at_186) (pc' := 187) rfl (by decide) ?_
                        rw [← hOWE]
                        exact o_retZ X15 hx rfl hlk hrt (hb hby at_187) (by decide) (by decide) (by rw [e15]; exact ⟨(by rw [own_law_ret, own_law_ret_j13_1, own_law_ret_j27_2, own_law_ret_j43_3, own_law_ret_j55_4, own_law_ret_j69_5, own_law_ret_j83_6, own_law_ret_j98_7, own_law_ret_j113_8, own_law_ret_j128_9, own_law_ret_j164_10, if_neg hc179_16]), N15⟩)
                    by_cases hc146_14 : (own_law_v55_4_S0 q0 q1 q2 q3 q4 q5) = (0 : Int32)
                    · refine o_ifN X12 hx (hb hby at_146) (teq hc146_14).2 (pc' := 149) rfl ?_
                      refine o_iload X12 hx (hb hby at_149) (pc' := 151) rfl rfl ?_
                      by_cases hc151_17 : (own_law_v69_5_S0 q0 q1 q2 q3 q4 q5) = (0 : Int32)
                      · refine o_ifN X12 hx (hb hby at_151) (teq hc151_17).2 (pc' := 154) rfl ?_
                        refine o_iload X12 hx (hb hby at_154) (pc' := 156) rfl rfl ?_
                        by_cases hc156_18 : (own_law_v83_6_S0 q0 q1 q2 q3 q4 q5) = (0 : Int32)
                        · refine o_ifN X12 hx (hb hby at_156) (teq hc156_18).2 (pc' := 159) rfl ?_
                          refine o_iconst X12 hx (1 : Int32) (hb hby at_159) (pc' := 160) rfl (by decide) ?_
                          refine o_goto X12 hx (hb hby at_160) (by decide) (pc' := 164) (by decide) ?_
                          exact J164_10 ((1 : Int32)) (by rw [own_law_v164_10_S0, if_pos hc146_14, if_pos hc151_17, if_pos hc156_18])
                        · refine o_ifY X12 hx (hb hby at_156) (feq hc156_18).2 (by decide) (pc' := 163) (by decide) ?_
                          refine o_iconst X12 hx (0 : Int32) (hb hby at_163) (pc' := 164) rfl (by decide) ?_
                          exact J164_10 ((0 : Int32)) (by rw [own_law_v164_10_S0, if_pos hc146_14, if_pos hc151_17, if_neg hc156_18])
                      · refine o_ifY X12 hx (hb hby at_151) (feq hc151_17).2 (by decide) (pc' := 163) (by decide) ?_
                        refine o_iconst X12 hx (0 : Int32) (hb hby at_163) (pc' := 164) rfl (by decide) ?_
                        exact J164_10 ((0 : Int32)) (by rw [own_law_v164_10_S0, if_pos hc146_14, if_neg hc151_17])
                    · refine o_ifY X12 hx (hb hby at_146) (feq hc146_14).2 (by decide) (pc' := 163) (by decide) ?_
                      refine o_iconst X12 hx (0 : Int32) (hb hby at_163) (pc' := 164) rfl (by decide) ?_
                      exact J164_10 ((0 : Int32)) (by rw [own_law_v164_10_S0, if_neg hc146_14])
                  by_cases hc117_9 : (own_law_v83_6_S0 q0 q1 q2 q3 q4 q5) = (0 : Int32)
                  · refine o_ifY X0 hx (hb hby at_117) (teq hc117_9).1 (by decide) (pc' := 127) (by decide) ?_
                    refine o_iloadN X0 hx (hb hby at_127) (pc' := 128) rfl rfl ?_
                    exact J128_9 (q2) (by rw [own_law_v128_9_S0, if_pos hc117_9])
                  · refine o_ifN X0 hx (hb hby at_117) (feq hc117_9).1 (pc' := 120) rfl ?_
                    refine o_iloadN X0 hx (hb hby at_120) (pc' := 121) rfl rfl ?_
                    refine o_iload X0 hx (hb hby at_121) (pc' := 123) rfl rfl ?_
                    refine o_iadd X0 hx (hb hby at_123) (pc' := 124) rfl ?_
                    refine o_goto X0 hx (hb hby at_124) (by decide) (pc' := 128) (by decide) ?_
                    exact J128_9 ((q2 + (own_law_v43_3_L11 q0 q1 q2 q3 q4 q5))) (by rw [own_law_v128_9_S0, if_neg hc117_9])
                by_cases hc102_8 : (own_law_v69_5_S0 q0 q1 q2 q3 q4 q5) = (0 : Int32)
                · refine o_ifY X0 hx (hb hby at_102) (teq hc102_8).1 (by decide) (pc' := 112) (by decide) ?_
                  refine o_lloadN X0 hx (hb hby at_112) (pc' := 113) rfl rfl ?_
                  exact J113_8 (q1) (by rw [own_law_v113_8_S0, if_pos hc102_8])
                · refine o_ifN X0 hx (hb hby at_102) (feq hc102_8).1 (pc' := 105) rfl ?_
                  refine o_lloadN X0 hx (hb hby at_105) (pc' := 106) rfl rfl ?_
                  refine o_lload X0 hx (hb hby at_106) (pc' := 108) rfl rfl ?_
                  refine o_ladd X0 hx (hb hby at_108) (pc' := 109) rfl ?_
                  refine o_goto X0 hx (hb hby at_109) (by decide) (pc' := 113) (by decide) ?_
                  exact J113_8 ((q1 + (own_law_v27_2_L9 q0 q1 q2 q3 q4 q5))) (by rw [own_law_v113_8_S0, if_neg hc102_8])
              by_cases hc87_7 : (own_law_v55_4_S0 q0 q1 q2 q3 q4 q5) = (0 : Int32)
              · refine o_ifY X0 hx (hb hby at_87) (teq hc87_7).1 (by decide) (pc' := 97) (by decide) ?_
                refine o_iloadN X0 hx (hb hby at_97) (pc' := 98) rfl rfl ?_
                exact J98_7 (q0) (by rw [own_law_v98_7_S0, if_pos hc87_7])
              · refine o_ifN X0 hx (hb hby at_87) (feq hc87_7).1 (pc' := 90) rfl ?_
                refine o_iloadN X0 hx (hb hby at_90) (pc' := 91) rfl rfl ?_
                refine o_iload X0 hx (hb hby at_91) (pc' := 93) rfl rfl ?_
                refine o_iadd X0 hx (hb hby at_93) (pc' := 94) rfl ?_
                refine o_goto X0 hx (hb hby at_94) (by decide) (pc' := 98) (by decide) ?_
                exact J98_7 ((q0 + (own_law_v13_1_L8 q0 q1 q2 q3 q4 q5))) (by rw [own_law_v98_7_S0, if_neg hc87_7])
            by_cases hc75_6 : (q4 &&& (4 : Int32)) = (0 : Int32)
            · refine o_ifY X0 hx (hb hby at_75) (teq hc75_6).1 (by decide) (pc' := 82) (by decide) ?_
              refine o_iconst X0 hx (0 : Int32) (hb hby at_82) (pc' := 83) rfl (by decide) ?_
              exact J83_6 ((0 : Int32)) (by rw [own_law_v83_6_S0, if_pos hc75_6])
            · refine o_ifN X0 hx (hb hby at_75) (feq hc75_6).1 (pc' := 78) rfl ?_
              refine o_iconst X0 hx (1 : Int32) (hb hby at_78) (pc' := 79) rfl (by decide) ?_
              refine o_goto X0 hx (hb hby at_79) (by decide) (pc' := 83) (by decide) ?_
              exact J83_6 ((1 : Int32)) (by rw [own_law_v83_6_S0, if_neg hc75_6])
          by_cases hc61_5 : (q4 &&& (2 : Int32)) = (0 : Int32)
          · refine o_ifY X0 hx (hb hby at_61) (teq hc61_5).1 (by decide) (pc' := 68) (by decide) ?_
            refine o_iconst X0 hx (0 : Int32) (hb hby at_68) (pc' := 69) rfl (by decide) ?_
            exact J69_5 ((0 : Int32)) (by rw [own_law_v69_5_S0, if_pos hc61_5])
          · refine o_ifN X0 hx (hb hby at_61) (feq hc61_5).1 (pc' := 64) rfl ?_
            refine o_iconst X0 hx (1 : Int32) (hb hby at_64) (pc' := 65) rfl (by decide) ?_
            refine o_goto X0 hx (hb hby at_65) (by decide) (pc' := 69) (by decide) ?_
            exact J69_5 ((1 : Int32)) (by rw [own_law_v69_5_S0, if_neg hc61_5])
        by_cases hc47_4 : (q4 &&& (1 : Int32)) = (0 : Int32)
        · refine o_ifY X0 hx (hb hby at_47) (teq hc47_4).1 (by decide) (pc' := 54) (by decide) ?_
          refine o_iconst X0 hx (0 : Int32) (hb hby at_54) (pc' := 55) rfl (by decide) ?_
          exact J55_4 ((0 : Int32)) (by rw [own_law_v55_4_S0, if_pos hc47_4])
        · refine o_ifN X0 hx (hb hby at_47) (feq hc47_4).1 (pc' := 50) rfl ?_
          refine o_iconst X0 hx (1 : Int32) (hb hby at_50) (pc' := 51) rfl (by decide) ?_
          refine o_goto X0 hx (hb hby at_51) (by decide) (pc' := 55) (by decide) ?_
          exact J55_4 ((1 : Int32)) (by rw [own_law_v55_4_S0, if_neg hc47_4])
      by_cases hc37_3 : ((uL q5 (32 : Int32)).toInt32) = (0 : Int32)
      · refine o_ifN X0 hx (hb hby at_37) (teq hc37_3).2 (pc' := 40) rfl ?_
        refine o_iconst X0 hx (1 : Int32) (hb hby at_40) (pc' := 41) rfl (by decide) ?_
        refine o_istore X0 hx (hb hby at_41) (pc' := 43) rfl (L' := #[.val (.int q0), .val (.long q1), .second, .val (.int q2), .val (.int q3), .val (.int q4), .val (.long q5), .second, .val (.int (own_law_v13_1_L8 q0 q1 q2 q3 q4 q5)), .val (.long (own_law_v27_2_L9 q0 q1 q2 q3 q4 q5)), .second, .val (.int (1 : Int32)), .unset, .unset, .unset, .unset, .unset, .unset, .unset, .unset, .unset]) rfl ?_
        exact J43_3 ((1 : Int32)) (by rw [own_law_v43_3_L11, if_pos hc37_3])
      · refine o_ifY X0 hx (hb hby at_37) (feq hc37_3).2 (by decide) (pc' := 43) (by decide) ?_
        exact J43_3 (((uL q5 (32 : Int32)).toInt32)) (by rw [own_law_v43_3_L11, if_neg hc37_3])
    by_cases hc21_2 : q5 = (0 : Int64)
    · refine o_ifN X0 hx (hb hby at_21) (teqL hc21_2).2 (pc' := 24) rfl ?_
      refine o_lconst X0 hx (1 : Int64) (hb hby at_24) (pc' := 25) rfl (by decide) ?_
      refine o_lstore X0 hx (hb hby at_25) (pc' := 27) rfl (L' := #[.val (.int q0), .val (.long q1), .second, .val (.int q2), .val (.int q3), .val (.int q4), .val (.long q5), .second, .val (.int (own_law_v13_1_L8 q0 q1 q2 q3 q4 q5)), .val (.long (1 : Int64)), .second, .unset, .unset, .unset, .unset, .unset, .unset, .unset, .unset, .unset, .unset]) rfl ?_
      exact J27_2 ((1 : Int64)) (by rw [own_law_v27_2_L9, if_pos hc21_2])
    · refine o_ifY X0 hx (hb hby at_21) (feqL hc21_2).2 (by decide) (pc' := 27) (by decide) ?_
      exact J27_2 (q5) (by rw [own_law_v27_2_L9, if_neg hc21_2])
  by_cases hc7_1 : (q5.toInt32) = (0 : Int32)
  · refine o_ifN X0 hx (hb hby at_7) (teq hc7_1).2 (pc' := 10) rfl ?_
    refine o_iconst X0 hx (1 : Int32) (hb hby at_10) (pc' := 11) rfl (by decide) ?_
    refine o_istore X0 hx (hb hby at_11) (pc' := 13) rfl (L' := #[.val (.int q0), .val (.long q1), .second, .val (.int q2), .val (.int q3), .val (.int q4), .val (.long q5), .second, .val (.int (1 : Int32)), .unset, .unset, .unset, .unset, .unset, .unset, .unset, .unset, .unset, .unset, .unset, .unset]) rfl ?_
    exact J13_1 ((1 : Int32)) (by rw [own_law_v13_1_L8, if_pos hc7_1])
  · refine o_ifY X0 hx (hb hby at_7) (feq hc7_1).2 (by decide) (pc' := 13) (by decide) ?_
    exact J13_1 ((q5.toInt32)) (by rw [own_law_v13_1_L8, if_neg hc7_1])
theorem own_addI (x d : Int32) (h : d ≠ 0) : ¬ x = x + d := fun q => h (by
  have a := c_iadd x d
  have b := rng32 d
  rw [← q] at a
  apply Int32.toInt_inj.mp
  rw [show (0 : Int32).toInt = 0 from rfl]
  omega)
theorem own_addJ (x d : Int64) (h : d ≠ 0) : ¬ x = x + d := fun q => h (by
  have a := c_ladd x d
  have b := rng64 d
  rw [← q] at a
  apply Int64.toInt_inj.mp
  rw [show (0 : Int64).toInt = 0 from rfl]
  omega)
theorem own_nz1 (q0 : Int32) (q1 : Int64) (q2 q3 q4 : Int32) (q5 : Int64) : own_law_v13_1_L8 q0 q1 q2 q3 q4 q5 ≠ 0 := by
  unfold own_law_v13_1_L8
  split
  · decide
  · assumption
theorem own_nz2 (q0 : Int32) (q1 : Int64) (q2 q3 q4 : Int32) (q5 : Int64) : own_law_v27_2_L9 q0 q1 q2 q3 q4 q5 ≠ 0 := by
  unfold own_law_v27_2_L9
  split
  · decide
  · assumption
theorem own_nz3 (q0 : Int32) (q1 : Int64) (q2 q3 q4 : Int32) (q5 : Int64) : own_law_v43_3_L11 q0 q1 q2 q3 q4 q5 ≠ 0 := by
  unfold own_law_v43_3_L11
  split
  · decide
  · assumption
theorem own_main (q0 : Int32) (q1 : Int64) (q2 q3 q4 : Int32) (q5 : Int64) : own_law_ret q0 q1 q2 q3 q4 q5 = 1 := by
  unfold own_law_ret own_law_ret_j13_1 own_law_ret_j27_2 own_law_ret_j43_3 own_law_ret_j55_4 own_law_ret_j69_5 own_law_ret_j83_6 own_law_ret_j98_7 own_law_ret_j113_8 own_law_ret_j128_9 own_law_ret_j164_10
  rw [if_pos]
  have n1 := own_addI q0 _ (own_nz1 q0 q1 q2 q3 q4 q5)
  have n2 := own_addJ q1 _ (own_nz2 q0 q1 q2 q3 q4 q5)
  have n3 := own_addI q2 _ (own_nz3 q0 q1 q2 q3 q4 q5)
  unfold own_f4_ret own_law_v164_10_S0 own_law_v98_7_S0 own_law_v113_8_S0 own_law_v128_9_S0
  by_cases h1 : own_law_v55_4_S0 q0 q1 q2 q3 q4 q5 = 0
  · rw [if_pos h1, if_pos h1, if_pos rfl]
    by_cases h2 : own_law_v69_5_S0 q0 q1 q2 q3 q4 q5 = 0
    · rw [if_pos h2, if_pos h2, if_pos rfl]
      by_cases h3 : own_law_v83_6_S0 q0 q1 q2 q3 q4 q5 = 0
      · rw [if_pos h3, if_pos h3, if_pos rfl]
      · rw [if_neg h3, if_neg h3, if_neg n3]
    · rw [if_neg h2, if_neg h2, if_neg n2]
  · rw [if_neg h1, if_neg h1, if_neg n1]
set_option maxRecDepth 65536 in
set_option maxHeartbeats 40000000 in
theorem comes_1 {Post : Tables → Env → Array Value → State → Outcome → State → Prop} (hpost : ∀ tb e args s v u, (limb_1_1.after args s (.returned v) u = true ∧ limb_1_2.after args s (.returned v) u = true ∧ True) → FrameEnd s (.returned v) u (Jvm.fieldLocs frame_1_writes args s ++ Jvm.arrayLocs frame_1_arrays args s ++ Jvm.staticLocs frame_1_statics s) 16 128 → Post tb e args s (.returned v) u) :
    ArmFor flags0 classFile x code maxLocals ret World_1 tables_1 room_1 Calls_1 rest_1 Pre_1 Post := by
  intro l hfl _ _ p e ha hc hk s m args below hf hA hF happ hP
  obtain ⟨hcalls, hrest, hpre⟩ := hP
  obtain ⟨-, -, -, hnamed, -, -, -, hat⟩ := (Spec.applies_iff hf).mp happ
  obtain ⟨hg, hn⟩ := and_e (Cond.before_iff.mp (show (Jvm.Cond.and given_1 narrow_1).before args s = true from hpre))
  obtain ⟨hcnt, r0⟩ := and_e hg
  obtain ⟨a0, r1⟩ := and_e r0
  obtain ⟨a1, r2⟩ := and_e r1
  obtain ⟨a2, r3⟩ := and_e r2
  obtain ⟨a3, r4⟩ := and_e r3
  obtain ⟨a4, r5⟩ := and_e r4
  obtain ⟨w0, w1, w2, w3, w4, w5, rfl⟩ : ∃ w0 w1 w2 w3 w4 w5 : Value, args = #[w0, w1, w2, w3, w4, w5] := by
    have hs : args.size = 6 := by simpa [Cond.value, given_1] using hcnt
    obtain ⟨L⟩ := args
    match L, hs with
    | [w0, w1, w2, w3, w4, w5], _ => exact ⟨w0, w1, w2, w3, w4, w5, rfl⟩
  have hw := fun d (hd : d ∈ tables_1) => atoms_spec (ws := Jvm.Cond.code x code maxLocals ret :: tables_1) hat d (List.mem_cons_of_mem _ hd)
  obtain ⟨q0, y0⟩ := is_v a0
  obtain rfl : w0 = (.int q0) := Option.some.inj y0
  obtain ⟨q1, y1⟩ := isL_v a1
  obtain rfl : w1 = (.long q1) := Option.some.inj y1
  obtain ⟨q2, y2⟩ := is_v a2
  obtain rfl : w2 = (.int q2) := Option.some.inj y2
  obtain ⟨q3, y3⟩ := is_v a3
  obtain rfl : w3 = (.int q3) := Option.some.inj y3
  obtain ⟨q4, y4⟩ := is_v a4
  obtain rfl : w4 = (.int q4) := Option.some.inj y4
  obtain ⟨q5, y5⟩ := isL_v r5
  obtain rfl : w5 = (.long q5) := Option.some.inj y5
  obtain ⟨n, o, h1, h2, h3, _, L, rfl, ⟨rfl, N⟩, hq⟩ := rm0 l s _ hw tables_1 q0 q1 q2 q3 q4 q5 s.heap s.heap.size (Nat.le_refl _) p e ha hc hk s m _ below hf ((Spec.applies_iff_loose hf).mp happ).1 ⟨rfl, State.Warmed39.refl s, rfl⟩ trivial
  refine ⟨n, _, h1, h2, h3, hpost _ _ _ _ _ _ ⟨Cond.after_iff.mpr rfl, Cond.after_iff.mpr (eq_i res_at (Term.int_eval (1)) (congrArg Value.int (own_main q0 q1 q2 q3 q4 q5))), trivial⟩ ⟨hq.1, hq.2.1, (hq.2.2.sift fun y hy => Or.inr (N y hy)).mono (by decide) (by decide)⟩⟩
theorem main_1_1 : Claimed_1_1 := comes_1 fun _ _ _ _ _ _ h hF => ⟨h.1, hF⟩
theorem main_1_2 : Claimed_1_2 := comes_1 fun _ _ _ _ _ _ h hF => ⟨h.2.1, hF⟩
end Jvm.Pilot.@@N@@
namespace Jvm.Pilot.@@N@@
open Jvm Jvm.ClassFile Sem Op Lib Jvm.Free Jvm.Stand Jvm.Pilot.@@N@@.Jvm.D
/-! MADE BY PROGRAM (witnessworld.py) out of the Statement's table words and the real class files: 10 classes; the members and pool entries that the words name. The judged class is class 1, her method 1. -/
namespace start1
open Jvm.ClassFile
def u (s : String) : CpInfo := .utf8 (stringToUtf16 s)
/-- a pool by its gaps: so many unusable entries, then the entry; so many at the end -/
def gap : Nat → List CpInfo → List CpInfo
  | 0, r => r
  | n + 1, r => .unusable :: gap n r
def poolList (es : List (Nat × CpInfo)) (last : Nat) : List CpInfo := es.foldr (fun e r => gap e.1 (e.2 :: r)) (gap last [])
def pool (es : List (Nat × CpInfo)) (last : Nat) : Array CpInfo := ⟨poolList es last⟩
def fileOf (pool : Array CpInfo) (this : Nat) (attrs : Array Attribute := #[]) (ms : Array MethodInfo := #[]) (fl : Nat := 33) (sup : Nat := 0) (ifs : Array Nat := #[]) (fds : Array FieldInfo := #[]) : ClassFile where
  minorVersion := 0
  majorVersion := 65
  constantPool := pool
  accessFlags := fl
  thisClass := this
  superClass := sup
  interfaces := ifs
  fields := fds
  methods := ms
  attributes := attrs
def plain (name : String) (sup : Option ClassId) : Class where
  name := name
  kind := .ordinary
  loader := none
  accessFlags := 33
  super := sup
  interfaces := #[]
  cf := none
  fields := #[]
  methods := #[]
  instanceTypes := #[]
  staticTypes := #[]
  resolved := #[]
  callSites := []
  init := .initialized
  statics := none
  mirror := none

def pool0 : Array CpInfo := pool [(5, u "<init>"), (0, u "()V"), (1, .class_ 10), (1, u "java/lang/Object")] 113

def k0c0 : Code := { maxStack := 0, maxLocals := 1, code := object_method_1_code, exceptionTable := #[], attributes := #[] }
def k0m0 : Method := { name := "<init>", desc := "()V", sig := { parameters := [], returnType := none }, accessFlags := 1, code := some k0c0 }
/-- java/lang/Object -/
def k0 : Class := { plain "java/lang/Object" none with
  accessFlags := 33
  interfaces := #[]
  cf := some (fileOf pool0 8 #[] #[{ accessFlags := 1, nameIndex := 5, descriptorIndex := 6, attributes := #[] }] 33 0 #[] #[])
  fields := #[]
  methods := #[k0m0]
  instanceTypes := #[]
  staticTypes := #[]
  resolved := Array.replicate 124 none
  statics := none }

def pool1 : Array CpInfo := pool [(2, .class_ 4), (1, u "java/lang/Object"), (0, u "<init>"), (0, u "()V"), (0, .class_ 8), (0, u "com/example/keelstore/keelstore/IndexFile$IndexEntry"), (0, .methodref 7 10), (0, .nameAndType 5 11), (0, u "(IJII)V"), (0, .methodref 7 13), (0, .nameAndType 14 15), (0, u "is"), (0, u "(IJI)Z"), (0, .class_ 17), (0, u "com/example/keelstore/keelstore/IndexEntryIsPinLaw"), (2, u "law"), (0, u "(IJIIIJ)Z")] 7

def k1m0 : Method := { name := "<init>", desc := "()V", sig := { parameters := [], returnType := none }, accessFlags := 2, code := none }
def k1c1 : Code := { maxStack := 7, maxLocals := 21, code := code, exceptionTable := #[], attributes := #[] }
def k1m1 : Method := { name := "law", desc := "(IJIIIJ)Z", sig := { parameters := [.int, .long, .int, .int, .int, .long], returnType := some .boolean }, accessFlags := 9, code := some k1c1 }
/-- com/example/keelstore/keelstore/IndexEntryIsPinLaw -/
def k1 : Class := { plain "com/example/keelstore/keelstore/IndexEntryIsPinLaw" (some 0) with
  accessFlags := 49
  interfaces := #[]
  cf := some (fileOf pool1 16 #[] #[{ accessFlags := 2, nameIndex := 5, descriptorIndex := 6, attributes := #[] }, { accessFlags := 9, nameIndex := 20, descriptorIndex := 21, attributes := #[] }] 49 2 #[] #[])
  fields := #[]
  methods := #[k1m0, k1m1]
  instanceTypes := #[]
  staticTypes := #[]
  resolved := Array.replicate 29 none
  statics := none }

def pool2 : Array CpInfo := pool [(1, .methodref 2 3), (0, .class_ 4), (0, .nameAndType 5 6), (0, u "java/lang/Object"), (0, u "<init>"), (0, u "()V"), (0, .class_ 8), (0, u "java/lang/Record")] 13

def k2c0 : Code := { maxStack := 1, maxLocals := 1, code := jdk_30_method_1_code, exceptionTable := #[], attributes := #[] }
def k2m0 : Method := { name := "<init>", desc := "()V", sig := { parameters := [], returnType := none }, accessFlags := 4, code := some k2c0 }
/-- java/lang/Record -/
def k2 : Class := { plain "java/lang/Record" (some 0) with
  accessFlags := 1057
  interfaces := #[]
  cf := some (fileOf pool2 7 #[] #[{ accessFlags := 4, nameIndex := 5, descriptorIndex := 6, attributes := #[] }] 1057 2 #[] #[])
  fields := #[]
  methods := #[k2m0]
  instanceTypes := #[]
  staticTypes := #[]
  resolved := Array.replicate 22 none
  statics := none }

def pool3 : Array CpInfo := pool [(1, .methodref 2 3), (0, .class_ 4), (0, .nameAndType 5 6), (0, u "java/lang/Record"), (0, u "<init>"), (0, u "()V"), (0, .fieldref 8 9), (0, .class_ 10), (0, .nameAndType 11 12), (0, u "com/example/keelstore/keelstore/IndexFile$IndexEntry"), (0, u "hash"), (0, u "I"), (0, .fieldref 8 14), (0, .nameAndType 15 16), (0, u "commitLogOffset"), (0, u "J"), (0, .fieldref 8 18), (0, .nameAndType 19 12), (0, u "seconds"), (0, .fieldref 8 21), (0, .nameAndType 22 12), (0, u "previous"), (12, u "(IJII)V"), (3, u "is"), (0, u "(IJI)Z"), (8, .class_ 50), (0, u "com/example/keelstore/keelstore/IndexFile")] 22

def k3c0 : Code := { maxStack := 3, maxLocals := 6, code := prog_14_method_1_code, exceptionTable := #[], attributes := #[] }
def k3m0 : Method := { name := "<init>", desc := "(IJII)V", sig := { parameters := [.int, .long, .int, .int], returnType := none }, accessFlags := 0, code := some k3c0 }
def k3c1 : Code := { maxStack := 4, maxLocals := 5, code := prog_14_method_2_code, exceptionTable := #[], attributes := #[] }
def k3m1 : Method := { name := "is", desc := "(IJI)Z", sig := { parameters := [.int, .long, .int], returnType := some .boolean }, accessFlags := 0, code := some k3c1 }
/-- com/example/keelstore/keelstore/IndexFile$IndexEntry -/
def k3 : Class := { plain "com/example/keelstore/keelstore/IndexFile$IndexEntry" (some 2) with
  accessFlags := 48
  interfaces := #[]
  cf := some (fileOf pool3 8 #[.nestHost 49] #[{ accessFlags := 0, nameIndex := 5, descriptorIndex := 35, attributes := #[] }, { accessFlags := 0, nameIndex := 39, descriptorIndex := 40, attributes := #[] }] 48 2 #[] #[{ accessFlags := 18, nameIndex := 11, descriptorIndex := 12, attributes := #[] }, { accessFlags := 18, nameIndex := 15, descriptorIndex := 16, attributes := #[] }, { accessFlags := 18, nameIndex := 19, descriptorIndex := 12, attributes := #[] }, { accessFlags := 18, nameIndex := 22, descriptorIndex := 12, attributes := #[] }])
  fields := #[{ name := "hash", type := .int, accessFlags := 18, slot := 0, constantValue := 0 }, { name := "commitLogOffset", type := .long, accessFlags := 18, slot := 1, constantValue := 0 }, { name := "seconds", type := .int, accessFlags := 18, slot := 2, constantValue := 0 }, { name := "previous", type := .int, accessFlags := 18, slot := 3, constantValue := 0 }]
  methods := #[k3m0, k3m1]
  instanceTypes := #[.int, .long, .int, .int]
  staticTypes := #[]
  resolved := Array.replicate 73 none
  statics := none }

def pool4 : Array CpInfo := pool [(1, u "java/lang/Cloneable"), (0, .class_ 1), (0, u "java/lang/Object"), (0, .class_ 3)] 3

/-- java/lang/Cloneable -/
def k4 : Class := { plain "java/lang/Cloneable" (some 0) with
  accessFlags := 1537
  interfaces := #[]
  cf := some (fileOf pool4 2 #[] #[] 1537 4 #[] #[])
  fields := #[]
  methods := #[]
  instanceTypes := #[]
  staticTypes := #[]
  resolved := Array.replicate 8 none
  statics := none }

def pool5 : Array CpInfo := pool [(1, u "java/io/Serializable"), (0, .class_ 1), (0, u "java/lang/Object"), (0, .class_ 3)] 3

/-- java/io/Serializable -/
def k5 : Class := { plain "java/io/Serializable" (some 0) with
  accessFlags := 1537
  interfaces := #[]
  cf := some (fileOf pool5 2 #[] #[] 1537 4 #[] #[])
  fields := #[]
  methods := #[]
  instanceTypes := #[]
  staticTypes := #[]
  resolved := Array.replicate 8 none
  statics := none }

/-- the primitive byte -/
def k6 : Class := { plain "byte" none with kind := .primitive 'B', accessFlags := 0x411 }
/-- [B -/
def k7 : Class := { plain "[B" (some 0) with kind := .array 6 .byte, interfaces := #[4, 5], accessFlags := 1041 }

/-- the primitive int -/
def k8 : Class := { plain "int" none with kind := .primitive 'I', accessFlags := 0x411 }
/-- [I -/
def k9 : Class := { plain "[I" (some 0) with kind := .array 8 .int, interfaces := #[4, 5], accessFlags := 1041 }

def heap : Heap := #[]
def classes : Array Class := #[k0, k1, k2, k3, k4, k5, k6, k7, k8, k9]
def interned : List (Array UInt16 × Addr) := []
def slotsUsed : Nat := 0
def theMethod : MethodId := ⟨1, 1⟩
def args0 : Array Value := #[.int 5, .long 7, .int 9, .int 9, .int 9, .long 8]
def aboutOver (below : List Frame) : State where
  vm := { classes := classes, interned := interned.toArray }
  heap := heap
  slotsUsed := slotsUsed
  threads := #[{ frames := .invoking theMethod args0 :: below }]
def below0 : List Frame := [.native { method := ⟨0, 0⟩, args := #[] }]
def about1 : State := aboutOver below0
def p0 : Program := .bare "" "" ""
def e0 : Env := launch0.env 0 0 0
theorem w_frames : about1.frames = Frame.invoking theMethod args0 :: below0 := rfl
set_option maxRecDepth 65536 in
theorem w_args : argsFit about1.vm theMethod args0 = true := by decide +kernel
set_option maxRecDepth 65536 in
theorem w_heap : heapFits about1 = true := by decide +kernel
set_option maxRecDepth 65536 in
theorem w_runnable : about1.curStatus? = some .runnable := by decide +kernel
set_option maxRecDepth 65536 in
theorem w_alone : about1.alone = true := by decide +kernel
set_option maxRecDepth 65536 in
theorem w_named : about1.methodNamed? x = some theMethod := by decide +kernel
set_option maxRecDepth 65536 in
theorem w_hears : about1.hears theMethod below0 = true := by decide +kernel
set_option maxRecDepth 65536 in
theorem w_ripe : about1.ripe theMethod args0 below0 = true := by decide +kernel
theorem w_running : about1.status = .running := rfl
set_option maxRecDepth 65536 in
theorem w_room : about1.hasRoom e0.platform room_1 = true :=
  launch0.hasRoom_least _ room_1 (by decide +kernel) (by decide +kernel) (by decide +kernel) (by decide +kernel) (by decide +kernel) (by decide +kernel)
theorem allAtoms_all (ts : List Jvm.Cond) (a : Array Jvm.Value) (st : Jvm.State) : (allAtoms ts).before a st = ts.all (fun c => c.before a st) := by
  induction ts with
  | nil => rfl
  | cons c t ih =>
    show (Jvm.Cond.and c (allAtoms t)).before a st = _
    rw [Jvm.Cond.before_and, ih, List.all_cons]
def words1 : List Jvm.Cond := Jvm.Cond.code x code maxLocals ret :: tables_1
/-- a 'code' word, met by the world's own term for the bytes: nothing is compared byte by byte -/
theorem code_word {y : MethodName} {bytes : ByteArray} {mx : Nat} {rt : Option FieldType} {a : Array Value} {s : State} {m : MethodId} {meth : Method} {c : Code} (h1 : s.methodNamed? y = some m) (h2 : s.vm.method? m = some meth) (h3 : meth.code = some c) (h4 : c.code = bytes)
    (h5 : (c.maxLocals == mx && c.exceptionTable.isEmpty && decide (c.maxStack ≤ mostOperands) && decide (meth.sig.returnType = rt) && !meth.locks && decide (parseMethodDescriptor y.desc = some meth.sig)) = true) : (Jvm.Cond.code y bytes mx rt).before a s = true := by
  simp only [Bool.and_eq_true, beq_iff_eq, Bool.not_eq_true', decide_eq_true_eq] at h5
  obtain ⟨⟨⟨⟨⟨g1, g2⟩, g3⟩, g4⟩, g5⟩, g6⟩ := h5
  simp [Cond.before, Cond.holds, Cond.value, h1, h2, h3, h4, g1, g2, g3, g4, g5, g6]
def isCode : Jvm.Cond → Bool
  | .code _ _ _ _ => true
  | _ => false
theorem all_split {L : List Jvm.Cond} {P : Jvm.Cond → Bool} (h1 : L.all (fun c => isCode c || P c) = true) (h2 : ∀ c ∈ L.filter isCode, P c = true) : L.all P = true := by
  refine List.all_eq_true.mpr fun c hc => ?_
  have h := List.all_eq_true.mp h1 c hc
  rcases Bool.eq_false_or_eq_true (isCode c) with hi | hi
  · exact h2 c (List.mem_filter.mpr ⟨hc, hi⟩)
  · simpa [hi] using h
set_option maxRecDepth 65536 in
theorem w_c0 : (Jvm.Cond.code x code maxLocals ret).before args0 about1 = true := code_word (m := ⟨1, 1⟩) (meth := k1m1) (c := k1c1) (by decide +kernel) rfl rfl rfl (by decide +kernel)
set_option maxRecDepth 65536 in
theorem w_c1 : (Jvm.Cond.code ({ cls := "com/example/keelstore/keelstore/IndexFile$IndexEntry", name := "<init>", desc := "(IJII)V" } : Jvm.MethodName) prog_14_method_1_code (6 : Nat) (Option.none : Option Jvm.ClassFile.FieldType)).before args0 about1 = true := code_word (m := ⟨3, 0⟩) (meth := k3m0) (c := k3c0) (by decide +kernel) rfl rfl rfl (by decide +kernel)
set_option maxRecDepth 65536 in
theorem w_c2 : (Jvm.Cond.code ({ cls := "java/lang/Record", name := "<init>", desc := "()V" } : Jvm.MethodName) jdk_30_method_1_code (1 : Nat) (Option.none : Option Jvm.ClassFile.FieldType)).before args0 about1 = true := code_word (m := ⟨2, 0⟩) (meth := k2m0) (c := k2c0) (by decide +kernel) rfl rfl rfl (by decide +kernel)
set_option maxRecDepth 65536 in
theorem w_c3 : (Jvm.Cond.code ({ cls := "java/lang/Object", name := "<init>", desc := "()V" } : Jvm.MethodName) object_method_1_code (1 : Nat) (Option.none : Option Jvm.ClassFile.FieldType)).before args0 about1 = true := code_word (m := ⟨0, 0⟩) (meth := k0m0) (c := k0c0) (by decide +kernel) rfl rfl rfl (by decide +kernel)
set_option maxRecDepth 65536 in
theorem w_c4 : (Jvm.Cond.code ({ cls := "com/example/keelstore/keelstore/IndexFile$IndexEntry", name := "is", desc := "(IJI)Z" } : Jvm.MethodName) prog_14_method_2_code (5 : Nat) (Option.some Jvm.ClassFile.FieldType.boolean)).before args0 about1 = true := code_word (m := ⟨3, 1⟩) (meth := k3m1) (c := k3c1) (by decide +kernel) rfl rfl rfl (by decide +kernel)
def codes1 : List Jvm.Cond := [Jvm.Cond.code x code maxLocals ret, Jvm.Cond.code ({ cls := "com/example/keelstore/keelstore/IndexFile$IndexEntry", name := "<init>", desc := "(IJII)V" } : Jvm.MethodName) prog_14_method_1_code (6 : Nat) (Option.none : Option Jvm.ClassFile.FieldType), Jvm.Cond.code ({ cls := "java/lang/Record", name := "<init>", desc := "()V" } : Jvm.MethodName) jdk_30_method_1_code (1 : Nat) (Option.none : Option Jvm.ClassFile.FieldType), Jvm.Cond.code ({ cls := "java/lang/Object", name := "<init>", desc := "()V" } : Jvm.MethodName) object_method_1_code (1 : Nat) (Option.none : Option Jvm.ClassFile.FieldType), Jvm.Cond.code ({ cls := "com/example/keelstore/keelstore/IndexFile$IndexEntry", name := "is", desc := "(IJI)Z" } : Jvm.MethodName) prog_14_method_2_code (5 : Nat) (Option.some Jvm.ClassFile.FieldType.boolean)]
set_option maxRecDepth 65536 in
theorem codes_eq : words1.filter isCode = codes1 := rfl
theorem w_codes : ∀ c ∈ words1.filter isCode, c.before args0 about1 = true := by
  rw [codes_eq]
  intro c hc
  simp only [codes1, List.mem_cons, List.not_mem_nil, or_false] at hc
  rcases hc with rfl | rfl | rfl | rfl | rfl
  · exact w_c0
  · exact w_c1
  · exact w_c2
  · exact w_c3
  · exact w_c4
set_option maxRecDepth 65536 in
theorem w_t1 : (words1.take 24).all (fun c => isCode c || c.before args0 about1) = true := by decide +kernel
set_option maxRecDepth 65536 in
theorem w_t2 : (words1.drop 24).all (fun c => isCode c || c.before args0 about1) = true := by decide +kernel
theorem w_tables : (allAtoms (Jvm.Cond.code x code maxLocals ret :: tables_1)).before args0 about1 = true := by
  rw [allAtoms_all]
  show words1.all (fun c => c.before args0 about1) = true
  refine all_split ?_ w_codes
  rw [← List.take_append_drop 24 words1, List.all_append, w_t1, w_t2]
  rfl
set_option maxRecDepth 65536 in
theorem w_case : (Jvm.Cond.and given_1 narrow_1).before args0 about1 = true := by decide +kernel
theorem w_applies : (headSpec (Jvm.Cond.code x code maxLocals ret :: tables_1) room_1).applies x e0.platform about1 = true :=
  (Spec.applies_iff w_frames).mpr ⟨w_running, w_runnable, w_alone, w_named, w_hears, w_ripe, w_room, w_tables⟩
theorem atStart : AtStart classFile x code maxLocals ret World_1 tables_1 room_1 Calls_1 rest_1 Pre_1 launch0 p0 e0 about1 theMethod args0 below0 :=
  ⟨lists_1, trivial, launch0.admits_env _ _ _, launch0.least_env, fairChoices_fair.cas, fairChoices_fair.clock, w_frames, w_args, w_heap, w_applies, trivial, trivial, w_case⟩
end start1
theorem witness_1 : WitnessClaimed_1 := ⟨start1.p0, start1.e0, start1.about1, start1.theMethod, start1.args0, start1.below0, start1.atStart⟩
end Jvm.Pilot.@@N@@
