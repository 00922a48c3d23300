import JvmDerived
import JvmDerived.Pilot.@@N@@Statement
import JvmDerived.Pilot.@@N@@Code
set_option linter.unusedVariables false
set_option linter.unusedSimpArgs false
namespace Jvm.Pilot.@@N@@
open Jvm Jvm.ClassFile Sem Op Lib Jvm.Free Jvm.Stand Jvm.LawKit Jvm.RoadKit Bundle Jvm.Pilot.@@N@@.Jvm.D
/-- the body's goal from a state on -/
def Go (p : Program) (e : Env) (below : List Frame) (P : Outcome → State → Prop) (U : State) : Prop :=
  ∃ s₂ o, Steps p.tables e below U s₂ ∧ s₂.status = .running ∧ Ended s₂ below o ∧ P o s₂
/-- the unsigned shifts, the remainders -/
def uI (x y : Int32) : Int32 := (x.toUInt32 >>> (y &&& 31).toUInt32).toInt32
def uL (x : Int64) (y : Int32) : Int64 := (x.toUInt64 >>> (y &&& 0x3f).toInt64.toUInt64).toInt64
def sL (x : Int64) (y : Int32) : Int64 := x >>> (y &&& 0x3f).toInt64
def lL (x : Int64) (y : Int32) : Int64 := x <<< (y &&& 0x3f).toInt64
section Own
variable {p : Program} {l : Launch} {e : Env} {R : Room} {s : State} {m : MethodId} {args : Array Value} {below : List Frame} {meth : Method} {c : Code} {T : State} {locs : List Loc} {cells slots : Nat} {P : Outcome → State → Prop} {pc pc' : Nat} {L L' : Array Slot} {S : List Value} {Z : State} {a0 : Array Value} {h : Heap}
theorem Go.via {U U' : State} (q : ∀ t, Steps p.tables e below U' t → Steps p.tables e below U t) (k : Go p e below P U') : Go p e below P U := by
  obtain ⟨s₂, o, h1, h2⟩ := k
  exact ⟨s₂, o, q _ h1, h2⟩
theorem Go.tr {U U' : State} (q : Steps p.tables e below U U') (k : Go p e below P U') : Go p e below P U := k.via fun _ h => q.trans h
theorem o_iload (X : Stand p l e R s m args below meth c T locs cells slots) (hx : p.tables.exec = Jvm.exec) {k : Nat} {v : Int32} (hd : decode c.code pc = .ok (.iload k, 2)) (hp : pc + 2 = pc') (hl : L[k]? = some (.val (.int v))) (K : Go p e below P (T.setTop (mkF m pc' L (.int v :: S)))) : Go p e below P (T.setTop (mkF m pc L (S))) := by
  subst hp; exact K.via fun t k => XS.iload X.here hx rfl hd hl k
theorem o_iloadN (X : Stand p l e R s m args below meth c T locs cells slots) (hx : p.tables.exec = Jvm.exec) {k : Fin 4} {v : Int32} (hd : decode c.code pc = .ok (.iload_n k, 1)) (hp : pc + 1 = pc') (hl : L[k.val]? = some (.val (.int v))) (K : Go p e below P (T.setTop (mkF m pc' L (.int v :: S)))) : Go p e below P (T.setTop (mkF m pc L (S))) := by
  subst hp; exact K.via fun t k => XS.iloadN X.here hx rfl hd hl k
theorem o_aload (X : Stand p l e R s m args below meth c T locs cells slots) (hx : p.tables.exec = Jvm.exec) {k : Nat} {v : Value} (hd : decode c.code pc = .ok (.aload k, 2)) (hp : pc + 2 = pc') (hl : L[k]? = some (.val v)) (hv : v.isRef = true) (K : Go p e below P (T.setTop (mkF m pc' L (v :: S)))) : Go p e below P (T.setTop (mkF m pc L (S))) := by
  subst hp; exact K.via fun t k => XS.aload X.here hx rfl hd hl hv k
theorem o_aloadN (X : Stand p l e R s m args below meth c T locs cells slots) (hx : p.tables.exec = Jvm.exec) {k : Fin 4} {v : Value} (hd : decode c.code pc = .ok (.aload_n k, 1)) (hp : pc + 1 = pc') (hl : L[k.val]? = some (.val v)) (hv : v.isRef = true) (K : Go p e below P (T.setTop (mkF m pc' L (v :: S)))) : Go p e below P (T.setTop (mkF m pc L (S))) := by
  subst hp; exact K.via fun t k => XS.aloadN X.here hx rfl hd hl hv k
theorem o_istore (X : Stand p l e R s m args below meth c T locs cells slots) (hx : p.tables.exec = Jvm.exec) {k : Nat} {x : Int32} (hd : decode c.code pc = .ok (.istore k, 2)) (hp : pc + 2 = pc') (hl : storeLocals L k (.int x) = some L') (K : Go p e below P (T.setTop (mkF m pc' L' (S)))) : Go p e below P (T.setTop (mkF m pc L (.int x :: S))) := by
  subst hp; exact K.via fun t k => XS.istore X.here hx rfl hd rfl hl k
theorem o_astore (X : Stand p l e R s m args below meth c T locs cells slots) (hx : p.tables.exec = Jvm.exec) {k : Nat} {x : Value} (hd : decode c.code pc = .ok (.astore k, 2)) (hp : pc + 2 = pc') (hv : x.isRef = true) (hl : storeLocals L k x = some L') (K : Go p e below P (T.setTop (mkF m pc' L' (S)))) : Go p e below P (T.setTop (mkF m pc L (x :: S))) := by
  subst hp; exact K.via fun t k => XS.astore X.here hx rfl hd rfl hv hl k
theorem o_iconst (X : Stand p l e R s m args below meth c T locs cells slots) (hx : p.tables.exec = Jvm.exec) {i : Int} (v : Int32) (hd : decode c.code pc = .ok (.iconst i, 1)) (hp : pc + 1 = pc') (hv : Int32.ofInt i = v) (K : Go p e below P (T.setTop (mkF m pc' L (.int v :: S)))) : Go p e below P (T.setTop (mkF m pc L (S))) := by
  subst hp; exact K.via fun t k => XS.iconst X.here hx rfl hd (hv ▸ k)
theorem o_sipush (X : Stand p l e R s m args below meth c T locs cells slots) (hx : p.tables.exec = Jvm.exec) {i : Int} (v : Int32) (hd : decode c.code pc = .ok (.sipush i, 3)) (hp : pc + 3 = pc') (hv : (Int16.ofInt i).toInt32 = v) (K : Go p e below P (T.setTop (mkF m pc' L (.int v :: S)))) : Go p e below P (T.setTop (mkF m pc L (S))) := by
  subst hp; exact K.via fun t k => XS.sipush X.here hx rfl hd (hv ▸ k)
theorem o_iand (X : Stand p l e R s m args below meth c T locs cells slots) (hx : p.tables.exec = Jvm.exec) {x y : Int32} (hd : decode c.code pc = .ok (.iand, 1)) (hp : pc + 1 = pc')  (K : Go p e below P (T.setTop (mkF m pc' L (.int (x &&& y) :: S)))) : Go p e below P (T.setTop (mkF m pc L (.int y :: .int x :: S))) := by
  subst hp; exact K.via fun t k => XS.iand X.here hx rfl hd rfl k
theorem o_iushr (X : Stand p l e R s m args below meth c T locs cells slots) (hx : p.tables.exec = Jvm.exec) {x y : Int32} (hd : decode c.code pc = .ok (.iushr, 1)) (hp : pc + 1 = pc')  (K : Go p e below P (T.setTop (mkF m pc' L (.int (uI x y) :: S)))) : Go p e below P (T.setTop (mkF m pc L (.int y :: .int x :: S))) := by
  subst hp; exact K.via fun t k => XS.iushr X.here hx rfl hd rfl k
theorem o_dup (X : Stand p l e R s m args below meth c T locs cells slots) (hx : p.tables.exec = Jvm.exec) {x : Value} (hd : decode c.code pc = .ok (.dup, 1)) (hp : pc + 1 = pc') (hc : x.category = 1) (K : Go p e below P (T.setTop (mkF m pc' L (x :: x :: S)))) : Go p e below P (T.setTop (mkF m pc L (x :: S))) := by
  subst hp; exact K.via fun t k => XS.dup X.here hx rfl hd rfl hc k
theorem o_goto (X : Stand p l e R s m args below meth c T locs cells slots) (hx : p.tables.exec = Jvm.exec) {o : Int} (hd : decode c.code pc = .ok (.goto o, 3)) (ho : 0 ≤ (pc : Int) + o) (hp : ((pc : Int) + o).toNat = pc') (K : Go p e below P (T.setTop (mkF m pc' L S))) : Go p e below P (T.setTop (mkF m pc L S)) :=
  K.via fun t k => XS.goto X.here hx rfl rfl hd ho hp k
theorem o_ifY (X : Stand p l e R s m args below meth c T locs cells slots) (hx : p.tables.exec = Jvm.exec) {cd : ClassFile.Cond} {x : Int32} {o : Int} (hd : decode c.code pc = .ok (.ifCond cd o, 3)) (hc : if_icmp.holds cd x 0 = true) (ho : 0 ≤ (pc : Int) + o) (hp : ((pc : Int) + o).toNat = pc') (K : Go p e below P (T.setTop (mkF m pc' L S))) : Go p e below P (T.setTop (mkF m pc L (.int x :: S))) :=
  K.via fun t k => XS.ifYes X.here hx rfl rfl hd rfl ((if0 _ _).trans hc) ho hp k
theorem o_ifN (X : Stand p l e R s m args below meth c T locs cells slots) (hx : p.tables.exec = Jvm.exec) {cd : ClassFile.Cond} {x : Int32} {o : Int} (hd : decode c.code pc = .ok (.ifCond cd o, 3)) (hc : if_icmp.holds cd x 0 = false) (hp : pc + 3 = pc') (K : Go p e below P (T.setTop (mkF m pc' L S))) : Go p e below P (T.setTop (mkF m pc L (.int x :: S))) := by
  subst hp; exact K.via fun t k => XS.ifNo X.here hx rfl hd rfl ((if0 _ _).trans hc) k
theorem o_cmpY (X : Stand p l e R s m args below meth c T locs cells slots) (hx : p.tables.exec = Jvm.exec) {cd : ClassFile.Cond} {x y : Int32} {o : Int} (hd : decode c.code pc = .ok (.if_icmp cd o, 3)) (hc : if_icmp.holds cd x y = true) (ho : 0 ≤ (pc : Int) + o) (hp : ((pc : Int) + o).toNat = pc') (K : Go p e below P (T.setTop (mkF m pc' L S))) : Go p e below P (T.setTop (mkF m pc L (.int y :: .int x :: S))) :=
  K.via fun t k => XS.icmpYes X.here hx rfl rfl hd rfl hc ho hp k
theorem o_cmpN (X : Stand p l e R s m args below meth c T locs cells slots) (hx : p.tables.exec = Jvm.exec) {cd : ClassFile.Cond} {x y : Int32} {o : Int} (hd : decode c.code pc = .ok (.if_icmp cd o, 3)) (hc : if_icmp.holds cd x y = false) (hp : pc + 3 = pc') (K : Go p e below P (T.setTop (mkF m pc' L S))) : Go p e below P (T.setTop (mkF m pc L (.int y :: .int x :: S))) := by
  subst hp; exact K.via fun t k => XS.icmpNo X.here hx rfl hd rfl hc k
theorem tltL {x y : Int64} (q : x < y) : if_icmp.holds .lt (lcmpW x y) 0 = true ∧ if_icmp.holds .ge (lcmpW x y) 0 = false ∧ if_icmp.holds .gt (lcmpW y x) 0 = true ∧ if_icmp.holds .le (lcmpW y x) 0 = false :=
  ⟨(tlt ((lw_lt x y).mpr q)).1, (tlt ((lw_lt x y).mpr q)).2.1, (tlt ((lw_gt y x).mpr q)).2.2.1, (tlt ((lw_gt y x).mpr q)).2.2.2⟩
theorem fltL {x y : Int64} (q : ¬ x < y) : if_icmp.holds .lt (lcmpW x y) 0 = false ∧ if_icmp.holds .ge (lcmpW x y) 0 = true ∧ if_icmp.holds .gt (lcmpW y x) 0 = false ∧ if_icmp.holds .le (lcmpW y x) 0 = true :=
  ⟨(flt (mt (lw_lt x y).mp q)).1, (flt (mt (lw_lt x y).mp q)).2.1, (flt (mt (lw_gt y x).mp q)).2.2.1, (flt (mt (lw_gt y x).mp q)).2.2.2⟩
theorem teqL {x y : Int64} (q : x = y) : if_icmp.holds .eq (lcmpW x y) 0 = true ∧ if_icmp.holds .ne (lcmpW x y) 0 = false := teq ((lw_eq x y).mpr q)
theorem feqL {x y : Int64} (q : ¬ x = y) : if_icmp.holds .eq (lcmpW x y) 0 = false ∧ if_icmp.holds .ne (lcmpW x y) 0 = true := feq (mt (lw_eq x y).mp q)
/-- what a body's end owes -/
abbrev Owe (s : State) (Q : Option Value → Heap → List Loc → Prop) (C D : Nat) : Outcome → State → Prop := fun o U' => ∃ v L, o = .returned v ∧ Q v U'.heap L ∧ FrameEnd s o U' L C D
/-- a body's contract -/
abbrev Con (l : Launch) (y : MethodName) (bytes : ByteArray) (ml : Nat) (ret : Option FieldType) (ws : List Jvm.Cond) (rm : Room) (as' : Array Value) (Z : State) (h0 : Heap) (Q : Option Value → Heap → List Loc → Prop) (C D : Nat) : Prop :=
  MetFree l y (head1 (Jvm.Cond.code y bytes ml ret :: ws) rm) (fun b U => b = as' ∧ Z.Warmed39 U.vm ∧ U.heap = h0) (fun _ _ _ _ _ => True) (fun _ U o U' => ∃ v L, o = .returned v ∧ Q v U'.heap L ∧ FrameEnd U o U' L C D)
theorem own_body {y : MethodName} {bytes : ByteArray} {ml : Nat} {ret : Option FieldType} {ws : List Jvm.Cond} {rm : Room} {as' : Array Value} {h0 : Heap} {Q : Option Value → Heap → List Loc → Prop} {C D : Nat} (hpl : plainFor y = true)
    (K : ∀ (p : Program) (e : Env) (s : State) (m : MethodId) (below : List Frame) (meth : Method) (c : Code) (s₁ : State), p.tables.exec = Jvm.exec → c.code = bytes → meth.locks = false → c.maxLocals = ml → s.vm.findClass y.cls = some m.cls → meth.name = y.name → meth.sig.returnType = ret → Z.Warmed39 s.vm →
      Stand p l e rm s m as' below meth c s₁ [] 0 0 → s₁.heap = h0 → Go p e below (Owe s Q C D) (s₁.setTop (entryFrame m as' ml))) : Con l y bytes ml ret ws rm as' Z h0 Q C D := by
  refine MetFree.of_bodySF hpl hisR ?_
  intro p e s m args below meth c s₁ Bd hml0 hP hK
  obtain ⟨rfl, hZ, hh⟩ := hP
  exact K p e s m below meth c s₁ Bd.exec Bd.bytes (BodyLoose.notSynchronized Bd) hml0 (findClass_of_methodNamed Bd.named) (name_of_methodNamed Bd.named Bd.method).1 Bd.returns hZ (Stand.of_body Bd) (by rw [← hh, Bd.state]; rfl)
theorem o_ret (X : Stand p l e R s m args below meth c T locs cells slots) (hx : p.tables.exec = Jvm.exec) {Q : Option Value → Heap → List Loc → Prop} {C D : Nat} {w : Value} {t : FieldType} {i : Instr} (hlocks : meth.locks = false) (hret : meth.sig.returnType = some t) (hn : narrow t w = w)
    (hi : (i = .ireturn ∧ (t = .int ∨ t = .boolean ∨ t = .byte ∨ t = .char ∨ t = .short) ∧ ∃ z, w = .int z) ∨ (i = .lreturn ∧ t = .long ∧ ∃ z, w = .long z) ∨ (i = .dreturn ∧ t = .double ∧ ∃ z, w = .double z) ∨ (i = .freturn ∧ t = .float ∧ ∃ z, w = .float z) ∨ (i = .areturn ∧ t.isReference = true ∧ w.isRef = true))
    (hd : decode c.code pc = .ok (i, 1)) (hc : cells ≤ C) (hs : slots ≤ D) (hq : Q (some w) T.heap locs) : Go p e below (Owe s Q C D) (T.setTop (mkF m pc L (w :: S))) := by
  obtain ⟨fs, hr, hrun, hended, hW, hsame⟩ := X.leave (v := some w) (fun h => by rw [hret] at h; cases h) hlocks
  exact ⟨_, _, retOut X hx hret hn hi hd hr, hrun, hended, _, _, rfl, hq, ⟨_, rfl⟩, hW, hsame.mono hc hs⟩
theorem o_retZ (X : Stand p l e R s m args below meth c T locs cells slots) (hx : p.tables.exec = Jvm.exec) {Q : Option Value → Heap → List Loc → Prop} {C D : Nat} {z : Int32} (hz : narrow .boolean (.int z) = .int z) (hlocks : meth.locks = false) (hret : meth.sig.returnType = some .boolean) (hd : decode c.code pc = .ok (.ireturn, 1)) (hc : cells ≤ C) (hs : slots ≤ D) (hq : Q (some (.int z)) T.heap locs) : Go p e below (Owe s Q C D) (T.setTop (mkF m pc L (.int z :: S))) :=
  o_ret X hx hlocks hret hz (Or.inl ⟨rfl, Or.inr (Or.inl rfl), z, rfl⟩) hd hc hs hq
theorem o_retV (X : Stand p l e R s m args below meth c T locs cells slots) (hx : p.tables.exec = Jvm.exec) {Q : Option Value → Heap → List Loc → Prop} {C D : Nat} (hlocks : meth.locks = false) (hret : meth.sig.returnType = none) (hd : decode c.code pc = .ok (.return_, 1)) (hc : cells ≤ C) (hs : slots ≤ D) (hq : Q none T.heap locs) : Go p e below (Owe s Q C D) (T.setTop (mkF m pc L [])) := by
  obtain ⟨fs, hr, hrun, hended, hW, hsame⟩ := X.leave (v := none) (fun _ => rfl) hlocks
  exact ⟨_, _, X.returnOut hx hret hd hr, hrun, hended, _, _, rfl, hq, ⟨_, rfl⟩, hW, hsame.mono hc hs⟩
theorem o_callI (X : Stand p l e R s m args below meth c T locs cells slots) (hx : p.tables.exec = Jvm.exec) (hZ : Z.Warmed39 s.vm) {own : String} {index : Nat} {y : MethodName} {bytes : ByteArray} {maxL : Nat} {rm : Room} (W : Nat) {argsL rest : List Value} {a : Addr} {Q : Option Value → Heap → List Loc → Prop} {cells' slots' : Nat}
    (hn : y.name = "<init>") (hown : s.vm.findClass own = some m.cls) (w1 : (Cond.methodLink own index y).before a0 Z = true) (w2 : (Cond.instanceMethod y).before a0 Z = true) (w3 : (Cond.initialized y.cls).before a0 Z = true) (w4 : (Cond.code y bytes maxL none).before a0 Z = true) (hy : y.cls ≠ "java/lang/invoke/MethodHandle" ∧ y.cls ≠ "java/lang/invoke/VarHandle")
    (hM : MetFree l y (head1 [Cond.code y bytes maxL none] rm) (fun b U => b = (.ref a :: argsL).toArray ∧ Z.Warmed39 U.vm ∧ U.heap = h) (fun _ _ _ _ _ => True) (fun _ U o U' => ∃ v L, o = .returned v ∧ Q v U'.heap L ∧ FrameEnd U o U' L rm.cells rm.slots))
    (hf : rm.frames + 1 ≤ R.frames) (hl : W + (maxL + 11) + rm.locals ≤ R.locals) (hcc : cells + rm.cells = cells') (hss : slots + rm.slots = slots') (hc : cells' ≤ R.cells) (hs : slots' ≤ R.slots) (eT : T.heap = h) (hsize : L.size = c.maxLocals) (hlen : ∀ sig, parseMethodDescriptor y.desc = some sig → argsL.length = sig.parameters.length) (hstk : S = argsL.reverse ++ .ref a :: rest)
    (hW : (rest.map fun v => v.category).sum = W) (hd : decode c.code pc = .ok (.invokespecial index, 3)) (hp : pc + 3 = pc') (K : ∀ T' v Lc, Stand p l e R s m args below meth c T' (locs ++ Lc) cells' slots' → Q v T'.heap Lc → Go p e below P (T'.setTop (mkF m pc' L (v.toList ++ rest)))) : Go p e below P (T.setTop (mkF m pc L S)) := by
  subst hp hcc hss
  obtain ⟨v, _, ⟨T', L', k', n'⟩, -, X', ⟨Lc, hQ, l', y', z'⟩, st⟩ := X.specialBack hx hn hown (mvT hZ w1) (mvT hZ w2) (mvT hZ w4) hy (backOf (W := W) hM hZ w4 w3 hf hl) (g := mkF m pc L S) rfl hsize (Steps.refl _) (a := a) (argsL := argsL) (rest := rest) hlen hstk (by show 2 * 0 + _ ≤ _; rw [hW]; exact Nat.le_of_eq (by simp)) hd (fun _ _ => ⟨rfl, eT, hc, hs⟩)
  dsimp only [Pt.U, Pt.locs, Pt.cells, Pt.slots] at X' l' y' z' st hQ
  subst l' y' z'
  exact (K T' v Lc X' hQ).tr st
theorem o_callV (X : Stand p l e R s m args below meth c T locs cells slots) (hx : p.tables.exec = Jvm.exec) (hZ : Z.Warmed39 s.vm) {own C : String} {index : Nat} {y : MethodName} {bytes : ByteArray} {maxL : Nat} {ret : Option FieldType} {rm : Room} (W : Nat) {argsL rest : List Value} {a : Addr} {Q : Option Value → Heap → List Loc → Prop} {cells' slots' : Nat}
    (hown : s.vm.findClass own = some m.cls) (w1 : (Cond.methodLink own index y).before a0 Z = true) (w2 : (Cond.declares y).before a0 Z = true) (w5 : (Cond.selects C y y).before a0 Z = true) (w6 : (Cond.instanceMethod y).before a0 Z = true) (w3 : (Cond.initialized y.cls).before a0 Z = true) (w4 : (Cond.code y bytes maxL ret).before a0 Z = true) (hy : y.cls ≠ "java/lang/invoke/MethodHandle" ∧ y.cls ≠ "java/lang/invoke/VarHandle")
    (hM : MetFree l y (head1 [Cond.code y bytes maxL ret] rm) (fun b U => b = (.ref a :: argsL).toArray ∧ Z.Warmed39 U.vm ∧ U.heap = h) (fun _ _ _ _ _ => True) (fun _ U o U' => ∃ v L, o = .returned v ∧ Q v U'.heap L ∧ FrameEnd U o U' L rm.cells rm.slots))
    (hE : Exa Z h a C) (hf : rm.frames + 1 ≤ R.frames) (hl : W + (maxL + 11) + rm.locals ≤ R.locals) (hcc : cells + rm.cells = cells') (hss : slots + rm.slots = slots') (hc : cells' ≤ R.cells) (hs : slots' ≤ R.slots) (eT : T.heap = h) (hsize : L.size = c.maxLocals) (hlen : ∀ sig, parseMethodDescriptor y.desc = some sig → argsL.length = sig.parameters.length) (hstk : S = argsL.reverse ++ .ref a :: rest)
    (hW : (rest.map fun v => v.category).sum = W) (hd : decode c.code pc = .ok (.invokevirtual index, 3)) (hp : pc + 3 = pc') (K : ∀ T' v Lc, Stand p l e R s m args below meth c T' (locs ++ Lc) cells' slots' → Q v T'.heap Lc → Go p e below P (T'.setTop (mkF m pc' L (v.toList ++ rest)))) : Go p e below P (T.setTop (mkF m pc L S)) := by
  subst hp hcc hss
  obtain ⟨cq, kq, qa, qb, qc⟩ := isOf hZ eT hE
  obtain ⟨v, _, ⟨T', L', k', n'⟩, -, X', ⟨Lc, hQ, l', y', z'⟩, st⟩ := X.virtualBack hx (y := y) (z := y) hown (mvT hZ w1) (mvT hZ w2) (notFace_of_selects (args := #[]) (mvT hZ w5)) (mvT hZ w5) (mvT hZ w6) hy (backOf (W := W) hM hZ w4 w3 hf hl) qa qc (g := mkF m pc L S) rfl hsize (Steps.refl _) (argsL := argsL) (rest := rest) hlen hstk (by show 2 * 0 + _ ≤ _; rw [hW]; exact Nat.le_of_eq (by simp)) hd (fun _ _ => ⟨rfl, eT, hc, hs⟩)
  dsimp only [Pt.U, Pt.locs, Pt.cells, Pt.slots] at X' l' y' z' st hQ
  subst l' y' z'
  exact (K T' v Lc X' hQ).tr st
theorem o_new (X : Stand p l e R s m args below meth c T locs cells slots) (hx : p.tables.exec = Jvm.exec) (hZ : Z.Warmed39 s.vm) {own C : String} {index n : Nat} {cells' slots' : Nat} (hown : s.vm.findClass own = some m.cls) (w1 : (Cond.classLink own index C).before a0 Z = true) (w2 : (Cond.instantiable C n).before a0 Z = true) (w3 : (Cond.initialized C).before a0 Z = true) (eT : T.heap = h)
    (hd : decode c.code pc = .ok (.new index, 3)) (hp : pc + 3 = pc') (hcc : cells + 1 = cells') (hss : slots + n = slots') (hc : cells' ≤ R.cells) (hs : slots' ≤ R.slots)
    (K : ∀ T' h' a, a = h.size → Stand p l e R s m args below meth c T' locs cells' slots' → T'.heap = h' → Ext h h' → Exa Z h' a C → (∀ {O nm d : String} {ty : FieldType}, Laid Z a0 C O nm d → parseFieldDescriptor d = some ty → Fld Z h' a O nm d (defaultValue ty)) → Go p e below P (T'.setTop (mkF m pc' L (.ref a :: S)))) : Go p e below P (T.setTop (mkF m pc L S)) := by
  subst hp hcc hss
  obtain ⟨T', h', X', e', E', A', D', -, st⟩ := newO X hx hZ hown w1 w2 w3 eT (g := mkF m pc L S) rfl hd hc hs
  exact (K T' h' h.size rfl X' e' E' A' D').via st
theorem o_initO (X : Stand p l e R s m args below meth c T locs cells slots) (hx : p.tables.exec = Jvm.exec) (hZ : Z.Warmed39 s.vm) {own : String} {index : Nat} {a : Addr} (W : Nat) (hown : s.vm.findClass own = some m.cls) (w1 : (Cond.methodLink own index Lib.objectInit).before a0 Z = true) (w2 : (Cond.instanceMethod Lib.objectInit).before a0 Z = true) (w3 : (Cond.code Lib.objectInit ⟨#[0xb1]⟩ 1 none).before a0 Z = true) (eT : T.heap = h) (hsize : L.size = c.maxLocals)
    (hd : decode c.code pc = .ok (.invokespecial index, 3)) (hp : pc + 3 = pc') (hf : 1 ≤ R.frames) (hW : (S.map fun v => v.category).sum = W) (hl : W + 12 ≤ R.locals) (K : ∀ T', Stand p l e R s m args below meth c T' locs cells slots → T'.heap = h → Go p e below P (T'.setTop (mkF m pc' L S))) : Go p e below P (T.setTop (mkF m pc L (.ref a :: S))) := by
  subst hp
  obtain ⟨T', X', e', st⟩ := initO X hx hZ hown w1 w2 w3 eT (g := mkF m pc L (.ref a :: S)) rfl hsize rfl hd hf (W := W) (by show 2 * 0 + _ ≤ _; rw [hW]; exact Nat.le_of_eq (by simp)) hl
  exact (K T' X' e').via st
theorem o_getF (X : Stand p l e R s m args below meth c T locs cells slots) (hx : p.tables.exec = Jvm.exec) (hZ : Z.Warmed39 s.vm) {own O n d : String} {index : Nat} {a : Addr} {v : Value} (hown : s.vm.findClass own = some m.cls) (w : (Cond.fieldLink own index O n d).before a0 Z = true) (eT : T.heap = h) (F : Fld Z h a O n d v) (hd : decode c.code pc = .ok (.getfield index, 3)) (hp : pc + 3 = pc')
    (K : ∀ T', Stand p l e R s m args below meth c T' locs cells slots → T'.heap = h → Go p e below P (T'.setTop (mkF m pc' L (v :: S)))) : Go p e below P (T.setTop (mkF m pc L (.ref a :: S))) := by
  subst hp
  obtain ⟨T', X', e', st⟩ := getF X hx hZ hown (host := "") (Or.inl w) Via.refl eT F (g := mkF m pc L (.ref a :: S)) rfl rfl hd
  exact (K T' X' e').via st
theorem o_putF (X : Stand p l e R s m args below meth c T locs cells slots) (hx : p.tables.exec = Jvm.exec) (hZ : Z.Warmed39 s.vm) {own O n d C : String} {index kk : Nat} {a : Addr} {v old : Value} {ty : FieldType} (hown : s.vm.findClass own = some m.cls) (w : (Cond.fieldLink own index O n d).before a0 Z = true) (eT : T.heap = h) (F : Fld Z h a O n d old) (E : Exa Z h a C)
    (LL : (Cond.lays C O n d).before a0 Z = true ∨ ((Cond.laysFinal C O n d).before a0 Z = true ∧ own = O ∧ meth.name = "<init>")) (wi : (Cond.instantiable C kk).before a0 Z = true) (hty : parseFieldDescriptor d = some ty) (hn : narrow ty v = v) (hf : fits ty v = true) (hd : decode c.code pc = .ok (.putfield index, 3)) (hp : pc + 3 = pc')
    (K : ∀ T' h', Stand p l e R s m args below meth c T' (locs ++ [⟨a, Jvm.RoadKit.slotOf Z O n d⟩]) cells slots → T'.heap = h' → Wr h h' a (Jvm.RoadKit.slotOf Z O n d) v → Go p e below P (T'.setTop (mkF m pc' L S))) : Go p e below P (T.setTop (mkF m pc L (v :: .ref a :: S))) := by
  subst hp
  obtain ⟨T', h', X', e', W', st⟩ := putF X hx hZ hown (host := "") (Or.inl w) Via.refl eT F E LL wi hty hn hf (g := mkF m pc L (v :: .ref a :: S)) rfl rfl hd
  exact (K T' h' X' e' W').via st
end Own
theorem pd_0 : parseMethodDescriptor "()V" = some ⟨[], none⟩ := by decide +kernel
theorem pd_1 : parseMethodDescriptor "(IIII)V" = some ⟨[.int, .int, .int, .int], none⟩ := by decide +kernel
theorem pd_2 : parseMethodDescriptor "()Z" = some ⟨[], some .boolean⟩ := by decide +kernel
theorem d2_0 : decode jdk_30_method_1_code 0 = .ok (.aload_n 0, 1) := by decide +kernel
theorem d2_1 : decode jdk_30_method_1_code 1 = .ok (.invokespecial 1, 3) := by decide +kernel
theorem d2_4 : decode jdk_30_method_1_code 4 = .ok (.return_, 1) := by decide +kernel
theorem ef_2 (m : MethodId) (x0 : Addr) : entryFrame m #[(.ref x0)] 1 = mkF m 0 #[.val (.ref x0)] [] := by first | (simp [entryFrame, mkF, argsToLocals, Value.category]; done) | rfl
def Q2 (Z : State) (aa : Addr) (h0 : Heap) (n0 : Nat) (v : Option Value) (h : Heap) (L : List Loc) : Prop := v = none ∧ Fr n0 L ∧ h = h0
set_option maxRecDepth 65536 in
set_option maxHeartbeats 40000000 in
theorem rm2 (l : Launch) (Z : State) (a0 : Array Value) (hw : ∀ d ∈ tables_1, d.before a0 Z = true) (ws : List Jvm.Cond) (aa : Addr) (h0 : Heap) (n0 : Nat) (Z0 : n0 ≤ h0.size)  :
    Con l (⟨"java/lang/Record", "<init>", "()V"⟩ : MethodName) jdk_30_method_1_code 1 none ws ({ frames := 1, cells := 0, slots := 0, locals := 12 } : Room) #[(.ref aa)] Z h0 (Q2 Z aa h0 n0) ({ frames := 1, cells := 0, slots := 0, locals := 12 } : Room).cells ({ frames := 1, cells := 0, slots := 0, locals := 12 } : Room).slots := by
  refine own_body (by decide +kernel) ?_
  intro p e s m below meth c s₁ hx hby hlk hml hown hnm hrt hZ X0 e0
  have w : ∀ (k : Nat) (d : Jvm.Cond), tables_1[k]? = some d → d.before a0 Z = true := fun k d h => hw d (List.mem_of_getElem? h)
  have N0 := Fr.nil n0
  rw [ef_2]
  generalize hOWE : Owe s _ _ _ = OWE
  refine o_aloadN X0 hx (hb hby d2_0) (pc' := 1) rfl rfl rfl ?_
  refine o_initO X0 hx hZ 0 hown (w 11 _ rfl) (w 12 _ rfl) (w 13 _ rfl) e0 (by rw [hml]; rfl) (hb hby d2_1) (pc' := 4) rfl (by decide) rfl (by decide) ?_
  intro T1 X1 e1
  rw [← hOWE]
  exact o_retV X1 hx hlk hrt (hb hby d2_4) (by decide) (by decide) (by rw [e1]; exact ⟨rfl, N0, rfl⟩)
theorem d1_0 : decode prog_55_method_1_code 0 = .ok (.aload_n 0, 1) := by decide +kernel
theorem d1_1 : decode prog_55_method_1_code 1 = .ok (.invokespecial 3, 3) := by decide +kernel
theorem d1_4 : decode prog_55_method_1_code 4 = .ok (.aload_n 0, 1) := by decide +kernel
theorem d1_5 : decode prog_55_method_1_code 5 = .ok (.iload_n 1, 1) := by decide +kernel
theorem d1_6 : decode prog_55_method_1_code 6 = .ok (.putfield 9, 3) := by decide +kernel
theorem d1_9 : decode prog_55_method_1_code 9 = .ok (.aload_n 0, 1) := by decide +kernel
theorem d1_10 : decode prog_55_method_1_code 10 = .ok (.iload_n 2, 1) := by decide +kernel
theorem d1_11 : decode prog_55_method_1_code 11 = .ok (.putfield 15, 3) := by decide +kernel
theorem d1_14 : decode prog_55_method_1_code 14 = .ok (.aload_n 0, 1) := by decide +kernel
theorem d1_15 : decode prog_55_method_1_code 15 = .ok (.iload_n 3, 1) := by decide +kernel
theorem d1_16 : decode prog_55_method_1_code 16 = .ok (.putfield 18, 3) := by decide +kernel
theorem d1_19 : decode prog_55_method_1_code 19 = .ok (.aload_n 0, 1) := by decide +kernel
theorem d1_20 : decode prog_55_method_1_code 20 = .ok (.iload 4, 2) := by decide +kernel
theorem d1_22 : decode prog_55_method_1_code 22 = .ok (.putfield 21, 3) := by decide +kernel
theorem d1_25 : decode prog_55_method_1_code 25 = .ok (.return_, 1) := by decide +kernel
theorem pn_1 : plainName "com/example/fieldcast/fieldcast/Sas7bdatPage$Pointer" = true := by first | (simp [plainName, overriddenIn]; done) | decide +kernel
theorem ef_1 (m : MethodId) (x0 : Addr) (x1 : Int32) (x2 : Int32) (x3 : Int32) (x4 : Int32) : entryFrame m #[(.ref x0), (.int x1), (.int x2), (.int x3), (.int x4)] 5 = mkF m 0 #[.val (.ref x0), .val (.int x1), .val (.int x2), .val (.int x3), .val (.int x4)] [] := by first | (simp [entryFrame, mkF, argsToLocals, Value.category]; done) | rfl
def Q1 (Z : State) (aa : Addr) (u0 : Value) (u1 : Value) (u2 : Value) (u3 : Value) (x1 : Int32) (x2 : Int32) (x3 : Int32) (x4 : Int32) (h0 : Heap) (n0 : Nat) (v : Option Value) (h : Heap) (L : List Loc) : Prop := v = none ∧ Fr n0 L ∧ Keep h0 h [aa] ∧ Exa Z h aa "com/example/fieldcast/fieldcast/Sas7bdatPage$Pointer" ∧ Fld Z h aa "com/example/fieldcast/fieldcast/Sas7bdatPage$Pointer" "offset" "I" (.int x1) ∧ Fld Z h aa "com/example/fieldcast/fieldcast/Sas7bdatPage$Pointer" "length" "I" (.int x2) ∧ Fld Z h aa "com/example/fieldcast/fieldcast/Sas7bdatPage$Pointer" "compression" "I" (.int x3) ∧ Fld Z h aa "com/example/fieldcast/fieldcast/Sas7bdatPage$Pointer" "type" "I" (.int x4)
set_option maxRecDepth 65536 in
set_option maxHeartbeats 40000000 in
theorem rm1 (l : Launch) (Z : State) (a0 : Array Value) (hw : ∀ d ∈ tables_1, d.before a0 Z = true) (ws : List Jvm.Cond) (aa : Addr) (u0 : Value) (u1 : Value) (u2 : Value) (u3 : Value) (x1 : Int32) (x2 : Int32) (x3 : Int32) (x4 : Int32) (h0 : Heap) (n0 : Nat) (Z0 : n0 ≤ h0.size) (E_aa : Exa Z h0 aa "com/example/fieldcast/fieldcast/Sas7bdatPage$Pointer") (F_offset_aa : Fld Z h0 aa "com/example/fieldcast/fieldcast/Sas7bdatPage$Pointer" "offset" "I" u0) (F_length_aa : Fld Z h0 aa "com/example/fieldcast/fieldcast/Sas7bdatPage$Pointer" "length" "I" u1) (F_compression_aa : Fld Z h0 aa "com/example/fieldcast/fieldcast/Sas7bdatPage$Pointer" "compression" "I" u2) (F_type_aa : Fld Z h0 aa "com/example/fieldcast/fieldcast/Sas7bdatPage$Pointer" "type" "I" u3) (g_aa : n0 ≤ aa) :
    Con l (⟨"com/example/fieldcast/fieldcast/Sas7bdatPage$Pointer", "<init>", "(IIII)V"⟩ : MethodName) prog_55_method_1_code 5 none ws ({ frames := 2, cells := 0, slots := 0, locals := 24 } : Room) #[(.ref aa), (.int x1), (.int x2), (.int x3), (.int x4)] Z h0 (Q1 Z aa u0 u1 u2 u3 x1 x2 x3 x4 h0 n0) ({ frames := 2, cells := 0, slots := 0, locals := 24 } : Room).cells ({ frames := 2, cells := 0, slots := 0, locals := 24 } : Room).slots := by
  refine own_body (plainFor_of_name pn_1) ?_
  intro p e s m below meth c s₁ hx hby hlk hml hown hnm hrt hZ X0 e0
  have w : ∀ (k : Nat) (d : Jvm.Cond), tables_1[k]? = some d → d.before a0 Z = true := fun k d h => hw d (List.mem_of_getElem? h)
  have N0 := Fr.nil n0
  have K0 := Keep.refl h0 [aa]
  rw [ef_1]
  generalize hOWE : Owe s _ _ _ = OWE
  refine o_aloadN X0 hx (hb hby d1_0) (pc' := 1) rfl rfl rfl ?_
  refine o_callI X0 hx hZ 0 (argsL := []) (rest := []) (a := aa) rfl hown (w 6 _ rfl) (w 7 _ rfl) (w 9 _ rfl) (w 10 _ rfl) (by decide) (rm2 l Z a0 hw [] aa h0 n0 Z0 ) (by decide) (by decide) (cells' := 0) rfl (slots' := 0) rfl (by decide) (by decide) e0 (by rw [hml]; rfl) (lenOf pd_0 rfl) rfl rfl (hb hby d1_1) (pc' := 4) rfl ?_
  intro T1 v1 L1 X1 hQ1
  obtain ⟨rfl, Nq1, e1⟩ := hQ1
  have N1 := Fr.app N0 Nq1
  show Go p e below _ (T1.setTop (mkF m 4 _ []))
  refine o_aloadN X1 hx (hb hby d1_4) (pc' := 5) rfl rfl rfl ?_
  refine o_iloadN X1 hx (hb hby d1_5) (pc' := 6) rfl rfl ?_
  refine o_putF X1 hx hZ hown (w 14 _ rfl) e1 F_offset_aa E_aa (Or.inr ⟨(w 15 _ rfl), rfl, hnm⟩) (w 1 _ rfl) (ty := .int) (by decide) rfl rfl (hb hby d1_6) (pc' := 9) rfl ?_
  intro T2 h2 X2 e2 W2
  have Fw2 := Fld.same W2 F_offset_aa
  have E3_aa := Exa.wr W2 E_aa
  have F3_aa_length := Fld.other W2 F_length_aa (Or.inr (slot_ne (C := "com/example/fieldcast/fieldcast/Sas7bdatPage$Pointer") (a0 := a0) (Or.inr (w 17 _ rfl)) (Or.inr (w 15 _ rfl)) (by decide) (t := .int) (t' := .int) (by decide) (by decide)))
  have F3_aa_compression := Fld.other W2 F_compression_aa (Or.inr (slot_ne (C := "com/example/fieldcast/fieldcast/Sas7bdatPage$Pointer") (a0 := a0) (Or.inr (w 19 _ rfl)) (Or.inr (w 15 _ rfl)) (by decide) (t := .int) (t' := .int) (by decide) (by decide)))
  have F3_aa_type := Fld.other W2 F_type_aa (Or.inr (slot_ne (C := "com/example/fieldcast/fieldcast/Sas7bdatPage$Pointer") (a0 := a0) (Or.inr (w 21 _ rfl)) (Or.inr (w 15 _ rfl)) (by decide) (t := .int) (t' := .int) (by decide) (by decide)))
  have N2 := Fr.snoc X2 N1 g_aa
  have Z2 : n0 ≤ h2.size := by rw [W2.size]; exact Z0
  have K2 := Keep.wr K0 W2 (Or.inl (List.mem_of_getElem? (i := 0) rfl))
  refine o_aloadN X2 hx (hb hby d1_9) (pc' := 10) rfl rfl rfl ?_
  refine o_iloadN X2 hx (hb hby d1_10) (pc' := 11) rfl rfl ?_
  refine o_putF X2 hx hZ hown (w 16 _ rfl) e2 F3_aa_length E3_aa (Or.inr ⟨(w 17 _ rfl), rfl, hnm⟩) (w 1 _ rfl) (ty := .int) (by decide) rfl rfl (hb hby d1_11) (pc' := 14) rfl ?_
  intro T4 h4 X4 e4 W4
  have Fw4 := Fld.same W4 F3_aa_length
  have E5_aa := Exa.wr W4 E3_aa
  have F5_aa_offset := Fld.other W4 Fw2 (Or.inr (slot_ne (C := "com/example/fieldcast/fieldcast/Sas7bdatPage$Pointer") (a0 := a0) (Or.inr (w 15 _ rfl)) (Or.inr (w 17 _ rfl)) (by decide) (t := .int) (t' := .int) (by decide) (by decide)))
  have F5_aa_compression := Fld.other W4 F3_aa_compression (Or.inr (slot_ne (C := "com/example/fieldcast/fieldcast/Sas7bdatPage$Pointer") (a0 := a0) (Or.inr (w 19 _ rfl)) (Or.inr (w 17 _ rfl)) (by decide) (t := .int) (t' := .int) (by decide) (by decide)))
  have F5_aa_type := Fld.other W4 F3_aa_type (Or.inr (slot_ne (C := "com/example/fieldcast/fieldcast/Sas7bdatPage$Pointer") (a0 := a0) (Or.inr (w 21 _ rfl)) (Or.inr (w 17 _ rfl)) (by decide) (t := .int) (t' := .int) (by decide) (by decide)))
  have N4 := Fr.snoc X4 N2 g_aa
  have Z4 : n0 ≤ h4.size := by rw [W4.size]; exact Z2
  have K4 := Keep.wr K2 W4 (Or.inl (List.mem_of_getElem? (i := 0) rfl))
  refine o_aloadN X4 hx (hb hby d1_14) (pc' := 15) rfl rfl rfl ?_
  refine o_iloadN X4 hx (hb hby d1_15) (pc' := 16) rfl rfl ?_
  refine o_putF X4 hx hZ hown (w 18 _ rfl) e4 F5_aa_compression E5_aa (Or.inr ⟨(w 19 _ rfl), rfl, hnm⟩) (w 1 _ rfl) (ty := .int) (by decide) rfl rfl (hb hby d1_16) (pc' := 19) rfl ?_
  intro T6 h6 X6 e6 W6
  have Fw6 := Fld.same W6 F5_aa_compression
  have E7_aa := Exa.wr W6 E5_aa
  have F7_aa_offset := Fld.other W6 F5_aa_offset (Or.inr (slot_ne (C := "com/example/fieldcast/fieldcast/Sas7bdatPage$Pointer") (a0 := a0) (Or.inr (w 15 _ rfl)) (Or.inr (w 19 _ rfl)) (by decide) (t := .int) (t' := .int) (by decide) (by decide)))
  have F7_aa_length := Fld.other W6 Fw4 (Or.inr (slot_ne (C := "com/example/fieldcast/fieldcast/Sas7bdatPage$Pointer") (a0 := a0) (Or.inr (w 17 _ rfl)) (Or.inr (w 19 _ rfl)) (by decide) (t := .int) (t' := .int) (by decide) (by decide)))
  have F7_aa_type := Fld.other W6 F5_aa_type (Or.inr (slot_ne (C := "com/example/fieldcast/fieldcast/Sas7bdatPage$Pointer") (a0 := a0) (Or.inr (w 21 _ rfl)) (Or.inr (w 19 _ rfl)) (by decide) (t := .int) (t' := .int) (by decide) (by decide)))
  have N6 := Fr.snoc X6 N4 g_aa
  have Z6 : n0 ≤ h6.size := by rw [W6.size]; exact Z4
  have K6 := Keep.wr K4 W6 (Or.inl (List.mem_of_getElem? (i := 0) rfl))
  refine o_aloadN X6 hx (hb hby d1_19) (pc' := 20) rfl rfl rfl ?_
  refine o_iload X6 hx (hb hby d1_20) (pc' := 22) rfl rfl ?_
  refine o_putF X6 hx hZ hown (w 20 _ rfl) e6 F7_aa_type E7_aa (Or.inr ⟨(w 21 _ rfl), rfl, hnm⟩) (w 1 _ rfl) (ty := .int) (by decide) rfl rfl (hb hby d1_22) (pc' := 25) rfl ?_
  intro T8 h8 X8 e8 W8
  have Fw8 := Fld.same W8 F7_aa_type
  have E9_aa := Exa.wr W8 E7_aa
  have F9_aa_offset := Fld.other W8 F7_aa_offset (Or.inr (slot_ne (C := "com/example/fieldcast/fieldcast/Sas7bdatPage$Pointer") (a0 := a0) (Or.inr (w 15 _ rfl)) (Or.inr (w 21 _ rfl)) (by decide) (t := .int) (t' := .int) (by decide) (by decide)))
  have F9_aa_length := Fld.other W8 F7_aa_length (Or.inr (slot_ne (C := "com/example/fieldcast/fieldcast/Sas7bdatPage$Pointer") (a0 := a0) (Or.inr (w 17 _ rfl)) (Or.inr (w 21 _ rfl)) (by decide) (t := .int) (t' := .int) (by decide) (by decide)))
  have F9_aa_compression := Fld.other W8 Fw6 (Or.inr (slot_ne (C := "com/example/fieldcast/fieldcast/Sas7bdatPage$Pointer") (a0 := a0) (Or.inr (w 19 _ rfl)) (Or.inr (w 21 _ rfl)) (by decide) (t := .int) (t' := .int) (by decide) (by decide)))
  have N8 := Fr.snoc X8 N6 g_aa
  have Z8 : n0 ≤ h8.size := by rw [W8.size]; exact Z6
  have K8 := Keep.wr K6 W8 (Or.inl (List.mem_of_getElem? (i := 0) rfl))
  rw [← hOWE]
  exact o_retV X8 hx hlk hrt (hb hby d1_25) (by decide) (by decide) (by rw [e8]; exact ⟨rfl, N8, K8, E9_aa, F9_aa_offset, F9_aa_length, F9_aa_compression, Fw8⟩)
theorem d4_0 : decode prog_55_method_4_code 0 = .ok (.aload_n 0, 1) := by decide +kernel
theorem d4_1 : decode prog_55_method_4_code 1 = .ok (.getfield 21, 3) := by decide +kernel
theorem d4_4 : decode prog_55_method_4_code 4 = .ok (.iconst 1, 1) := by decide +kernel
theorem d4_5 : decode prog_55_method_4_code 5 = .ok (.if_icmp .ne 22, 3) := by decide +kernel
theorem d4_8 : decode prog_55_method_4_code 8 = .ok (.aload_n 0, 1) := by decide +kernel
theorem d4_9 : decode prog_55_method_4_code 9 = .ok (.getfield 18, 3) := by decide +kernel
theorem d4_12 : decode prog_55_method_4_code 12 = .ok (.ifCond .eq 11, 3) := by decide +kernel
theorem d4_15 : decode prog_55_method_4_code 15 = .ok (.aload_n 0, 1) := by decide +kernel
theorem d4_16 : decode prog_55_method_4_code 16 = .ok (.getfield 18, 3) := by decide +kernel
theorem d4_19 : decode prog_55_method_4_code 19 = .ok (.iconst 4, 1) := by decide +kernel
theorem d4_20 : decode prog_55_method_4_code 20 = .ok (.if_icmp .ne 7, 3) := by decide +kernel
theorem d4_23 : decode prog_55_method_4_code 23 = .ok (.iconst 1, 1) := by decide +kernel
theorem d4_24 : decode prog_55_method_4_code 24 = .ok (.goto 4, 3) := by decide +kernel
theorem d4_27 : decode prog_55_method_4_code 27 = .ok (.iconst 0, 1) := by decide +kernel
theorem d4_28 : decode prog_55_method_4_code 28 = .ok (.ireturn, 1) := by decide +kernel
theorem ef_4 (m : MethodId) (x0 : Addr) : entryFrame m #[(.ref x0)] 1 = mkF m 0 #[.val (.ref x0)] [] := by first | (simp [entryFrame, mkF, argsToLocals, Value.category]; done) | rfl
def own_f4_ret (y2 : Int32) (y3 : Int32) : Int32 := (if y3 = (1 : Int32) then (if y2 = (0 : Int32) then (1 : Int32) else (if y2 = (4 : Int32) then (1 : Int32) else (0 : Int32))) else (0 : Int32))
theorem own_f4_ret_01 (y2 : Int32) (y3 : Int32) : (own_f4_ret y2 y3) = 0 ∨ (own_f4_ret y2 y3) = 1 := by
  unfold own_f4_ret
  repeat' split
  all_goals first | exact Or.inl rfl | exact Or.inr rfl
def Q4 (Z : State) (aa : Addr) (y2 : Int32) (y3 : Int32) (h0 : Heap) (n0 : Nat) (v : Option Value) (h : Heap) (L : List Loc) : Prop := v = some (.int (own_f4_ret y2 y3)) ∧ Fr n0 L ∧ h = h0
set_option maxRecDepth 65536 in
set_option maxHeartbeats 40000000 in
theorem rm4 (l : Launch) (Z : State) (a0 : Array Value) (hw : ∀ d ∈ tables_1, d.before a0 Z = true) (ws : List Jvm.Cond) (aa : Addr) (y2 : Int32) (y3 : Int32) (h0 : Heap) (n0 : Nat) (Z0 : n0 ≤ h0.size) (F_compression_aa : Fld Z h0 aa "com/example/fieldcast/fieldcast/Sas7bdatPage$Pointer" "compression" "I" (.int y2)) (F_type_aa : Fld Z h0 aa "com/example/fieldcast/fieldcast/Sas7bdatPage$Pointer" "type" "I" (.int y3)) :
    Con l (⟨"com/example/fieldcast/fieldcast/Sas7bdatPage$Pointer", "mayHoldRow", "()Z"⟩ : MethodName) prog_55_method_4_code 1 (some .boolean) ws ({ frames := 0, cells := 0, slots := 0, locals := 0 } : Room) #[(.ref aa)] Z h0 (Q4 Z aa y2 y3 h0 n0) ({ frames := 0, cells := 0, slots := 0, locals := 0 } : Room).cells ({ frames := 0, cells := 0, slots := 0, locals := 0 } : Room).slots := by
  refine own_body (plainFor_of_name pn_1) ?_
  intro p e s m below meth c s₁ hx hby hlk hml hown hnm hrt hZ X0 e0
  have w : ∀ (k : Nat) (d : Jvm.Cond), tables_1[k]? = some d → d.before a0 Z = true := fun k d h => hw d (List.mem_of_getElem? h)
  have N0 := Fr.nil n0
  rw [ef_4]
  generalize hOWE : Owe s _ _ _ = OWE
  refine o_aloadN X0 hx (hb hby d4_0) (pc' := 1) rfl rfl rfl ?_
  refine o_getF X0 hx hZ hown (w 20 _ rfl) e0 F_type_aa (hb hby d4_1) (pc' := 4) rfl ?_
  intro T1 X1 e1
  refine o_iconst X1 hx (1 : Int32) (hb hby d4_4) (pc' := 5) rfl (by decide) ?_
  by_cases hc5_2 : y3 = (1 : Int32)
  · refine o_cmpN X1 hx (hb hby d4_5) (teq hc5_2).2 (pc' := 8) rfl ?_
    refine o_aloadN X1 hx (hb hby d4_8) (pc' := 9) rfl rfl rfl ?_
    refine o_getF X1 hx hZ hown (w 18 _ rfl) e1 F_compression_aa (hb hby d4_9) (pc' := 12) rfl ?_
    intro T3 X3 e3
    by_cases hc12_4 : y2 = (0 : Int32)
    · refine o_ifY X3 hx (hb hby d4_12) (teq hc12_4).1 (by decide) (pc' := 23) (by decide) ?_
      refine o_iconst X3 hx (1 : Int32) (hb hby d4_23) (pc' := 24) rfl (by decide) ?_
      refine o_goto X3 hx (hb hby d4_24) (by decide) (pc' := 28) (by decide) ?_
      rw [← hOWE]
      exact o_retZ X3 hx rfl hlk hrt (hb hby d4_28) (by decide) (by decide) (by rw [e3]; exact ⟨(by rw [own_f4_ret, if_pos hc5_2, if_pos hc12_4]), N0, rfl⟩)
    · refine o_ifN X3 hx (hb hby d4_12) (feq hc12_4).1 (pc' := 15) rfl ?_
      refine o_aloadN X3 hx (hb hby d4_15) (pc' := 16) rfl rfl rfl ?_
      refine o_getF X3 hx hZ hown (w 18 _ rfl) e3 F_compression_aa (hb hby d4_16) (pc' := 19) rfl ?_
      intro T5 X5 e5
      refine o_iconst X5 hx (4 : Int32) (hb hby d4_19) (pc' := 20) rfl (by decide) ?_
      by_cases hc20_6 : y2 = (4 : Int32)
      · refine o_cmpN X5 hx (hb hby d4_20) (teq hc20_6).2 (pc' := 23) rfl ?_
        refine o_iconst X5 hx (1 : Int32) (hb hby d4_23) (pc' := 24) rfl (by decide) ?_
        refine o_goto X5 hx (hb hby d4_24) (by decide) (pc' := 28) (by decide) ?_
        rw [← hOWE]
        exact o_retZ X5 hx rfl hlk hrt (hb hby d4_28) (by decide) (by decide) (by rw [e5]; exact ⟨(by rw [own_f4_ret, if_pos hc5_2, if_neg hc12_4, if_pos hc20_6]), N0, rfl⟩)
      · refine o_cmpY X5 hx (hb hby d4_20) (feq hc20_6).2 (by decide) (pc' := 27) (by decide) ?_
        refine o_iconst X5 hx (0 : Int32) (hb hby d4_27) (pc' := 28) rfl (by decide) ?_
        rw [← hOWE]
        exact o_retZ X5 hx rfl hlk hrt (hb hby d4_28) (by decide) (by decide) (by rw [e5]; exact ⟨(by rw [own_f4_ret, if_pos hc5_2, if_neg hc12_4, if_neg hc20_6]), N0, rfl⟩)
  · refine o_cmpY X1 hx (hb hby d4_5) (feq hc5_2).2 (by decide) (pc' := 27) (by decide) ?_
    refine o_iconst X1 hx (0 : Int32) (hb hby d4_27) (pc' := 28) rfl (by decide) ?_
    rw [← hOWE]
    exact o_retZ X1 hx rfl hlk hrt (hb hby d4_28) (by decide) (by decide) (by rw [e1]; exact ⟨(by rw [own_f4_ret, if_neg hc5_2]), N0, rfl⟩)
theorem pn_0 : plainName "com/example/fieldcast/fieldcast/PointerMayHoldRowPinLaw" = true := by first | (simp [plainName, overriddenIn]; done) | decide +kernel
theorem ef_0 (m : MethodId) (x0 : Int32) (x1 : Int32) (x2 : Int32) (x3 : Int32) (x4 : Int32) : entryFrame m #[(.int x0), (.int x1), (.int x2), (.int x3), (.int x4)] maxLocals = mkF m 0 #[.val (.int x0), .val (.int x1), .val (.int x2), .val (.int x3), .val (.int x4), .unset, .unset, .unset, .unset, .unset, .unset] [] := by first | (simp [entryFrame, mkF, argsToLocals, Value.category, maxLocals]; done) | rfl
def own_law_v38_1_S0 (q0 : Int32) (q1 : Int32) (q2 : Int32) (q3 : Int32) (q4 : Int32) : Int32 := (if (q4 &&& (3 : Int32)) = (0 : Int32) then (1 : Int32) else (if (q4 &&& (3 : Int32)) = (1 : Int32) then (0 : Int32) else (if (q4 &&& (3 : Int32)) = (2 : Int32) then (257 : Int32) else q3)))
def own_law_x0 (q0 : Int32) (q1 : Int32) (q2 : Int32) (q3 : Int32) (q4 : Int32) : Int32 := ((uI q4 (2 : Int32)) &&& (3 : Int32))
def own_law_v78_2_S0 (q0 : Int32) (q1 : Int32) (q2 : Int32) (q3 : Int32) (q4 : Int32) : Int32 := (if (own_law_x0 q0 q1 q2 q3 q4) = (0 : Int32) then (0 : Int32) else (if (own_law_x0 q0 q1 q2 q3 q4) = (1 : Int32) then (4 : Int32) else (if (own_law_x0 q0 q1 q2 q3 q4) = (2 : Int32) then (1 : Int32) else q2)))
def own_law_v124_3_L10 (q0 : Int32) (q1 : Int32) (q2 : Int32) (q3 : Int32) (q4 : Int32) : Int32 := (if (own_law_v38_1_S0 q0 q1 q2 q3 q4) = (1 : Int32) then (if (own_law_v78_2_S0 q0 q1 q2 q3 q4) = (0 : Int32) then (1 : Int32) else (if (own_law_v78_2_S0 q0 q1 q2 q3 q4) = (4 : Int32) then (1 : Int32) else (0 : Int32))) else (0 : Int32))
theorem own_law_v124_3_L10_01 (q0 : Int32) (q1 : Int32) (q2 : Int32) (q3 : Int32) (q4 : Int32) : (own_law_v124_3_L10 q0 q1 q2 q3 q4) = 0 ∨ (own_law_v124_3_L10 q0 q1 q2 q3 q4) = 1 := by
  unfold own_law_v124_3_L10
  repeat' split
  all_goals first | exact Or.inl rfl | exact Or.inr rfl
def own_law_ret_j124_3 (q0 : Int32) (q1 : Int32) (q2 : Int32) (q3 : Int32) (q4 : Int32) : Int32 := (if (own_f4_ret (own_law_v78_2_S0 q0 q1 q2 q3 q4) (own_law_v38_1_S0 q0 q1 q2 q3 q4)) = (own_law_v124_3_L10 q0 q1 q2 q3 q4) then (1 : Int32) else (0 : Int32))
def own_law_ret_j78_2 (q0 : Int32) (q1 : Int32) (q2 : Int32) (q3 : Int32) (q4 : Int32) : Int32 := (own_law_ret_j124_3 q0 q1 q2 q3 q4)
def own_law_ret_j38_1 (q0 : Int32) (q1 : Int32) (q2 : Int32) (q3 : Int32) (q4 : Int32) : Int32 := (own_law_ret_j78_2 q0 q1 q2 q3 q4)
def own_law_ret (q0 : Int32) (q1 : Int32) (q2 : Int32) (q3 : Int32) (q4 : Int32) : Int32 := (own_law_ret_j38_1 q0 q1 q2 q3 q4)
def Q0 (Z : State) (q0 : Int32) (q1 : Int32) (q2 : Int32) (q3 : Int32) (q4 : Int32) (h0 : Heap) (n0 : Nat) (v : Option Value) (h : Heap) (L : List Loc) : Prop := v = some (.int (own_law_ret q0 q1 q2 q3 q4)) ∧ Fr n0 L
set_option maxRecDepth 65536 in
set_option maxHeartbeats 40000000 in
theorem rm0 (l : Launch) (Z : State) (a0 : Array Value) (hw : ∀ d ∈ tables_1, d.before a0 Z = true) (ws : List Jvm.Cond) (q0 : Int32) (q1 : Int32) (q2 : Int32) (q3 : Int32) (q4 : Int32) (h0 : Heap) (n0 : Nat) (Z0 : n0 ≤ h0.size)  :
    Con l x code maxLocals ret ws room_1 #[(.int q0), (.int q1), (.int q2), (.int q3), (.int q4)] Z h0 (Q0 Z q0 q1 q2 q3 q4 h0 n0) 1 4 := by
  refine own_body (plainFor_of_name pn_0) ?_
  intro p e s m below meth c s₁ hx hby hlk hml hown hnm hrt hZ X0 e0
  have w : ∀ (k : Nat) (d : Jvm.Cond), tables_1[k]? = some d → d.before a0 Z = true := fun k d h => hw d (List.mem_of_getElem? h)
  have N0 := Fr.nil n0
  have hml : c.maxLocals = 11 := hml
  rw [ef_0]
  generalize hOWE : Owe s _ _ _ = OWE
  refine o_iload X0 hx (hb hby at_0) (pc' := 2) rfl rfl ?_
  refine o_iconst X0 hx (3 : Int32) (hb hby at_2) (pc' := 3) rfl (by decide) ?_
  refine o_iand X0 hx (hb hby at_3) (pc' := 4) rfl ?_
  refine o_istore X0 hx (hb hby at_4) (pc' := 6) rfl (L' := #[.val (.int q0), .val (.int q1), .val (.int q2), .val (.int q3), .val (.int q4), .val (.int (q4 &&& (3 : Int32))), .unset, .unset, .unset, .unset, .unset]) rfl ?_
  refine o_iload X0 hx (hb hby at_6) (pc' := 8) rfl rfl ?_
  have J38_1 : ∀ (z0 : Int32), z0 = (own_law_v38_1_S0 q0 q1 q2 q3 q4) → Go p e below OWE (s₁.setTop (mkF m 38 #[.val (.int q0), .val (.int q1), .val (.int q2), .val (.int q3), .val (.int q4), .val (.int (q4 &&& (3 : Int32))), .unset, .unset, .unset, .unset, .unset] [.int z0])) := by
    intro z0 yy0
    subst yy0
    refine o_istore X0 hx (hb hby at_38) (pc' := 40) rfl (L' := #[.val (.int q0), .val (.int q1), .val (.int q2), .val (.int q3), .val (.int q4), .val (.int (q4 &&& (3 : Int32))), .val (.int (own_law_v38_1_S0 q0 q1 q2 q3 q4)), .unset, .unset, .unset, .unset]) rfl ?_
    refine o_iload X0 hx (hb hby at_40) (pc' := 42) rfl rfl ?_
    refine o_iconst X0 hx (2 : Int32) (hb hby at_42) (pc' := 43) rfl (by decide) ?_
    refine o_iushr X0 hx (hb hby at_43) (pc' := 44) rfl ?_
    refine o_iconst X0 hx (3 : Int32) (hb hby at_44) (pc' := 45) rfl (by decide) ?_
    refine o_iand X0 hx (hb hby at_45) (pc' := 46) rfl ?_
    refine o_istore (x := (own_law_x0 q0 q1 q2 q3 q4)) X0 hx (hb hby at_46) (pc' := 48) rfl (L' := #[.val (.int q0), .val (.int q1), .val (.int q2), .val (.int q3), .val (.int q4), .val (.int (q4 &&& (3 : Int32))), .val (.int (own_law_v38_1_S0 q0 q1 q2 q3 q4)), .val (.int (own_law_x0 q0 q1 q2 q3 q4)), .unset, .unset, .unset]) rfl ?_
    refine o_iload X0 hx (hb hby at_48) (pc' := 50) rfl rfl ?_
    have J78_2 : ∀ (z0 : Int32), z0 = (own_law_v78_2_S0 q0 q1 q2 q3 q4) → Go p e below OWE (s₁.setTop (mkF m 78 #[.val (.int q0), .val (.int q1), .val (.int q2), .val (.int q3), .val (.int q4), .val (.int (q4 &&& (3 : Int32))), .val (.int (own_law_v38_1_S0 q0 q1 q2 q3 q4)), .val (.int (own_law_x0 q0 q1 q2 q3 q4)), .unset, .unset, .unset] [.int z0])) := by
      intro z0 yy0
      subst yy0
      refine o_istore X0 hx (hb hby at_78) (pc' := 80) rfl (L' := #[.val (.int q0), .val (.int q1), .val (.int q2), .val (.int q3), .val (.int q4), .val (.int (q4 &&& (3 : Int32))), .val (.int (own_law_v38_1_S0 q0 q1 q2 q3 q4)), .val (.int (own_law_x0 q0 q1 q2 q3 q4)), .val (.int (own_law_v78_2_S0 q0 q1 q2 q3 q4)), .unset, .unset]) rfl ?_
      refine o_new X0 hx hZ hown (w 0 _ rfl) (w 1 _ rfl) (w 2 _ rfl) e0 (hb hby at_80) (pc' := 83) rfl (cells' := 1) rfl (slots' := 4) rfl (by decide) (by decide) ?_
      intro T3 h3 b3 qa3 X3 e3 Ex3 A3 D3
      have g_b3 : n0 ≤ b3 := by rw [qa3]; exact Z0
      have Z3 : n0 ≤ h3.size := Nat.le_trans Z0 Ex3.1
      have D3_offset : Fld Z h3 b3 "com/example/fieldcast/fieldcast/Sas7bdatPage$Pointer" "offset" "I" (.int (0 : Int32)) := D3 (Or.inr (w 15 _ rfl)) (ty := .int) (by decide)
      have D3_length : Fld Z h3 b3 "com/example/fieldcast/fieldcast/Sas7bdatPage$Pointer" "length" "I" (.int (0 : Int32)) := D3 (Or.inr (w 17 _ rfl)) (ty := .int) (by decide)
      have D3_compression : Fld Z h3 b3 "com/example/fieldcast/fieldcast/Sas7bdatPage$Pointer" "compression" "I" (.int (0 : Int32)) := D3 (Or.inr (w 19 _ rfl)) (ty := .int) (by decide)
      have D3_type : Fld Z h3 b3 "com/example/fieldcast/fieldcast/Sas7bdatPage$Pointer" "type" "I" (.int (0 : Int32)) := D3 (Or.inr (w 21 _ rfl)) (ty := .int) (by decide)
      refine o_dup X3 hx (hb hby at_83) (pc' := 84) rfl rfl ?_
      refine o_iloadN X3 hx (hb hby at_84) (pc' := 85) rfl rfl ?_
      refine o_iloadN X3 hx (hb hby at_85) (pc' := 86) rfl rfl ?_
      refine o_iload X3 hx (hb hby at_86) (pc' := 88) rfl rfl ?_
      refine o_iload X3 hx (hb hby at_88) (pc' := 90) rfl rfl ?_
      refine o_callI X3 hx hZ 1 (argsL := [.int q0, .int q1, .int (own_law_v78_2_S0 q0 q1 q2 q3 q4), .int (own_law_v38_1_S0 q0 q1 q2 q3 q4)]) (rest := [.ref b3]) (a := b3) rfl hown (w 3 _ rfl) (w 4 _ rfl) (w 2 _ rfl) (w 5 _ rfl) (by decide) (rm1 l Z a0 hw [] b3 (.int (0 : Int32)) (.int (0 : Int32)) (.int (0 : Int32)) (.int (0 : Int32)) q0 q1 (own_law_v78_2_S0 q0 q1 q2 q3 q4) (own_law_v38_1_S0 q0 q1 q2 q3 q4) h3 n0 Z3 A3 D3_offset D3_length D3_compression D3_type g_b3) (by decide) (by decide) (cells' := 1) rfl (slots' := 4) rfl (by decide) (by decide) e3 (by rw [hml]; rfl) (lenOf pd_1 rfl) rfl rfl (hb hby at_90) (pc' := 93) rfl ?_
      intro T5 v5 L5 X5 hQ5
      obtain ⟨rfl, Nq5, Kq5, P5_0, P5_1, P5_2, P5_3, P5_4⟩ := hQ5
      have N5 := Fr.app N0 Nq5
      have Z5 : n0 ≤ T5.heap.size := Nat.le_trans Z3 Kq5.1
      show Go p e below _ (T5.setTop (mkF m 93 _ [.ref b3]))
      refine o_astore X5 hx (hb hby at_93) (pc' := 95) rfl (L' := #[.val (.int q0), .val (.int q1), .val (.int q2), .val (.int q3), .val (.int q4), .val (.int (q4 &&& (3 : Int32))), .val (.int (own_law_v38_1_S0 q0 q1 q2 q3 q4)), .val (.int (own_law_x0 q0 q1 q2 q3 q4)), .val (.int (own_law_v78_2_S0 q0 q1 q2 q3 q4)), .val (.ref b3), .unset]) rfl rfl ?_
      refine o_iconst X5 hx (0 : Int32) (hb hby at_95) (pc' := 96) rfl (by decide) ?_
      refine o_istore X5 hx (hb hby at_96) (pc' := 98) rfl (L' := #[.val (.int q0), .val (.int q1), .val (.int q2), .val (.int q3), .val (.int q4), .val (.int (q4 &&& (3 : Int32))), .val (.int (own_law_v38_1_S0 q0 q1 q2 q3 q4)), .val (.int (own_law_x0 q0 q1 q2 q3 q4)), .val (.int (own_law_v78_2_S0 q0 q1 q2 q3 q4)), .val (.ref b3), .val (.int (0 : Int32))]) rfl ?_
      refine o_iload X5 hx (hb hby at_98) (pc' := 100) rfl rfl ?_
      refine o_iconst X5 hx (1 : Int32) (hb hby at_100) (pc' := 101) rfl (by decide) ?_
      have J124_3 : ∀ (z0 : Int32), z0 = (own_law_v124_3_L10 q0 q1 q2 q3 q4) → Go p e below OWE (T5.setTop (mkF m 124 #[.val (.int q0), .val (.int q1), .val (.int q2), .val (.int q3), .val (.int q4), .val (.int (q4 &&& (3 : Int32))), .val (.int (own_law_v38_1_S0 q0 q1 q2 q3 q4)), .val (.int (own_law_x0 q0 q1 q2 q3 q4)), .val (.int (own_law_v78_2_S0 q0 q1 q2 q3 q4)), .val (.ref b3), .val (.int z0)] [])) := by
        intro z0 yy0
        subst yy0
        refine o_aload X5 hx (hb hby at_124) (pc' := 126) rfl rfl rfl ?_
        refine o_callV X5 hx hZ 0 (argsL := []) (rest := []) (a := b3) hown (w 22 _ rfl) (w 23 _ rfl) (w 25 _ rfl) (w 24 _ rfl) (w 2 _ rfl) (w 26 _ rfl) (by decide) (rm4 l Z a0 hw [] b3 (own_law_v78_2_S0 q0 q1 q2 q3 q4) (own_law_v38_1_S0 q0 q1 q2 q3 q4) T5.heap n0 Z5 P5_3 P5_4) P5_0 (by decide) (by decide) (cells' := 1) rfl (slots' := 4) rfl (by decide) (by decide) rfl (by rw [hml]; rfl) (lenOf pd_2 rfl) rfl rfl (hb hby at_126) (pc' := 129) rfl ?_
        intro T8 v8 L8 X8 hQ8
        obtain ⟨rfl, Nq8, e8⟩ := hQ8
        have N8 := Fr.app N5 Nq8
        show Go p e below _ (T8.setTop (mkF m 129 _ [.int (own_f4_ret (own_law_v78_2_S0 q0 q1 q2 q3 q4) (own_law_v38_1_S0 q0 q1 q2 q3 q4))]))
        refine o_iload X8 hx (hb hby at_129) (pc' := 131) rfl rfl ?_
        by_cases hc131_9 : (own_f4_ret (own_law_v78_2_S0 q0 q1 q2 q3 q4) (own_law_v38_1_S0 q0 q1 q2 q3 q4)) = (own_law_v124_3_L10 q0 q1 q2 q3 q4)
        · refine o_cmpN X8 hx (hb hby at_131) (teq hc131_9).2 (pc' := 134) rfl ?_
          refine o_iconst X8 hx (1 : Int32) (hb hby at_134) (pc' := 135) rfl (by decide) ?_
          refine o_goto X8 hx (hb hby at_135) (by decide) (pc' := 139) (by decide) ?_
          rw [← hOWE]
          exact o_retZ X8 hx rfl hlk hrt (hb hby at_139) (by decide) (by decide) (by rw [e8]; exact ⟨(by rw [own_law_ret, own_law_ret_j38_1, own_law_ret_j78_2, own_law_ret_j124_3, if_pos hc131_9]), N8⟩)
        · refine o_cmpY X8 hx (hb hby at_131) (feq hc131_9).2 (by decide) (pc' := 138) (by decide) ?_
          refine o_iconst X8 hx (0 : Int32) (hb hby at_138) (pc' := 139) rfl (by decide) ?_
          rw [← hOWE]
          exact o_retZ X8 hx rfl hlk hrt (hb hby at_139) (by decide) (by decide) (by rw [e8]; exact ⟨(by rw [own_law_ret, own_law_ret_j38_1, own_law_ret_j78_2, own_law_ret_j124_3, if_neg hc131_9]), N8⟩)
      by_cases hc101_7 : (own_law_v38_1_S0 q0 q1 q2 q3 q4) = (1 : Int32)
      · refine o_cmpN X5 hx (hb hby at_101) (teq hc101_7).2 (pc' := 104) rfl ?_
        refine o_iload X5 hx (hb hby at_104) (pc' := 106) rfl rfl ?_
        by_cases hc106_10 : (own_law_v78_2_S0 q0 q1 q2 q3 q4) = (0 : Int32)
        · refine o_ifN X5 hx (hb hby at_106) (teq hc106_10).2 (pc' := 109) rfl ?_
          refine o_iconst X5 hx (1 : Int32) (hb hby at_109) (pc' := 110) rfl (by decide) ?_
          refine o_istore X5 hx (hb hby at_110) (pc' := 112) rfl (L' := #[.val (.int q0), .val (.int q1), .val (.int q2), .val (.int q3), .val (.int q4), .val (.int (q4 &&& (3 : Int32))), .val (.int (own_law_v38_1_S0 q0 q1 q2 q3 q4)), .val (.int (own_law_x0 q0 q1 q2 q3 q4)), .val (.int (own_law_v78_2_S0 q0 q1 q2 q3 q4)), .val (.ref b3), .val (.int (1 : Int32))]) rfl ?_
          refine o_goto X5 hx (hb hby at_112) (by decide) (pc' := 124) (by decide) ?_
          exact J124_3 ((1 : Int32)) (by rw [own_law_v124_3_L10, if_pos hc101_7, if_pos hc106_10])
        · refine o_ifY X5 hx (hb hby at_106) (feq hc106_10).2 (by decide) (pc' := 115) (by decide) ?_
          refine o_iload X5 hx (hb hby at_115) (pc' := 117) rfl rfl ?_
          refine o_iconst X5 hx (4 : Int32) (hb hby at_117) (pc' := 118) rfl (by decide) ?_
          by_cases hc118_11 : (own_law_v78_2_S0 q0 q1 q2 q3 q4) = (4 : Int32)
          · refine o_cmpN X5 hx (hb hby at_118) (teq hc118_11).2 (pc' := 121) rfl ?_
            refine o_iconst X5 hx (1 : Int32) (hb hby at_121) (pc' := 122) rfl (by decide) ?_
            refine o_istore X5 hx (hb hby at_122) (pc' := 124) rfl (L' := #[.val (.int q0), .val (.int q1), .val (.int q2), .val (.int q3), .val (.int q4), .val (.int (q4 &&& (3 : Int32))), .val (.int (own_law_v38_1_S0 q0 q1 q2 q3 q4)), .val (.int (own_law_x0 q0 q1 q2 q3 q4)), .val (.int (own_law_v78_2_S0 q0 q1 q2 q3 q4)), .val (.ref b3), .val (.int (1 : Int32))]) rfl ?_
            exact J124_3 ((1 : Int32)) (by rw [own_law_v124_3_L10, if_pos hc101_7, if_neg hc106_10, if_pos hc118_11])
          · refine o_cmpY X5 hx (hb hby at_118) (feq hc118_11).2 (by decide) (pc' := 124) (by decide) ?_
            exact J124_3 ((0 : Int32)) (by rw [own_law_v124_3_L10, if_pos hc101_7, if_neg hc106_10, if_neg hc118_11])
      · refine o_cmpY X5 hx (hb hby at_101) (feq hc101_7).2 (by decide) (pc' := 124) (by decide) ?_
        exact J124_3 ((0 : Int32)) (by rw [own_law_v124_3_L10, if_neg hc101_7])
    by_cases hc50_2 : (own_law_x0 q0 q1 q2 q3 q4) = (0 : Int32)
    · refine o_ifN X0 hx (hb hby at_50) (teq hc50_2).2 (pc' := 53) rfl ?_
      refine o_iconst X0 hx (0 : Int32) (hb hby at_53) (pc' := 54) rfl (by decide) ?_
      refine o_goto X0 hx (hb hby at_54) (by decide) (pc' := 78) (by decide) ?_
      exact J78_2 ((0 : Int32)) (by rw [own_law_v78_2_S0, if_pos hc50_2])
    · refine o_ifY X0 hx (hb hby at_50) (feq hc50_2).2 (by decide) (pc' := 57) (by decide) ?_
      refine o_iload X0 hx (hb hby at_57) (pc' := 59) rfl rfl ?_
      refine o_iconst X0 hx (1 : Int32) (hb hby at_59) (pc' := 60) rfl (by decide) ?_
      by_cases hc60_12 : (own_law_x0 q0 q1 q2 q3 q4) = (1 : Int32)
      · refine o_cmpN X0 hx (hb hby at_60) (teq hc60_12).2 (pc' := 63) rfl ?_
        refine o_iconst X0 hx (4 : Int32) (hb hby at_63) (pc' := 64) rfl (by decide) ?_
        refine o_goto X0 hx (hb hby at_64) (by decide) (pc' := 78) (by decide) ?_
        exact J78_2 ((4 : Int32)) (by rw [own_law_v78_2_S0, if_neg hc50_2, if_pos hc60_12])
      · refine o_cmpY X0 hx (hb hby at_60) (feq hc60_12).2 (by decide) (pc' := 67) (by decide) ?_
        refine o_iload X0 hx (hb hby at_67) (pc' := 69) rfl rfl ?_
        refine o_iconst X0 hx (2 : Int32) (hb hby at_69) (pc' := 70) rfl (by decide) ?_
        by_cases hc70_13 : (own_law_x0 q0 q1 q2 q3 q4) = (2 : Int32)
        · refine o_cmpN X0 hx (hb hby at_70) (teq hc70_13).2 (pc' := 73) rfl ?_
          refine o_iconst X0 hx (1 : Int32) (hb hby at_73) (pc' := 74) rfl (by decide) ?_
          refine o_goto X0 hx (hb hby at_74) (by decide) (pc' := 78) (by decide) ?_
          exact J78_2 ((1 : Int32)) (by rw [own_law_v78_2_S0, if_neg hc50_2, if_neg hc60_12, if_pos hc70_13])
        · refine o_cmpY X0 hx (hb hby at_70) (feq hc70_13).2 (by decide) (pc' := 77) (by decide) ?_
          refine o_iloadN X0 hx (hb hby at_77) (pc' := 78) rfl rfl ?_
          exact J78_2 (q2) (by rw [own_law_v78_2_S0, if_neg hc50_2, if_neg hc60_12, if_neg hc70_13])
  by_cases hc8_1 : (q4 &&& (3 : Int32)) = (0 : Int32)
  · refine o_ifN X0 hx (hb hby at_8) (teq hc8_1).2 (pc' := 11) rfl ?_
    refine o_iconst X0 hx (1 : Int32) (hb hby at_11) (pc' := 12) rfl (by decide) ?_
    refine o_goto X0 hx (hb hby at_12) (by decide) (pc' := 38) (by decide) ?_
    exact J38_1 ((1 : Int32)) (by rw [own_law_v38_1_S0, if_pos hc8_1])
  · refine o_ifY X0 hx (hb hby at_8) (feq hc8_1).2 (by decide) (pc' := 15) (by decide) ?_
    refine o_iload X0 hx (hb hby at_15) (pc' := 17) rfl rfl ?_
    refine o_iconst X0 hx (1 : Int32) (hb hby at_17) (pc' := 18) rfl (by decide) ?_
    by_cases hc18_14 : (q4 &&& (3 : Int32)) = (1 : Int32)
    · refine o_cmpN X0 hx (hb hby at_18) (teq hc18_14).2 (pc' := 21) rfl ?_
      refine o_iconst X0 hx (0 : Int32) (hb hby at_21) (pc' := 22) rfl (by decide) ?_
      refine o_goto X0 hx (hb hby at_22) (by decide) (pc' := 38) (by decide) ?_
      exact J38_1 ((0 : Int32)) (by rw [own_law_v38_1_S0, if_neg hc8_1, if_pos hc18_14])
    · refine o_cmpY X0 hx (hb hby at_18) (feq hc18_14).2 (by decide) (pc' := 25) (by decide) ?_
      refine o_iload X0 hx (hb hby at_25) (pc' := 27) rfl rfl ?_
      refine o_iconst X0 hx (2 : Int32) (hb hby at_27) (pc' := 28) rfl (by decide) ?_
      by_cases hc28_15 : (q4 &&& (3 : Int32)) = (2 : Int32)
      · refine o_cmpN X0 hx (hb hby at_28) (teq hc28_15).2 (pc' := 31) rfl ?_
        refine o_sipush X0 hx (257 : Int32) (hb hby at_31) (pc' := 34) rfl (by decide) ?_
        refine o_goto X0 hx (hb hby at_34) (by decide) (pc' := 38) (by decide) ?_
        exact J38_1 ((257 : Int32)) (by rw [own_law_v38_1_S0, if_neg hc8_1, if_neg hc18_14, if_pos hc28_15])
      · refine o_cmpY X0 hx (hb hby at_28) (feq hc28_15).2 (by decide) (pc' := 37) (by decide) ?_
        refine o_iloadN X0 hx (hb hby at_37) (pc' := 38) rfl rfl ?_
        exact J38_1 (q3) (by rw [own_law_v38_1_S0, if_neg hc8_1, if_neg hc18_14, if_neg hc28_15])
theorem own_main (q0 q1 q2 q3 q4 : Int32) : own_law_ret q0 q1 q2 q3 q4 = 1 := by
  unfold own_law_ret own_law_ret_j38_1 own_law_ret_j78_2 own_law_ret_j124_3
  rw [if_pos]
  rfl
set_option maxRecDepth 65536 in
set_option maxHeartbeats 40000000 in
theorem comes_1 {Post : Tables → Env → Array Value → State → Outcome → State → Prop} (hpost : ∀ tb e args s v u, (limb_1_1.after args s (.returned v) u = true ∧ limb_1_2.after args s (.returned v) u = true ∧ True) → FrameEnd s (.returned v) u (Jvm.fieldLocs frame_1_writes args s ++ Jvm.arrayLocs frame_1_arrays args s ++ Jvm.staticLocs frame_1_statics s) 16 128 → Post tb e args s (.returned v) u) :
    ArmFor flags0 classFile x code maxLocals ret World_1 tables_1 room_1 Calls_1 rest_1 Pre_1 Post := by
  intro l hfl _ _ p e ha hc hk s m args below hf hA hF happ hP
  obtain ⟨hcalls, hrest, hpre⟩ := hP
  obtain ⟨-, -, -, hnamed, -, -, -, hat⟩ := (Spec.applies_iff hf).mp happ
  obtain ⟨hg, hn⟩ := and_e (Cond.before_iff.mp (show (Jvm.Cond.and given_1 narrow_1).before args s = true from hpre))
  obtain ⟨hcnt, r0⟩ := and_e hg
  obtain ⟨a0, r1⟩ := and_e r0
  obtain ⟨a1, r2⟩ := and_e r1
  obtain ⟨a2, r3⟩ := and_e r2
  obtain ⟨a3, r4⟩ := and_e r3
  obtain ⟨w0, w1, w2, w3, w4, rfl⟩ : ∃ w0 w1 w2 w3 w4 : Value, args = #[w0, w1, w2, w3, w4] := by
    have hs : args.size = 5 := by simpa [Cond.value, given_1] using hcnt
    obtain ⟨L⟩ := args
    match L, hs with
    | [w0, w1, w2, w3, w4], _ => exact ⟨w0, w1, w2, w3, w4, rfl⟩
  have hw := fun d (hd : d ∈ tables_1) => atoms_spec (ws := Jvm.Cond.code x code maxLocals ret :: tables_1) hat d (List.mem_cons_of_mem _ hd)
  obtain ⟨q0, y0⟩ := is_v a0
  obtain rfl : w0 = (.int q0) := Option.some.inj y0
  obtain ⟨q1, y1⟩ := is_v a1
  obtain rfl : w1 = (.int q1) := Option.some.inj y1
  obtain ⟨q2, y2⟩ := is_v a2
  obtain rfl : w2 = (.int q2) := Option.some.inj y2
  obtain ⟨q3, y3⟩ := is_v a3
  obtain rfl : w3 = (.int q3) := Option.some.inj y3
  obtain ⟨q4, y4⟩ := is_v r4
  obtain rfl : w4 = (.int q4) := Option.some.inj y4
  obtain ⟨n, o, h1, h2, h3, _, L, rfl, ⟨rfl, N⟩, hq⟩ := rm0 l s _ hw tables_1 q0 q1 q2 q3 q4 s.heap s.heap.size (Nat.le_refl _) p e ha hc hk s m _ below hf ((Spec.applies_iff_loose hf).mp happ).1 ⟨rfl, State.Warmed39.refl s, rfl⟩ trivial
  refine ⟨n, _, h1, h2, h3, hpost _ _ _ _ _ _ ⟨Cond.after_iff.mpr rfl, Cond.after_iff.mpr (eq_i res_at (Term.int_eval (1)) (congrArg Value.int (own_main q0 q1 q2 q3 q4))), trivial⟩ ⟨hq.1, hq.2.1, (hq.2.2.sift fun y hy => Or.inr (N y hy)).mono (by decide) (by decide)⟩⟩
theorem main_1_1 : Claimed_1_1 := comes_1 fun _ _ _ _ _ _ h hF => ⟨h.1, hF⟩
theorem main_1_2 : Claimed_1_2 := comes_1 fun _ _ _ _ _ _ h hF => ⟨h.2.1, hF⟩
end Jvm.Pilot.@@N@@
namespace Jvm.Pilot.@@N@@
open Jvm Jvm.ClassFile Sem Op Lib Jvm.Free Jvm.Stand Jvm.Pilot.@@N@@.Jvm.D
/-! MADE BY PROGRAM (witnessworld.py) out of the Statement's table words and the real class files: 10 classes; the members and pool entries that the words name. The judged class is class 1, her method 1. -/
namespace start1
open Jvm.ClassFile
def u (s : String) : CpInfo := .utf8 (stringToUtf16 s)
/-- a pool by its gaps: so many unusable entries, then the entry; so many at the end -/
def gap : Nat → List CpInfo → List CpInfo
  | 0, r => r
  | n + 1, r => .unusable :: gap n r
def poolList (es : List (Nat × CpInfo)) (last : Nat) : List CpInfo := es.foldr (fun e r => gap e.1 (e.2 :: r)) (gap last [])
def pool (es : List (Nat × CpInfo)) (last : Nat) : Array CpInfo := ⟨poolList es last⟩
def fileOf (pool : Array CpInfo) (this : Nat) (attrs : Array Attribute := #[]) (ms : Array MethodInfo := #[]) (fl : Nat := 33) (sup : Nat := 0) (ifs : Array Nat := #[]) (fds : Array FieldInfo := #[]) : ClassFile where
  minorVersion := 0
  majorVersion := 65
  constantPool := pool
  accessFlags := fl
  thisClass := this
  superClass := sup
  interfaces := ifs
  fields := fds
  methods := ms
  attributes := attrs
def plain (name : String) (sup : Option ClassId) : Class where
  name := name
  kind := .ordinary
  loader := none
  accessFlags := 33
  super := sup
  interfaces := #[]
  cf := none
  fields := #[]
  methods := #[]
  instanceTypes := #[]
  staticTypes := #[]
  resolved := #[]
  callSites := []
  init := .initialized
  statics := none
  mirror := none

def pool0 : Array CpInfo := pool [(5, u "<init>"), (0, u "()V"), (1, .class_ 10), (1, u "java/lang/Object")] 113

def k0c0 : Code := { maxStack := 0, maxLocals := 1, code := object_method_1_code, exceptionTable := #[], attributes := #[] }
def k0m0 : Method := { name := "<init>", desc := "()V", sig := { parameters := [], returnType := none }, accessFlags := 1, code := some k0c0 }
/-- java/lang/Object -/
def k0 : Class := { plain "java/lang/Object" none with
  accessFlags := 33
  interfaces := #[]
  cf := some (fileOf pool0 8 #[] #[{ accessFlags := 1, nameIndex := 5, descriptorIndex := 6, attributes := #[] }] 33 0 #[] #[])
  fields := #[]
  methods := #[k0m0]
  instanceTypes := #[]
  staticTypes := #[]
  resolved := Array.replicate 124 none
  statics := none }

def pool1 : Array CpInfo := pool [(2, .class_ 4), (1, u "java/lang/Object"), (0, u "<init>"), (0, u "()V"), (0, .class_ 8), (0, u "com/example/fieldcast/fieldcast/Sas7bdatPage$Pointer"), (0, .methodref 7 10), (0, .nameAndType 5 11), (0, u "(IIII)V"), (0, .methodref 7 13), (0, .nameAndType 14 15), (0, u "mayHoldRow"), (0, u "()Z"), (0, .class_ 17), (0, u "com/example/fieldcast/fieldcast/PointerMayHoldRowPinLaw"), (2, u "law"), (0, u "(IIIII)Z")] 7

def k1m0 : Method := { name := "<init>", desc := "()V", sig := { parameters := [], returnType := none }, accessFlags := 1, code := none }
def k1c1 : Code := { maxStack := 6, maxLocals := 11, code := code, exceptionTable := #[], attributes := #[] }
def k1m1 : Method := { name := "law", desc := "(IIIII)Z", sig := { parameters := [.int, .int, .int, .int, .int], returnType := some .boolean }, accessFlags := 9, code := some k1c1 }
/-- com/example/fieldcast/fieldcast/PointerMayHoldRowPinLaw -/
def k1 : Class := { plain "com/example/fieldcast/fieldcast/PointerMayHoldRowPinLaw" (some 0) with
  accessFlags := 49
  interfaces := #[]
  cf := some (fileOf pool1 16 #[] #[{ accessFlags := 1, nameIndex := 5, descriptorIndex := 6, attributes := #[] }, { accessFlags := 9, nameIndex := 20, descriptorIndex := 21, attributes := #[] }] 49 2 #[] #[])
  fields := #[]
  methods := #[k1m0, k1m1]
  instanceTypes := #[]
  staticTypes := #[]
  resolved := Array.replicate 29 none
  statics := none }

def pool2 : Array CpInfo := pool [(1, .methodref 2 3), (0, .class_ 4), (0, .nameAndType 5 6), (0, u "java/lang/Object"), (0, u "<init>"), (0, u "()V"), (0, .class_ 8), (0, u "java/lang/Record")] 13

def k2c0 : Code := { maxStack := 1, maxLocals := 1, code := jdk_30_method_1_code, exceptionTable := #[], attributes := #[] }
def k2m0 : Method := { name := "<init>", desc := "()V", sig := { parameters := [], returnType := none }, accessFlags := 4, code := some k2c0 }
/-- java/lang/Record -/
def k2 : Class := { plain "java/lang/Record" (some 0) with
  accessFlags := 1057
  interfaces := #[]
  cf := some (fileOf pool2 7 #[] #[{ accessFlags := 4, nameIndex := 5, descriptorIndex := 6, attributes := #[] }] 1057 2 #[] #[])
  fields := #[]
  methods := #[k2m0]
  instanceTypes := #[]
  staticTypes := #[]
  resolved := Array.replicate 22 none
  statics := none }

def pool3 : Array CpInfo := pool [(1, .class_ 2), (0, u "com/example/fieldcast/fieldcast/Sas7bdatPage"), (0, .methodref 4 5), (0, .class_ 6), (0, .nameAndType 7 8), (0, u "java/lang/Record"), (0, u "<init>"), (0, u "()V"), (0, .fieldref 10 11), (0, .class_ 12), (0, .nameAndType 13 14), (0, u "com/example/fieldcast/fieldcast/Sas7bdatPage$Pointer"), (0, u "offset"), (0, u "I"), (0, .fieldref 10 16), (0, .nameAndType 17 14), (0, u "length"), (0, .fieldref 10 19), (0, .nameAndType 20 14), (0, u "compression"), (0, .fieldref 10 22), (0, .nameAndType 23 14), (0, u "type"), (12, u "(IIII)V"), (4, u "()Z"), (2, u "mayHoldRow")] 28

def k3c0 : Code := { maxStack := 2, maxLocals := 5, code := prog_55_method_1_code, exceptionTable := #[], attributes := #[] }
def k3m0 : Method := { name := "<init>", desc := "(IIII)V", sig := { parameters := [.int, .int, .int, .int], returnType := none }, accessFlags := 0, code := some k3c0 }
def k3c1 : Code := { maxStack := 2, maxLocals := 1, code := prog_55_method_4_code, exceptionTable := #[], attributes := #[] }
def k3m1 : Method := { name := "mayHoldRow", desc := "()Z", sig := { parameters := [], returnType := some .boolean }, accessFlags := 0, code := some k3c1 }
/-- com/example/fieldcast/fieldcast/Sas7bdatPage$Pointer -/
def k3 : Class := { plain "com/example/fieldcast/fieldcast/Sas7bdatPage$Pointer" (some 2) with
  accessFlags := 48
  interfaces := #[]
  cf := some (fileOf pool3 10 #[.nestHost 1] #[{ accessFlags := 0, nameIndex := 7, descriptorIndex := 36, attributes := #[] }, { accessFlags := 0, nameIndex := 44, descriptorIndex := 41, attributes := #[] }] 48 4 #[] #[{ accessFlags := 18, nameIndex := 13, descriptorIndex := 14, attributes := #[] }, { accessFlags := 18, nameIndex := 17, descriptorIndex := 14, attributes := #[] }, { accessFlags := 18, nameIndex := 20, descriptorIndex := 14, attributes := #[] }, { accessFlags := 18, nameIndex := 23, descriptorIndex := 14, attributes := #[] }])
  fields := #[{ name := "offset", type := .int, accessFlags := 18, slot := 0, constantValue := 0 }, { name := "length", type := .int, accessFlags := 18, slot := 1, constantValue := 0 }, { name := "compression", type := .int, accessFlags := 18, slot := 2, constantValue := 0 }, { name := "type", type := .int, accessFlags := 18, slot := 3, constantValue := 0 }]
  methods := #[k3m0, k3m1]
  instanceTypes := #[.int, .int, .int, .int]
  staticTypes := #[]
  resolved := Array.replicate 73 none
  statics := none }

def pool4 : Array CpInfo := pool [(1, u "java/lang/Cloneable"), (0, .class_ 1), (0, u "java/lang/Object"), (0, .class_ 3)] 3

/-- java/lang/Cloneable -/
def k4 : Class := { plain "java/lang/Cloneable" (some 0) with
  accessFlags := 1537
  interfaces := #[]
  cf := some (fileOf pool4 2 #[] #[] 1537 4 #[] #[])
  fields := #[]
  methods := #[]
  instanceTypes := #[]
  staticTypes := #[]
  resolved := Array.replicate 8 none
  statics := none }

def pool5 : Array CpInfo := pool [(1, u "java/io/Serializable"), (0, .class_ 1), (0, u "java/lang/Object"), (0, .class_ 3)] 3

/-- java/io/Serializable -/
def k5 : Class := { plain "java/io/Serializable" (some 0) with
  accessFlags := 1537
  interfaces := #[]
  cf := some (fileOf pool5 2 #[] #[] 1537 4 #[] #[])
  fields := #[]
  methods := #[]
  instanceTypes := #[]
  staticTypes := #[]
  resolved := Array.replicate 8 none
  statics := none }

/-- the primitive byte -/
def k6 : Class := { plain "byte" none with kind := .primitive 'B', accessFlags := 0x411 }
/-- [B -/
def k7 : Class := { plain "[B" (some 0) with kind := .array 6 .byte, interfaces := #[4, 5], accessFlags := 1041 }

/-- the primitive int -/
def k8 : Class := { plain "int" none with kind := .primitive 'I', accessFlags := 0x411 }
/-- [I -/
def k9 : Class := { plain "[I" (some 0) with kind := .array 8 .int, interfaces := #[4, 5], accessFlags := 1041 }

def heap : Heap := #[]
def classes : Array Class := #[k0, k1, k2, k3, k4, k5, k6, k7, k8, k9]
def interned : List (Array UInt16 × Addr) := []
def slotsUsed : Nat := 0
def theMethod : MethodId := ⟨1, 1⟩
def args0 : Array Value := #[.int 5, .int 7, .int 9, .int 9, .int 9]
def aboutOver (below : List Frame) : State where
  vm := { classes := classes, interned := interned.toArray }
  heap := heap
  slotsUsed := slotsUsed
  threads := #[{ frames := .invoking theMethod args0 :: below }]
def below0 : List Frame := [.native { method := ⟨0, 0⟩, args := #[] }]
def about1 : State := aboutOver below0
def p0 : Program := .bare "" "" ""
def e0 : Env := launch0.env 0 0 0
theorem w_frames : about1.frames = Frame.invoking theMethod args0 :: below0 := rfl
set_option maxRecDepth 65536 in
theorem w_args : argsFit about1.vm theMethod args0 = true := by decide +kernel
set_option maxRecDepth 65536 in
theorem w_heap : heapFits about1 = true := by decide +kernel
set_option maxRecDepth 65536 in
theorem w_runnable : about1.curStatus? = some .runnable := by decide +kernel
set_option maxRecDepth 65536 in
theorem w_alone : about1.alone = true := by decide +kernel
set_option maxRecDepth 65536 in
theorem w_named : about1.methodNamed? x = some theMethod := by decide +kernel
set_option maxRecDepth 65536 in
theorem w_hears : about1.hears theMethod below0 = true := by decide +kernel
set_option maxRecDepth 65536 in
theorem w_ripe : about1.ripe theMethod args0 below0 = true := by decide +kernel
theorem w_running : about1.status = .running := rfl
set_option maxRecDepth 65536 in
theorem w_room : about1.hasRoom e0.platform room_1 = true :=
  launch0.hasRoom_least _ room_1 (by decide +kernel) (by decide +kernel) (by decide +kernel) (by decide +kernel) (by decide +kernel) (by decide +kernel)
theorem allAtoms_all (ts : List Jvm.Cond) (a : Array Jvm.Value) (st : Jvm.State) : (allAtoms ts).before a st = ts.all (fun c => c.before a st) := by
  induction ts with
  | nil => rfl
  | cons c t ih =>
    show (Jvm.Cond.and c (allAtoms t)).before a st = _
    rw [Jvm.Cond.before_and, ih, List.all_cons]
def words1 : List Jvm.Cond := Jvm.Cond.code x code maxLocals ret :: tables_1
/-- a 'code' word, met by the world's own term for the bytes: nothing is compared byte by byte -/
theorem code_word {y : MethodName} {bytes : ByteArray} {mx : Nat} {rt : Option FieldType} {a : Array Value} {s : State} {m : MethodId} {meth : Method} {c : Code} (h1 : s.methodNamed? y = some m) (h2 : s.vm.method? m = some meth) (h3 : meth.code = some c) (h4 : c.code = bytes)
    (h5 : (c.maxLocals == mx && c.exceptionTable.isEmpty && decide (c.maxStack ≤ mostOperands) && decide (meth.sig.returnType = rt) && !meth.locks && decide (parseMethodDescriptor y.desc = some meth.sig)) = true) : (Jvm.Cond.code y bytes mx rt).before a s = true := by
  simp only [Bool.and_eq_true, beq_iff_eq, Bool.not_eq_true', decide_eq_true_eq] at h5
  obtain ⟨⟨⟨⟨⟨g1, g2⟩, g3⟩, g4⟩, g5⟩, g6⟩ := h5
  simp [Cond.before, Cond.holds, Cond.value, h1, h2, h3, h4, g1, g2, g3, g4, g5, g6]
def isCode : Jvm.Cond → Bool
  | .code _ _ _ _ => true
  | _ => false
theorem all_split {L : List Jvm.Cond} {P : Jvm.Cond → Bool} (h1 : L.all (fun c => isCode c || P c) = true) (h2 : ∀ c ∈ L.filter isCode, P c = true) : L.all P = true := by
  refine List.all_eq_true.mpr fun c hc => ?_
  have h := List.all_eq_true.mp h1 c hc
  rcases Bool.eq_false_or_eq_true (isCode c) with hi | hi
  · exact h2 c (List.mem_filter.mpr ⟨hc, hi⟩)
  · simpa [hi] using h
set_option maxRecDepth 65536 in
theorem w_c0 : (Jvm.Cond.code x code maxLocals ret).before args0 about1 = true := code_word (m := ⟨1, 1⟩) (meth := k1m1) (c := k1c1) (by decide +kernel) rfl rfl rfl (by decide +kernel)
set_option maxRecDepth 65536 in
theorem w_c1 : (Jvm.Cond.code ({ cls := "com/example/fieldcast/fieldcast/Sas7bdatPage$Pointer", name := "<init>", desc := "(IIII)V" } : Jvm.MethodName) prog_55_method_1_code (5 : Nat) (Option.none : Option Jvm.ClassFile.FieldType)).before args0 about1 = true := code_word (m := ⟨3, 0⟩) (meth := k3m0) (c := k3c0) (by decide +kernel) rfl rfl rfl (by decide +kernel)
set_option maxRecDepth 65536 in
theorem w_c2 : (Jvm.Cond.code ({ cls := "java/lang/Record", name := "<init>", desc := "()V" } : Jvm.MethodName) jdk_30_method_1_code (1 : Nat) (Option.none : Option Jvm.ClassFile.FieldType)).before args0 about1 = true := code_word (m := ⟨2, 0⟩) (meth := k2m0) (c := k2c0) (by decide +kernel) rfl rfl rfl (by decide +kernel)
set_option maxRecDepth 65536 in
theorem w_c3 : (Jvm.Cond.code ({ cls := "java/lang/Object", name := "<init>", desc := "()V" } : Jvm.MethodName) object_method_1_code (1 : Nat) (Option.none : Option Jvm.ClassFile.FieldType)).before args0 about1 = true := code_word (m := ⟨0, 0⟩) (meth := k0m0) (c := k0c0) (by decide +kernel) rfl rfl rfl (by decide +kernel)
set_option maxRecDepth 65536 in
theorem w_c4 : (Jvm.Cond.code ({ cls := "com/example/fieldcast/fieldcast/Sas7bdatPage$Pointer", name := "mayHoldRow", desc := "()Z" } : Jvm.MethodName) prog_55_method_4_code (1 : Nat) (Option.some Jvm.ClassFile.FieldType.boolean)).before args0 about1 = true := code_word (m := ⟨3, 1⟩) (meth := k3m1) (c := k3c1) (by decide +kernel) rfl rfl rfl (by decide +kernel)
def codes1 : List Jvm.Cond := [Jvm.Cond.code x code maxLocals ret, Jvm.Cond.code ({ cls := "com/example/fieldcast/fieldcast/Sas7bdatPage$Pointer", name := "<init>", desc := "(IIII)V" } : Jvm.MethodName) prog_55_method_1_code (5 : Nat) (Option.none : Option Jvm.ClassFile.FieldType), Jvm.Cond.code ({ cls := "java/lang/Record", name := "<init>", desc := "()V" } : Jvm.MethodName) jdk_30_method_1_code (1 : Nat) (Option.none : Option Jvm.ClassFile.FieldType), Jvm.Cond.code ({ cls := "java/lang/Object", name := "<init>", desc := "()V" } : Jvm.MethodName) object_method_1_code (1 : Nat) (Option.none : Option Jvm.ClassFile.FieldType), Jvm.Cond.code ({ cls := "com/example/fieldcast/fieldcast/Sas7bdatPage$Pointer", name := "mayHoldRow", desc := "()Z" } : Jvm.MethodName) prog_55_method_4_code (1 : Nat) (Option.some Jvm.ClassFile.FieldType.boolean)]
set_option maxRecDepth 65536 in
theorem codes_eq : words1.filter isCode = codes1 := rfl
theorem w_codes : ∀ c ∈ words1.filter isCode, c.before args0 about1 = true := by
  rw [codes_eq]
  intro c hc
  simp only [codes1, List.mem_cons, List.not_mem_nil, or_false] at hc
  rcases hc with rfl | rfl | rfl | rfl | rfl
  · exact w_c0
  · exact w_c1
  · exact w_c2
  · exact w_c3
  · exact w_c4
set_option maxRecDepth 65536 in
theorem w_t1 : (words1.take 24).all (fun c => isCode c || c.before args0 about1) = true := by decide +kernel
set_option maxRecDepth 65536 in
theorem w_t2 : (words1.drop 24).all (fun c => isCode c || c.before args0 about1) = true := by decide +kernel
theorem w_tables : (allAtoms (Jvm.Cond.code x code maxLocals ret :: tables_1)).before args0 about1 = true := by
  rw [allAtoms_all]
  show words1.all (fun c => c.before args0 about1) = true
  refine all_split ?_ w_codes
  rw [← List.take_append_drop 24 words1, List.all_append, w_t1, w_t2]
  rfl
set_option maxRecDepth 65536 in
theorem w_case : (Jvm.Cond.and given_1 narrow_1).before args0 about1 = true := by decide +kernel
theorem w_applies : (headSpec (Jvm.Cond.code x code maxLocals ret :: tables_1) room_1).applies x e0.platform about1 = true :=
  (Spec.applies_iff w_frames).mpr ⟨w_running, w_runnable, w_alone, w_named, w_hears, w_ripe, w_room, w_tables⟩
theorem atStart : AtStart classFile x code maxLocals ret World_1 tables_1 room_1 Calls_1 rest_1 Pre_1 launch0 p0 e0 about1 theMethod args0 below0 :=
  ⟨lists_1, trivial, launch0.admits_env _ _ _, launch0.least_env, fairChoices_fair.cas, fairChoices_fair.clock, w_frames, w_args, w_heap, w_applies, trivial, trivial, w_case⟩
end start1
theorem witness_1 : WitnessClaimed_1 := ⟨start1.p0, start1.e0, start1.about1, start1.theMethod, start1.args0, start1.below0, start1.atStart⟩
end Jvm.Pilot.@@N@@
