import JvmDerived
import JvmDerived.Pilot.@@N@@Statement
import JvmDerived.Pilot.@@N@@Code
set_option linter.unusedVariables false
set_option linter.unusedSimpArgs false
namespace Jvm.Pilot.@@N@@
open Jvm Jvm.ClassFile Sem Op Lib Jvm.Free Jvm.Stand Jvm.LawKit Jvm.RoadKit Bundle Jvm.Pilot.@@N@@.Jvm.D
/-- the body's goal from a state on -/
def Go (p : Program) (e : Env) (below : List Frame) (P : Outcome → State → Prop) (U : State) : Prop :=
  ∃ s₂ o, Steps p.tables e below U s₂ ∧ s₂.status = .running ∧ Ended s₂ below o ∧ P o s₂
/-- the unsigned shifts, the remainders -/
def uI (x y : Int32) : Int32 := (x.toUInt32 >>> (y &&& 31).toUInt32).toInt32
def uL (x : Int64) (y : Int32) : Int64 := (x.toUInt64 >>> (y &&& 0x3f).toInt64.toUInt64).toInt64
def sL (x : Int64) (y : Int32) : Int64 := x >>> (y &&& 0x3f).toInt64
def lL (x : Int64) (y : Int32) : Int64 := x <<< (y &&& 0x3f).toInt64
section Own
variable {p : Program} {l : Launch} {e : Env} {R : Room} {s : State} {m : MethodId} {args : Array Value} {below : List Frame} {meth : Method} {c : Code} {T : State} {locs : List Loc} {cells slots : Nat} {P : Outcome → State → Prop} {pc pc' : Nat} {L L' : Array Slot} {S : List Value} {Z : State} {a0 : Array Value} {h : Heap}
theorem Go.via {U U' : State} (q : ∀ t, Steps p.tables e below U' t → Steps p.tables e below U t) (k : Go p e below P U') : Go p e below P U := by
  obtain ⟨s₂, o, h1, h2⟩ := k
  exact ⟨s₂, o, q _ h1, h2⟩
theorem Go.tr {U U' : State} (q : Steps p.tables e below U U') (k : Go p e below P U') : Go p e below P U := k.via fun _ h => q.trans h
theorem o_iload (X : Stand p l e R s m args below meth c T locs cells slots) (hx : p.tables.exec = Jvm.exec) {k : Nat} {v : Int32} (hd : decode c.code pc = .ok (.iload k, 2)) (hp : pc + 2 = pc') (hl : L[k]? = some (.val (.int v))) (K : Go p e below P (T.setTop (mkF m pc' L (.int v :: S)))) : Go p e below P (T.setTop (mkF m pc L (S))) := by
  subst hp; exact K.via fun t k => XS.iload X.here hx rfl hd hl k
theorem o_lload (X : Stand p l e R s m args below meth c T locs cells slots) (hx : p.tables.exec = Jvm.exec) {k : Nat} {v : Int64} (hd : decode c.code pc = .ok (.lload k, 2)) (hp : pc + 2 = pc') (hl : L[k]? = some (.val (.long v))) (K : Go p e below P (T.setTop (mkF m pc' L (.long v :: S)))) : Go p e below P (T.setTop (mkF m pc L (S))) := by
  subst hp; exact K.via fun t k => XS.lload X.here hx rfl hd hl k
theorem o_lloadN (X : Stand p l e R s m args below meth c T locs cells slots) (hx : p.tables.exec = Jvm.exec) {k : Fin 4} {v : Int64} (hd : decode c.code pc = .ok (.lload_n k, 1)) (hp : pc + 1 = pc') (hl : L[k.val]? = some (.val (.long v))) (K : Go p e below P (T.setTop (mkF m pc' L (.long v :: S)))) : Go p e below P (T.setTop (mkF m pc L (S))) := by
  subst hp; exact K.via fun t k => XS.lloadN X.here hx rfl hd hl k
theorem o_aload (X : Stand p l e R s m args below meth c T locs cells slots) (hx : p.tables.exec = Jvm.exec) {k : Nat} {v : Value} (hd : decode c.code pc = .ok (.aload k, 2)) (hp : pc + 2 = pc') (hl : L[k]? = some (.val v)) (hv : v.isRef = true) (K : Go p e below P (T.setTop (mkF m pc' L (v :: S)))) : Go p e below P (T.setTop (mkF m pc L (S))) := by
  subst hp; exact K.via fun t k => XS.aload X.here hx rfl hd hl hv k
theorem o_aloadN (X : Stand p l e R s m args below meth c T locs cells slots) (hx : p.tables.exec = Jvm.exec) {k : Fin 4} {v : Value} (hd : decode c.code pc = .ok (.aload_n k, 1)) (hp : pc + 1 = pc') (hl : L[k.val]? = some (.val v)) (hv : v.isRef = true) (K : Go p e below P (T.setTop (mkF m pc' L (v :: S)))) : Go p e below P (T.setTop (mkF m pc L (S))) := by
  subst hp; exact K.via fun t k => XS.aloadN X.here hx rfl hd hl hv k
theorem o_istore (X : Stand p l e R s m args below meth c T locs cells slots) (hx : p.tables.exec = Jvm.exec) {k : Nat} {x : Int32} (hd : decode c.code pc = .ok (.istore k, 2)) (hp : pc + 2 = pc') (hl : storeLocals L k (.int x) = some L') (K : Go p e below P (T.setTop (mkF m pc' L' (S)))) : Go p e below P (T.setTop (mkF m pc L (.int x :: S))) := by
  subst hp; exact K.via fun t k => XS.istore X.here hx rfl hd rfl hl k
theorem o_lstore (X : Stand p l e R s m args below meth c T locs cells slots) (hx : p.tables.exec = Jvm.exec) {k : Nat} {x : Int64} (hd : decode c.code pc = .ok (.lstore k, 2)) (hp : pc + 2 = pc') (hl : storeLocals L k (.long x) = some L') (K : Go p e below P (T.setTop (mkF m pc' L' (S)))) : Go p e below P (T.setTop (mkF m pc L (.long x :: S))) := by
  subst hp; exact K.via fun t k => XS.lstore X.here hx rfl hd rfl hl k
theorem o_astore (X : Stand p l e R s m args below meth c T locs cells slots) (hx : p.tables.exec = Jvm.exec) {k : Nat} {x : Value} (hd : decode c.code pc = .ok (.astore k, 2)) (hp : pc + 2 = pc') (hv : x.isRef = true) (hl : storeLocals L k x = some L') (K : Go p e below P (T.setTop (mkF m pc' L' (S)))) : Go p e below P (T.setTop (mkF m pc L (x :: S))) := by
  subst hp; exact K.via fun t k => XS.astore X.here hx rfl hd rfl hv hl k
theorem o_iconst (X : Stand p l e R s m args below meth c T locs cells slots) (hx : p.tables.exec = Jvm.exec) {i : Int} (v : Int32) (hd : decode c.code pc = .ok (.iconst i, 1)) (hp : pc + 1 = pc') (hv : Int32.ofInt i = v) (K : Go p e below P (T.setTop (mkF m pc' L (.int v :: S)))) : Go p e below P (T.setTop (mkF m pc L (S))) := by
  subst hp; exact K.via fun t k => XS.iconst X.here hx rfl hd (hv ▸ k)
theorem o_lconst (X : Stand p l e R s m args below meth c T locs cells slots) (hx : p.tables.exec = Jvm.exec) {i : Fin 2} (v : Int64) (hd : decode c.code pc = .ok (.lconst i, 1)) (hp : pc + 1 = pc') (hv : Int64.ofNat i = v) (K : Go p e below P (T.setTop (mkF m pc' L (.long v :: S)))) : Go p e below P (T.setTop (mkF m pc L (S))) := by
  subst hp; exact K.via fun t k => XS.lconst X.here hx rfl hd (hv ▸ k)
theorem o_ladd (X : Stand p l e R s m args below meth c T locs cells slots) (hx : p.tables.exec = Jvm.exec) {x y : Int64} (hd : decode c.code pc = .ok (.ladd, 1)) (hp : pc + 1 = pc')  (K : Go p e below P (T.setTop (mkF m pc' L (.long (x + y) :: S)))) : Go p e below P (T.setTop (mkF m pc L (.long y :: .long x :: S))) := by
  subst hp; exact K.via fun t k => XS.ladd X.here hx rfl hd rfl k
theorem o_lsub (X : Stand p l e R s m args below meth c T locs cells slots) (hx : p.tables.exec = Jvm.exec) {x y : Int64} (hd : decode c.code pc = .ok (.lsub, 1)) (hp : pc + 1 = pc')  (K : Go p e below P (T.setTop (mkF m pc' L (.long (x - y) :: S)))) : Go p e below P (T.setTop (mkF m pc L (.long y :: .long x :: S))) := by
  subst hp; exact K.via fun t k => XS.lsub X.here hx rfl hd rfl k
theorem o_land (X : Stand p l e R s m args below meth c T locs cells slots) (hx : p.tables.exec = Jvm.exec) {x y : Int64} (hd : decode c.code pc = .ok (.land, 1)) (hp : pc + 1 = pc')  (K : Go p e below P (T.setTop (mkF m pc' L (.long (x &&& y) :: S)))) : Go p e below P (T.setTop (mkF m pc L (.long y :: .long x :: S))) := by
  subst hp; exact K.via fun t k => XS.land X.here hx rfl hd rfl k
theorem o_lrem (X : Stand p l e R s m args below meth c T locs cells slots) (hx : p.tables.exec = Jvm.exec) {x y : Int64} (hd : decode c.code pc = .ok (.lrem, 1)) (hp : pc + 1 = pc') (hy : y ≠ 0) (K : Go p e below P (T.setTop (mkF m pc' L (.long (x % y) :: S)))) : Go p e below P (T.setTop (mkF m pc L (.long y :: .long x :: S))) := by
  subst hp; rw [← lrem_mod] at K; exact K.via fun t k => XS.lrem X.here hx rfl hd rfl hy k
theorem o_dup (X : Stand p l e R s m args below meth c T locs cells slots) (hx : p.tables.exec = Jvm.exec) {x : Value} (hd : decode c.code pc = .ok (.dup, 1)) (hp : pc + 1 = pc') (hc : x.category = 1) (K : Go p e below P (T.setTop (mkF m pc' L (x :: x :: S)))) : Go p e below P (T.setTop (mkF m pc L (x :: S))) := by
  subst hp; exact K.via fun t k => XS.dup X.here hx rfl hd rfl hc k
theorem o_goto (X : Stand p l e R s m args below meth c T locs cells slots) (hx : p.tables.exec = Jvm.exec) {o : Int} (hd : decode c.code pc = .ok (.goto o, 3)) (ho : 0 ≤ (pc : Int) + o) (hp : ((pc : Int) + o).toNat = pc') (K : Go p e below P (T.setTop (mkF m pc' L S))) : Go p e below P (T.setTop (mkF m pc L S)) :=
  K.via fun t k => XS.goto X.here hx rfl rfl hd ho hp k
theorem o_ifY (X : Stand p l e R s m args below meth c T locs cells slots) (hx : p.tables.exec = Jvm.exec) {cd : ClassFile.Cond} {x : Int32} {o : Int} (hd : decode c.code pc = .ok (.ifCond cd o, 3)) (hc : if_icmp.holds cd x 0 = true) (ho : 0 ≤ (pc : Int) + o) (hp : ((pc : Int) + o).toNat = pc') (K : Go p e below P (T.setTop (mkF m pc' L S))) : Go p e below P (T.setTop (mkF m pc L (.int x :: S))) :=
  K.via fun t k => XS.ifYes X.here hx rfl rfl hd rfl ((if0 _ _).trans hc) ho hp k
theorem o_ifN (X : Stand p l e R s m args below meth c T locs cells slots) (hx : p.tables.exec = Jvm.exec) {cd : ClassFile.Cond} {x : Int32} {o : Int} (hd : decode c.code pc = .ok (.ifCond cd o, 3)) (hc : if_icmp.holds cd x 0 = false) (hp : pc + 3 = pc') (K : Go p e below P (T.setTop (mkF m pc' L S))) : Go p e below P (T.setTop (mkF m pc L (.int x :: S))) := by
  subst hp; exact K.via fun t k => XS.ifNo X.here hx rfl hd rfl ((if0 _ _).trans hc) k
theorem o_lcmp (X : Stand p l e R s m args below meth c T locs cells slots) (hx : p.tables.exec = Jvm.exec) {x y : Int64} (hd : decode c.code pc = .ok (.lcmp, 1)) (hp : pc + 1 = pc') (K : Go p e below P (T.setTop (mkF m pc' L (.int (lcmpW x y) :: S)))) : Go p e below P (T.setTop (mkF m pc L (.long y :: .long x :: S))) := by
  subst hp; exact K.via fun t k => XS.lcmp X.here hx rfl hd rfl k
theorem tltL {x y : Int64} (q : x < y) : if_icmp.holds .lt (lcmpW x y) 0 = true ∧ if_icmp.holds .ge (lcmpW x y) 0 = false ∧ if_icmp.holds .gt (lcmpW y x) 0 = true ∧ if_icmp.holds .le (lcmpW y x) 0 = false :=
  ⟨(tlt ((lw_lt x y).mpr q)).1, (tlt ((lw_lt x y).mpr q)).2.1, (tlt ((lw_gt y x).mpr q)).2.2.1, (tlt ((lw_gt y x).mpr q)).2.2.2⟩
theorem fltL {x y : Int64} (q : ¬ x < y) : if_icmp.holds .lt (lcmpW x y) 0 = false ∧ if_icmp.holds .ge (lcmpW x y) 0 = true ∧ if_icmp.holds .gt (lcmpW y x) 0 = false ∧ if_icmp.holds .le (lcmpW y x) 0 = true :=
  ⟨(flt (mt (lw_lt x y).mp q)).1, (flt (mt (lw_lt x y).mp q)).2.1, (flt (mt (lw_gt y x).mp q)).2.2.1, (flt (mt (lw_gt y x).mp q)).2.2.2⟩
theorem teqL {x y : Int64} (q : x = y) : if_icmp.holds .eq (lcmpW x y) 0 = true ∧ if_icmp.holds .ne (lcmpW x y) 0 = false := teq ((lw_eq x y).mpr q)
theorem feqL {x y : Int64} (q : ¬ x = y) : if_icmp.holds .eq (lcmpW x y) 0 = false ∧ if_icmp.holds .ne (lcmpW x y) 0 = true := feq (mt (lw_eq x y).mp q)
theorem o_ldcJ (X : Stand p l e R s m args below meth c T locs cells slots) (hx : p.tables.exec = Jvm.exec) (hZ : Z.Warmed39 s.vm) {own : String} {index : Nat} (v : Int64) (hown : s.vm.findClass own = some m.cls) (w : (Cond.constantLong own index v).before a0 Z = true) (hd : decode c.code pc = .ok (.ldc2_w index, 3)) (hp : pc + 3 = pc') (K : Go p e below P (T.setTop (mkF m pc' L (.long v :: S)))) : Go p e below P (T.setTop (mkF m pc L S)) := by
  subst hp; exact K.via (X.ldc2Long hx hown (mvT hZ w) (g := mkF m pc L S) rfl hd)
/-- what a body's end owes -/
abbrev Owe (s : State) (Q : Option Value → Heap → List Loc → Prop) (C D : Nat) : Outcome → State → Prop := fun o U' => ∃ v L, o = .returned v ∧ Q v U'.heap L ∧ FrameEnd s o U' L C D
/-- a body's contract -/
abbrev Con (l : Launch) (y : MethodName) (bytes : ByteArray) (ml : Nat) (ret : Option FieldType) (ws : List Jvm.Cond) (rm : Room) (as' : Array Value) (Z : State) (h0 : Heap) (Q : Option Value → Heap → List Loc → Prop) (C D : Nat) : Prop :=
  MetFree l y (head1 (Jvm.Cond.code y bytes ml ret :: ws) rm) (fun b U => b = as' ∧ Z.Warmed39 U.vm ∧ U.heap = h0) (fun _ _ _ _ _ => True) (fun _ U o U' => ∃ v L, o = .returned v ∧ Q v U'.heap L ∧ FrameEnd U o U' L C D)
theorem own_body {y : MethodName} {bytes : ByteArray} {ml : Nat} {ret : Option FieldType} {ws : List Jvm.Cond} {rm : Room} {as' : Array Value} {h0 : Heap} {Q : Option Value → Heap → List Loc → Prop} {C D : Nat} (hpl : plainFor y = true)
    (K : ∀ (p : Program) (e : Env) (s : State) (m : MethodId) (below : List Frame) (meth : Method) (c : Code) (s₁ : State), p.tables.exec = Jvm.exec → c.code = bytes → meth.locks = false → c.maxLocals = ml → s.vm.findClass y.cls = some m.cls → meth.name = y.name → meth.sig.returnType = ret → Z.Warmed39 s.vm →
      Stand p l e rm s m as' below meth c s₁ [] 0 0 → s₁.heap = h0 → Go p e below (Owe s Q C D) (s₁.setTop (entryFrame m as' ml))) : Con l y bytes ml ret ws rm as' Z h0 Q C D := by
  refine MetFree.of_bodySF hpl hisR ?_
  intro p e s m args below meth c s₁ Bd hml0 hP hK
  obtain ⟨rfl, hZ, hh⟩ := hP
  exact K p e s m below meth c s₁ Bd.exec Bd.bytes (BodyLoose.notSynchronized Bd) hml0 (findClass_of_methodNamed Bd.named) (name_of_methodNamed Bd.named Bd.method).1 Bd.returns hZ (Stand.of_body Bd) (by rw [← hh, Bd.state]; rfl)
theorem o_ret (X : Stand p l e R s m args below meth c T locs cells slots) (hx : p.tables.exec = Jvm.exec) {Q : Option Value → Heap → List Loc → Prop} {C D : Nat} {w : Value} {t : FieldType} {i : Instr} (hlocks : meth.locks = false) (hret : meth.sig.returnType = some t) (hn : narrow t w = w)
    (hi : (i = .ireturn ∧ (t = .int ∨ t = .boolean ∨ t = .byte ∨ t = .char ∨ t = .short) ∧ ∃ z, w = .int z) ∨ (i = .lreturn ∧ t = .long ∧ ∃ z, w = .long z) ∨ (i = .dreturn ∧ t = .double ∧ ∃ z, w = .double z) ∨ (i = .freturn ∧ t = .float ∧ ∃ z, w = .float z) ∨ (i = .areturn ∧ t.isReference = true ∧ w.isRef = true))
    (hd : decode c.code pc = .ok (i, 1)) (hc : cells ≤ C) (hs : slots ≤ D) (hq : Q (some w) T.heap locs) : Go p e below (Owe s Q C D) (T.setTop (mkF m pc L (w :: S))) := by
  obtain ⟨fs, hr, hrun, hended, hW, hsame⟩ := X.leave (v := some w) (fun h => by rw [hret] at h; cases h) hlocks
  exact ⟨_, _, retOut X hx hret hn hi hd hr, hrun, hended, _, _, rfl, hq, ⟨_, rfl⟩, hW, hsame.mono hc hs⟩
theorem o_retJ (X : Stand p l e R s m args below meth c T locs cells slots) (hx : p.tables.exec = Jvm.exec) {Q : Option Value → Heap → List Loc → Prop} {C D : Nat} {z : Int64} (hlocks : meth.locks = false) (hret : meth.sig.returnType = some .long) (hd : decode c.code pc = .ok (.lreturn, 1)) (hc : cells ≤ C) (hs : slots ≤ D) (hq : Q (some (.long z)) T.heap locs) : Go p e below (Owe s Q C D) (T.setTop (mkF m pc L (.long z :: S))) :=
  o_ret X hx hlocks hret rfl (Or.inr (Or.inl ⟨rfl, rfl, z, rfl⟩)) hd hc hs hq
theorem o_retZ (X : Stand p l e R s m args below meth c T locs cells slots) (hx : p.tables.exec = Jvm.exec) {Q : Option Value → Heap → List Loc → Prop} {C D : Nat} {z : Int32} (hz : narrow .boolean (.int z) = .int z) (hlocks : meth.locks = false) (hret : meth.sig.returnType = some .boolean) (hd : decode c.code pc = .ok (.ireturn, 1)) (hc : cells ≤ C) (hs : slots ≤ D) (hq : Q (some (.int z)) T.heap locs) : Go p e below (Owe s Q C D) (T.setTop (mkF m pc L (.int z :: S))) :=
  o_ret X hx hlocks hret hz (Or.inl ⟨rfl, Or.inr (Or.inl rfl), z, rfl⟩) hd hc hs hq
theorem o_retV (X : Stand p l e R s m args below meth c T locs cells slots) (hx : p.tables.exec = Jvm.exec) {Q : Option Value → Heap → List Loc → Prop} {C D : Nat} (hlocks : meth.locks = false) (hret : meth.sig.returnType = none) (hd : decode c.code pc = .ok (.return_, 1)) (hc : cells ≤ C) (hs : slots ≤ D) (hq : Q none T.heap locs) : Go p e below (Owe s Q C D) (T.setTop (mkF m pc L [])) := by
  obtain ⟨fs, hr, hrun, hended, hW, hsame⟩ := X.leave (v := none) (fun _ => rfl) hlocks
  exact ⟨_, _, X.returnOut hx hret hd hr, hrun, hended, _, _, rfl, hq, ⟨_, rfl⟩, hW, hsame.mono hc hs⟩
theorem o_callI (X : Stand p l e R s m args below meth c T locs cells slots) (hx : p.tables.exec = Jvm.exec) (hZ : Z.Warmed39 s.vm) {own : String} {index : Nat} {y : MethodName} {bytes : ByteArray} {maxL : Nat} {rm : Room} (W : Nat) {argsL rest : List Value} {a : Addr} {Q : Option Value → Heap → List Loc → Prop} {cells' slots' : Nat}
    (hn : y.name = "<init>") (hown : s.vm.findClass own = some m.cls) (w1 : (Cond.methodLink own index y).before a0 Z = true) (w2 : (Cond.instanceMethod y).before a0 Z = true) (w3 : (Cond.initialized y.cls).before a0 Z = true) (w4 : (Cond.code y bytes maxL none).before a0 Z = true) (hy : y.cls ≠ "java/lang/invoke/MethodHandle" ∧ y.cls ≠ "java/lang/invoke/VarHandle")
    (hM : MetFree l y (head1 [Cond.code y bytes maxL none] rm) (fun b U => b = (.ref a :: argsL).toArray ∧ Z.Warmed39 U.vm ∧ U.heap = h) (fun _ _ _ _ _ => True) (fun _ U o U' => ∃ v L, o = .returned v ∧ Q v U'.heap L ∧ FrameEnd U o U' L rm.cells rm.slots))
    (hf : rm.frames + 1 ≤ R.frames) (hl : W + (maxL + 11) + rm.locals ≤ R.locals) (hcc : cells + rm.cells = cells') (hss : slots + rm.slots = slots') (hc : cells' ≤ R.cells) (hs : slots' ≤ R.slots) (eT : T.heap = h) (hsize : L.size = c.maxLocals) (hlen : ∀ sig, parseMethodDescriptor y.desc = some sig → argsL.length = sig.parameters.length) (hstk : S = argsL.reverse ++ .ref a :: rest)
    (hW : (rest.map fun v => v.category).sum = W) (hd : decode c.code pc = .ok (.invokespecial index, 3)) (hp : pc + 3 = pc') (K : ∀ T' v Lc, Stand p l e R s m args below meth c T' (locs ++ Lc) cells' slots' → Q v T'.heap Lc → Go p e below P (T'.setTop (mkF m pc' L (v.toList ++ rest)))) : Go p e below P (T.setTop (mkF m pc L S)) := by
  subst hp hcc hss
  obtain ⟨v, _, ⟨T', L', k', n'⟩, -, X', ⟨Lc, hQ, l', y', z'⟩, st⟩ := X.specialBack hx hn hown (mvT hZ w1) (mvT hZ w2) (mvT hZ w4) hy (backOf (W := W) hM hZ w4 w3 hf hl) (g := mkF m pc L S) rfl hsize (Steps.refl _) (a := a) (argsL := argsL) (rest := rest) hlen hstk (by show 2 * 0 + _ ≤ _; rw [hW]; exact Nat.le_of_eq (by simp)) hd (fun _ _ => ⟨rfl, eT, hc, hs⟩)
  dsimp only [Pt.U, Pt.locs, Pt.cells, Pt.slots] at X' l' y' z' st hQ
  subst l' y' z'
  exact (K T' v Lc X' hQ).tr st
theorem o_callV (X : Stand p l e R s m args below meth c T locs cells slots) (hx : p.tables.exec = Jvm.exec) (hZ : Z.Warmed39 s.vm) {own C : String} {index : Nat} {y : MethodName} {bytes : ByteArray} {maxL : Nat} {ret : Option FieldType} {rm : Room} (W : Nat) {argsL rest : List Value} {a : Addr} {Q : Option Value → Heap → List Loc → Prop} {cells' slots' : Nat}
    (hown : s.vm.findClass own = some m.cls) (w1 : (Cond.methodLink own index y).before a0 Z = true) (w2 : (Cond.declares y).before a0 Z = true) (w5 : (Cond.selects C y y).before a0 Z = true) (w6 : (Cond.instanceMethod y).before a0 Z = true) (w3 : (Cond.initialized y.cls).before a0 Z = true) (w4 : (Cond.code y bytes maxL ret).before a0 Z = true) (hy : y.cls ≠ "java/lang/invoke/MethodHandle" ∧ y.cls ≠ "java/lang/invoke/VarHandle")
    (hM : MetFree l y (head1 [Cond.code y bytes maxL ret] rm) (fun b U => b = (.ref a :: argsL).toArray ∧ Z.Warmed39 U.vm ∧ U.heap = h) (fun _ _ _ _ _ => True) (fun _ U o U' => ∃ v L, o = .returned v ∧ Q v U'.heap L ∧ FrameEnd U o U' L rm.cells rm.slots))
    (hE : Exa Z h a C) (hf : rm.frames + 1 ≤ R.frames) (hl : W + (maxL + 11) + rm.locals ≤ R.locals) (hcc : cells + rm.cells = cells') (hss : slots + rm.slots = slots') (hc : cells' ≤ R.cells) (hs : slots' ≤ R.slots) (eT : T.heap = h) (hsize : L.size = c.maxLocals) (hlen : ∀ sig, parseMethodDescriptor y.desc = some sig → argsL.length = sig.parameters.length) (hstk : S = argsL.reverse ++ .ref a :: rest)
    (hW : (rest.map fun v => v.category).sum = W) (hd : decode c.code pc = .ok (.invokevirtual index, 3)) (hp : pc + 3 = pc') (K : ∀ T' v Lc, Stand p l e R s m args below meth c T' (locs ++ Lc) cells' slots' → Q v T'.heap Lc → Go p e below P (T'.setTop (mkF m pc' L (v.toList ++ rest)))) : Go p e below P (T.setTop (mkF m pc L S)) := by
  subst hp hcc hss
  obtain ⟨cq, kq, qa, qb, qc⟩ := isOf hZ eT hE
  obtain ⟨v, _, ⟨T', L', k', n'⟩, -, X', ⟨Lc, hQ, l', y', z'⟩, st⟩ := X.virtualBack hx (y := y) (z := y) hown (mvT hZ w1) (mvT hZ w2) (notFace_of_selects (args := #[]) (mvT hZ w5)) (mvT hZ w5) (mvT hZ w6) hy (backOf (W := W) hM hZ w4 w3 hf hl) qa qc (g := mkF m pc L S) rfl hsize (Steps.refl _) (argsL := argsL) (rest := rest) hlen hstk (by show 2 * 0 + _ ≤ _; rw [hW]; exact Nat.le_of_eq (by simp)) hd (fun _ _ => ⟨rfl, eT, hc, hs⟩)
  dsimp only [Pt.U, Pt.locs, Pt.cells, Pt.slots] at X' l' y' z' st hQ
  subst l' y' z'
  exact (K T' v Lc X' hQ).tr st
theorem o_new (X : Stand p l e R s m args below meth c T locs cells slots) (hx : p.tables.exec = Jvm.exec) (hZ : Z.Warmed39 s.vm) {own C : String} {index n : Nat} {cells' slots' : Nat} (hown : s.vm.findClass own = some m.cls) (w1 : (Cond.classLink own index C).before a0 Z = true) (w2 : (Cond.instantiable C n).before a0 Z = true) (w3 : (Cond.initialized C).before a0 Z = true) (eT : T.heap = h)
    (hd : decode c.code pc = .ok (.new index, 3)) (hp : pc + 3 = pc') (hcc : cells + 1 = cells') (hss : slots + n = slots') (hc : cells' ≤ R.cells) (hs : slots' ≤ R.slots)
    (K : ∀ T' h' a, a = h.size → Stand p l e R s m args below meth c T' locs cells' slots' → T'.heap = h' → Ext h h' → Exa Z h' a C → (∀ {O nm d : String} {ty : FieldType}, Laid Z a0 C O nm d → parseFieldDescriptor d = some ty → Fld Z h' a O nm d (defaultValue ty)) → Go p e below P (T'.setTop (mkF m pc' L (.ref a :: S)))) : Go p e below P (T.setTop (mkF m pc L S)) := by
  subst hp hcc hss
  obtain ⟨T', h', X', e', E', A', D', -, st⟩ := newO X hx hZ hown w1 w2 w3 eT (g := mkF m pc L S) rfl hd hc hs
  exact (K T' h' h.size rfl X' e' E' A' D').via st
theorem o_initO (X : Stand p l e R s m args below meth c T locs cells slots) (hx : p.tables.exec = Jvm.exec) (hZ : Z.Warmed39 s.vm) {own : String} {index : Nat} {a : Addr} (W : Nat) (hown : s.vm.findClass own = some m.cls) (w1 : (Cond.methodLink own index Lib.objectInit).before a0 Z = true) (w2 : (Cond.instanceMethod Lib.objectInit).before a0 Z = true) (w3 : (Cond.code Lib.objectInit ⟨#[0xb1]⟩ 1 none).before a0 Z = true) (eT : T.heap = h) (hsize : L.size = c.maxLocals)
    (hd : decode c.code pc = .ok (.invokespecial index, 3)) (hp : pc + 3 = pc') (hf : 1 ≤ R.frames) (hW : (S.map fun v => v.category).sum = W) (hl : W + 12 ≤ R.locals) (K : ∀ T', Stand p l e R s m args below meth c T' locs cells slots → T'.heap = h → Go p e below P (T'.setTop (mkF m pc' L S))) : Go p e below P (T.setTop (mkF m pc L (.ref a :: S))) := by
  subst hp
  obtain ⟨T', X', e', st⟩ := initO X hx hZ hown w1 w2 w3 eT (g := mkF m pc L (.ref a :: S)) rfl hsize rfl hd hf (W := W) (by show 2 * 0 + _ ≤ _; rw [hW]; exact Nat.le_of_eq (by simp)) hl
  exact (K T' X' e').via st
theorem o_getF (X : Stand p l e R s m args below meth c T locs cells slots) (hx : p.tables.exec = Jvm.exec) (hZ : Z.Warmed39 s.vm) {own O n d : String} {index : Nat} {a : Addr} {v : Value} (hown : s.vm.findClass own = some m.cls) (w : (Cond.fieldLink own index O n d).before a0 Z = true) (eT : T.heap = h) (F : Fld Z h a O n d v) (hd : decode c.code pc = .ok (.getfield index, 3)) (hp : pc + 3 = pc')
    (K : ∀ T', Stand p l e R s m args below meth c T' locs cells slots → T'.heap = h → Go p e below P (T'.setTop (mkF m pc' L (v :: S)))) : Go p e below P (T.setTop (mkF m pc L (.ref a :: S))) := by
  subst hp
  obtain ⟨T', X', e', st⟩ := getF X hx hZ hown (host := "") (Or.inl w) Via.refl eT F (g := mkF m pc L (.ref a :: S)) rfl rfl hd
  exact (K T' X' e').via st
theorem o_putF (X : Stand p l e R s m args below meth c T locs cells slots) (hx : p.tables.exec = Jvm.exec) (hZ : Z.Warmed39 s.vm) {own O n d C : String} {index kk : Nat} {a : Addr} {v old : Value} {ty : FieldType} (hown : s.vm.findClass own = some m.cls) (w : (Cond.fieldLink own index O n d).before a0 Z = true) (eT : T.heap = h) (F : Fld Z h a O n d old) (E : Exa Z h a C)
    (LL : (Cond.lays C O n d).before a0 Z = true ∨ ((Cond.laysFinal C O n d).before a0 Z = true ∧ own = O ∧ meth.name = "<init>")) (wi : (Cond.instantiable C kk).before a0 Z = true) (hty : parseFieldDescriptor d = some ty) (hn : narrow ty v = v) (hf : fits ty v = true) (hd : decode c.code pc = .ok (.putfield index, 3)) (hp : pc + 3 = pc')
    (K : ∀ T' h', Stand p l e R s m args below meth c T' (locs ++ [⟨a, Jvm.RoadKit.slotOf Z O n d⟩]) cells slots → T'.heap = h' → Wr h h' a (Jvm.RoadKit.slotOf Z O n d) v → Go p e below P (T'.setTop (mkF m pc' L S))) : Go p e below P (T.setTop (mkF m pc L (v :: .ref a :: S))) := by
  subst hp
  obtain ⟨T', h', X', e', W', st⟩ := putF X hx hZ hown (host := "") (Or.inl w) Via.refl eT F E LL wi hty hn hf (g := mkF m pc L (v :: .ref a :: S)) rfl rfl hd
  exact (K T' h' X' e' W').via st
end Own
theorem pd_0 : parseMethodDescriptor "()V" = some ⟨[], none⟩ := by decide +kernel
theorem pd_1 : parseMethodDescriptor "(JJ)V" = some ⟨[.long, .long], none⟩ := by decide +kernel
theorem pd_2 : parseMethodDescriptor "()J" = some ⟨[], some .long⟩ := by decide +kernel
theorem d2_0 : decode jdk_30_method_1_code 0 = .ok (.aload_n 0, 1) := by decide +kernel
theorem d2_1 : decode jdk_30_method_1_code 1 = .ok (.invokespecial 1, 3) := by decide +kernel
theorem d2_4 : decode jdk_30_method_1_code 4 = .ok (.return_, 1) := by decide +kernel
theorem ef_2 (m : MethodId) (x0 : Addr) : entryFrame m #[(.ref x0)] 1 = mkF m 0 #[.val (.ref x0)] [] := by first | (simp [entryFrame, mkF, argsToLocals, Value.category]; done) | rfl
def Q2 (Z : State) (aa : Addr) (h0 : Heap) (n0 : Nat) (v : Option Value) (h : Heap) (L : List Loc) : Prop := v = none ∧ Fr n0 L ∧ h = h0
set_option maxRecDepth 65536 in
set_option maxHeartbeats 40000000 in
theorem rm2 (l : Launch) (Z : State) (a0 : Array Value) (hw : ∀ d ∈ tables_1, d.before a0 Z = true) (ws : List Jvm.Cond) (aa : Addr) (h0 : Heap) (n0 : Nat) (Z0 : n0 ≤ h0.size)  :
    Con l (⟨"java/lang/Record", "<init>", "()V"⟩ : MethodName) jdk_30_method_1_code 1 none ws ({ frames := 1, cells := 0, slots := 0, locals := 12 } : Room) #[(.ref aa)] Z h0 (Q2 Z aa h0 n0) ({ frames := 1, cells := 0, slots := 0, locals := 12 } : Room).cells ({ frames := 1, cells := 0, slots := 0, locals := 12 } : Room).slots := by
  refine own_body (by decide +kernel) ?_
  intro p e s m below meth c s₁ hx hby hlk hml hown hnm hrt hZ X0 e0
  have w : ∀ (k : Nat) (d : Jvm.Cond), tables_1[k]? = some d → d.before a0 Z = true := fun k d h => hw d (List.mem_of_getElem? h)
  have N0 := Fr.nil n0
  rw [ef_2]
  generalize hOWE : Owe s _ _ _ = OWE
  refine o_aloadN X0 hx (hb hby d2_0) (pc' := 1) rfl rfl rfl ?_
  refine o_initO X0 hx hZ 0 hown (w 13 _ rfl) (w 14 _ rfl) (w 15 _ rfl) e0 (by rw [hml]; rfl) (hb hby d2_1) (pc' := 4) rfl (by decide) rfl (by decide) ?_
  intro T1 X1 e1
  rw [← hOWE]
  exact o_retV X1 hx hlk hrt (hb hby d2_4) (by decide) (by decide) (by rw [e1]; exact ⟨rfl, N0, rfl⟩)
theorem d1_0 : decode prog_24_method_1_code 0 = .ok (.aload_n 0, 1) := by decide +kernel
theorem d1_1 : decode prog_24_method_1_code 1 = .ok (.invokespecial 3, 3) := by decide +kernel
theorem d1_4 : decode prog_24_method_1_code 4 = .ok (.lload_n 1, 1) := by decide +kernel
theorem d1_5 : decode prog_24_method_1_code 5 = .ok (.lconst 1, 1) := by decide +kernel
theorem d1_6 : decode prog_24_method_1_code 6 = .ok (.lcmp, 1) := by decide +kernel
theorem d1_7 : decode prog_24_method_1_code 7 = .ok (.ifCond .ge 17, 3) := by decide +kernel
theorem d1_10 : decode prog_24_method_1_code 10 = .ok (.new 11, 3) := by decide +kernel
theorem d1_13 : decode prog_24_method_1_code 13 = .ok (.dup, 1) := by decide +kernel
theorem d1_14 : decode prog_24_method_1_code 14 = .ok (.lload_n 1, 1) := by decide +kernel
theorem d1_15 : decode prog_24_method_1_code 15 = .ok (.invokedynamic 13, 5) := by decide +kernel
theorem d1_20 : decode prog_24_method_1_code 20 = .ok (.invokespecial 17, 3) := by decide +kernel
theorem d1_23 : decode prog_24_method_1_code 23 = .ok (.athrow, 1) := by decide +kernel
theorem d1_24 : decode prog_24_method_1_code 24 = .ok (.lload_n 3, 1) := by decide +kernel
theorem d1_25 : decode prog_24_method_1_code 25 = .ok (.lconst 1, 1) := by decide +kernel
theorem d1_26 : decode prog_24_method_1_code 26 = .ok (.lcmp, 1) := by decide +kernel
theorem d1_27 : decode prog_24_method_1_code 27 = .ok (.ifCond .lt 13, 3) := by decide +kernel
theorem d1_30 : decode prog_24_method_1_code 30 = .ok (.lload_n 3, 1) := by decide +kernel
theorem d1_31 : decode prog_24_method_1_code 31 = .ok (.ldc2_w 20, 3) := by decide +kernel
theorem d1_34 : decode prog_24_method_1_code 34 = .ok (.lload_n 1, 1) := by decide +kernel
theorem d1_35 : decode prog_24_method_1_code 35 = .ok (.lsub, 1) := by decide +kernel
theorem d1_36 : decode prog_24_method_1_code 36 = .ok (.lcmp, 1) := by decide +kernel
theorem d1_37 : decode prog_24_method_1_code 37 = .ok (.ifCond .le 18, 3) := by decide +kernel
theorem d1_40 : decode prog_24_method_1_code 40 = .ok (.new 11, 3) := by decide +kernel
theorem d1_43 : decode prog_24_method_1_code 43 = .ok (.dup, 1) := by decide +kernel
theorem d1_44 : decode prog_24_method_1_code 44 = .ok (.lload_n 3, 1) := by decide +kernel
theorem d1_45 : decode prog_24_method_1_code 45 = .ok (.lload_n 1, 1) := by decide +kernel
theorem d1_46 : decode prog_24_method_1_code 46 = .ok (.invokedynamic 22, 5) := by decide +kernel
theorem d1_51 : decode prog_24_method_1_code 51 = .ok (.invokespecial 17, 3) := by decide +kernel
theorem d1_54 : decode prog_24_method_1_code 54 = .ok (.athrow, 1) := by decide +kernel
theorem d1_55 : decode prog_24_method_1_code 55 = .ok (.aload_n 0, 1) := by decide +kernel
theorem d1_56 : decode prog_24_method_1_code 56 = .ok (.lload_n 1, 1) := by decide +kernel
theorem d1_57 : decode prog_24_method_1_code 57 = .ok (.putfield 25, 3) := by decide +kernel
theorem d1_60 : decode prog_24_method_1_code 60 = .ok (.aload_n 0, 1) := by decide +kernel
theorem d1_61 : decode prog_24_method_1_code 61 = .ok (.lload_n 3, 1) := by decide +kernel
theorem d1_62 : decode prog_24_method_1_code 62 = .ok (.putfield 29, 3) := by decide +kernel
theorem d1_65 : decode prog_24_method_1_code 65 = .ok (.return_, 1) := by decide +kernel
theorem pn_1 : plainName "com/example/seshat/seshat/model/Reservation" = true := by first | (simp [plainName, overriddenIn]; done) | decide +kernel
theorem ef_1 (m : MethodId) (x0 : Addr) (x1 : Int64) (x2 : Int64) : entryFrame m #[(.ref x0), (.long x1), (.long x2)] 5 = mkF m 0 #[.val (.ref x0), .val (.long x1), .second, .val (.long x2), .second] [] := by first | (simp [entryFrame, mkF, argsToLocals, Value.category]; done) | rfl
def Q1 (Z : State) (aa : Addr) (u0 : Value) (u1 : Value) (x1 : Int64) (x2 : Int64) (h0 : Heap) (n0 : Nat) (v : Option Value) (h : Heap) (L : List Loc) : Prop := v = none ∧ Fr n0 L ∧ Keep h0 h [aa] ∧ Exa Z h aa "com/example/seshat/seshat/model/Reservation" ∧ Fld Z h aa "com/example/seshat/seshat/model/Reservation" "first" "J" (.long x1) ∧ Fld Z h aa "com/example/seshat/seshat/model/Reservation" "count" "J" (.long x2)
set_option maxRecDepth 65536 in
set_option maxHeartbeats 40000000 in
theorem rm1 (l : Launch) (Z : State) (a0 : Array Value) (hw : ∀ d ∈ tables_1, d.before a0 Z = true) (ws : List Jvm.Cond) (aa : Addr) (u0 : Value) (u1 : Value) (x1 : Int64) (x2 : Int64) (h0 : Heap) (n0 : Nat) (Z0 : n0 ≤ h0.size) (E_aa : Exa Z h0 aa "com/example/seshat/seshat/model/Reservation") (F_first_aa : Fld Z h0 aa "com/example/seshat/seshat/model/Reservation" "first" "J" u0) (F_count_aa : Fld Z h0 aa "com/example/seshat/seshat/model/Reservation" "count" "J" u1) (g_aa : n0 ≤ aa) (hp1 : ¬ x1 < (1 : Int64)) (hp2 : ¬ x2 < (1 : Int64)) (hp3 : ¬ ((9223372036854775807 : Int64) - x1) < x2) :
    Con l (⟨"com/example/seshat/seshat/model/Reservation", "<init>", "(JJ)V"⟩ : MethodName) prog_24_method_1_code 5 none ws ({ frames := 2, cells := 0, slots := 0, locals := 24 } : Room) #[(.ref aa), (.long x1), (.long x2)] Z h0 (Q1 Z aa u0 u1 x1 x2 h0 n0) ({ frames := 2, cells := 0, slots := 0, locals := 24 } : Room).cells ({ frames := 2, cells := 0, slots := 0, locals := 24 } : Room).slots := by
  refine own_body (plainFor_of_name pn_1) ?_
  intro p e s m below meth c s₁ hx hby hlk hml hown hnm hrt hZ X0 e0
  have w : ∀ (k : Nat) (d : Jvm.Cond), tables_1[k]? = some d → d.before a0 Z = true := fun k d h => hw d (List.mem_of_getElem? h)
  have N0 := Fr.nil n0
  have K0 := Keep.refl h0 [aa]
  rw [ef_1]
  generalize hOWE : Owe s _ _ _ = OWE
  refine o_aloadN X0 hx (hb hby d1_0) (pc' := 1) rfl rfl rfl ?_
  refine o_callI X0 hx hZ 0 (argsL := []) (rest := []) (a := aa) rfl hown (w 8 _ rfl) (w 9 _ rfl) (w 11 _ rfl) (w 12 _ rfl) (by decide) (rm2 l Z a0 hw [] aa h0 n0 Z0 ) (by decide) (by decide) (cells' := 0) rfl (slots' := 0) rfl (by decide) (by decide) e0 (by rw [hml]; rfl) (lenOf pd_0 rfl) rfl rfl (hb hby d1_1) (pc' := 4) rfl ?_
  intro T1 v1 L1 X1 hQ1
  obtain ⟨rfl, Nq1, e1⟩ := hQ1
  have N1 := Fr.app N0 Nq1
  show Go p e below _ (T1.setTop (mkF m 4 _ []))
  refine o_lloadN X1 hx (hb hby d1_4) (pc' := 5) rfl rfl ?_
  refine o_lconst X1 hx (1 : Int64) (hb hby d1_5) (pc' := 6) rfl (by decide) ?_
  refine o_lcmp X1 hx (hb hby d1_6) (pc' := 7) rfl ?_
  refine o_ifY X1 hx (hb hby d1_7) (fltL (hp1 : ¬ (x1 < (1 : Int64)))).2.1 (by decide) (pc' := 24) (by decide) ?_
  refine o_lloadN X1 hx (hb hby d1_24) (pc' := 25) rfl rfl ?_
  refine o_lconst X1 hx (1 : Int64) (hb hby d1_25) (pc' := 26) rfl (by decide) ?_
  refine o_lcmp X1 hx (hb hby d1_26) (pc' := 27) rfl ?_
  refine o_ifN X1 hx (hb hby d1_27) (fltL (hp2 : ¬ (x2 < (1 : Int64)))).1 (pc' := 30) rfl ?_
  refine o_lloadN X1 hx (hb hby d1_30) (pc' := 31) rfl rfl ?_
  refine o_ldcJ X1 hx hZ (9223372036854775807 : Int64) hown (w 16 _ rfl) (hb hby d1_31) (pc' := 34) rfl ?_
  refine o_lloadN X1 hx (hb hby d1_34) (pc' := 35) rfl rfl ?_
  refine o_lsub X1 hx (hb hby d1_35) (pc' := 36) rfl ?_
  refine o_lcmp X1 hx (hb hby d1_36) (pc' := 37) rfl ?_
  refine o_ifY X1 hx (hb hby d1_37) (fltL (hp3 : ¬ (((9223372036854775807 : Int64) - x1) < x2))).2.2.2 (by decide) (pc' := 55) (by decide) ?_
  refine o_aloadN X1 hx (hb hby d1_55) (pc' := 56) rfl rfl rfl ?_
  refine o_lloadN X1 hx (hb hby d1_56) (pc' := 57) rfl rfl ?_
  refine o_putF X1 hx hZ hown (w 17 _ rfl) e1 F_first_aa E_aa (Or.inr ⟨(w 18 _ rfl), rfl, hnm⟩) (w 3 _ rfl) (ty := .long) (by decide) rfl rfl (hb hby d1_57) (pc' := 60) rfl ?_
  intro T2 h2 X2 e2 W2
  have Fw2 := Fld.same W2 F_first_aa
  have E3_aa := Exa.wr W2 E_aa
  have F3_aa_count := Fld.other W2 F_count_aa (Or.inr (slot_ne (C := "com/example/seshat/seshat/model/Reservation") (a0 := a0) (Or.inr (w 20 _ rfl)) (Or.inr (w 18 _ rfl)) (by decide) (t := .long) (t' := .long) (by decide) (by decide)))
  have N2 := Fr.snoc X2 N1 g_aa
  have Z2 : n0 ≤ h2.size := by rw [W2.size]; exact Z0
  have K2 := Keep.wr K0 W2 (Or.inl (List.mem_of_getElem? (i := 0) rfl))
  refine o_aloadN X2 hx (hb hby d1_60) (pc' := 61) rfl rfl rfl ?_
  refine o_lloadN X2 hx (hb hby d1_61) (pc' := 62) rfl rfl ?_
  refine o_putF X2 hx hZ hown (w 19 _ rfl) e2 F3_aa_count E3_aa (Or.inr ⟨(w 20 _ rfl), rfl, hnm⟩) (w 3 _ rfl) (ty := .long) (by decide) rfl rfl (hb hby d1_62) (pc' := 65) rfl ?_
  intro T4 h4 X4 e4 W4
  have Fw4 := Fld.same W4 F3_aa_count
  have E5_aa := Exa.wr W4 E3_aa
  have F5_aa_first := Fld.other W4 Fw2 (Or.inr (slot_ne (C := "com/example/seshat/seshat/model/Reservation") (a0 := a0) (Or.inr (w 18 _ rfl)) (Or.inr (w 20 _ rfl)) (by decide) (t := .long) (t' := .long) (by decide) (by decide)))
  have N4 := Fr.snoc X4 N2 g_aa
  have Z4 : n0 ≤ h4.size := by rw [W4.size]; exact Z2
  have K4 := Keep.wr K2 W4 (Or.inl (List.mem_of_getElem? (i := 0) rfl))
  rw [← hOWE]
  exact o_retV X4 hx hlk hrt (hb hby d1_65) (by decide) (by decide) (by rw [e4]; exact ⟨rfl, N4, K4, E5_aa, F5_aa_first, Fw4⟩)
theorem d4_0 : decode prog_24_method_3_code 0 = .ok (.aload_n 0, 1) := by decide +kernel
theorem d4_1 : decode prog_24_method_3_code 1 = .ok (.getfield 25, 3) := by decide +kernel
theorem d4_4 : decode prog_24_method_3_code 4 = .ok (.aload_n 0, 1) := by decide +kernel
theorem d4_5 : decode prog_24_method_3_code 5 = .ok (.getfield 29, 3) := by decide +kernel
theorem d4_8 : decode prog_24_method_3_code 8 = .ok (.ladd, 1) := by decide +kernel
theorem d4_9 : decode prog_24_method_3_code 9 = .ok (.lconst 1, 1) := by decide +kernel
theorem d4_10 : decode prog_24_method_3_code 10 = .ok (.lsub, 1) := by decide +kernel
theorem d4_11 : decode prog_24_method_3_code 11 = .ok (.lreturn, 1) := by decide +kernel
theorem ef_4 (m : MethodId) (x0 : Addr) : entryFrame m #[(.ref x0)] 1 = mkF m 0 #[.val (.ref x0)] [] := by first | (simp [entryFrame, mkF, argsToLocals, Value.category]; done) | rfl
def own_f4_ret (y0 : Int64) (y1 : Int64) : Int64 := ((y0 + y1) - (1 : Int64))
def Q4 (Z : State) (aa : Addr) (y0 : Int64) (y1 : Int64) (h0 : Heap) (n0 : Nat) (v : Option Value) (h : Heap) (L : List Loc) : Prop := v = some (.long (own_f4_ret y0 y1)) ∧ Fr n0 L ∧ h = h0
set_option maxRecDepth 65536 in
set_option maxHeartbeats 40000000 in
theorem rm4 (l : Launch) (Z : State) (a0 : Array Value) (hw : ∀ d ∈ tables_1, d.before a0 Z = true) (ws : List Jvm.Cond) (aa : Addr) (y0 : Int64) (y1 : Int64) (h0 : Heap) (n0 : Nat) (Z0 : n0 ≤ h0.size) (F_first_aa : Fld Z h0 aa "com/example/seshat/seshat/model/Reservation" "first" "J" (.long y0)) (F_count_aa : Fld Z h0 aa "com/example/seshat/seshat/model/Reservation" "count" "J" (.long y1)) :
    Con l (⟨"com/example/seshat/seshat/model/Reservation", "last", "()J"⟩ : MethodName) prog_24_method_3_code 1 (some .long) ws ({ frames := 0, cells := 0, slots := 0, locals := 0 } : Room) #[(.ref aa)] Z h0 (Q4 Z aa y0 y1 h0 n0) ({ frames := 0, cells := 0, slots := 0, locals := 0 } : Room).cells ({ frames := 0, cells := 0, slots := 0, locals := 0 } : Room).slots := by
  refine own_body (plainFor_of_name pn_1) ?_
  intro p e s m below meth c s₁ hx hby hlk hml hown hnm hrt hZ X0 e0
  have w : ∀ (k : Nat) (d : Jvm.Cond), tables_1[k]? = some d → d.before a0 Z = true := fun k d h => hw d (List.mem_of_getElem? h)
  have N0 := Fr.nil n0
  rw [ef_4]
  generalize hOWE : Owe s _ _ _ = OWE
  refine o_aloadN X0 hx (hb hby d4_0) (pc' := 1) rfl rfl rfl ?_
  refine o_getF X0 hx hZ hown (w 17 _ rfl) e0 F_first_aa (hb hby d4_1) (pc' := 4) rfl ?_
  intro T1 X1 e1
  refine o_aloadN X1 hx (hb hby d4_4) (pc' := 5) rfl rfl rfl ?_
  refine o_getF X1 hx hZ hown (w 19 _ rfl) e1 F_count_aa (hb hby d4_5) (pc' := 8) rfl ?_
  intro T2 X2 e2
  refine o_ladd X2 hx (hb hby d4_8) (pc' := 9) rfl ?_
  refine o_lconst X2 hx (1 : Int64) (hb hby d4_9) (pc' := 10) rfl (by decide) ?_
  refine o_lsub X2 hx (hb hby d4_10) (pc' := 11) rfl ?_
  rw [← hOWE]
  exact o_retJ X2 hx hlk hrt (hb hby d4_11) (by decide) (by decide) (by rw [e2]; exact ⟨(by rw [own_f4_ret]), N0, rfl⟩)
theorem d5_0 : decode prog_24_method_4_code 0 = .ok (.aload_n 0, 1) := by decide +kernel
theorem d5_1 : decode prog_24_method_4_code 1 = .ok (.getfield 25, 3) := by decide +kernel
theorem d5_4 : decode prog_24_method_4_code 4 = .ok (.aload_n 0, 1) := by decide +kernel
theorem d5_5 : decode prog_24_method_4_code 5 = .ok (.getfield 29, 3) := by decide +kernel
theorem d5_8 : decode prog_24_method_4_code 8 = .ok (.ladd, 1) := by decide +kernel
theorem d5_9 : decode prog_24_method_4_code 9 = .ok (.lreturn, 1) := by decide +kernel
theorem ef_5 (m : MethodId) (x0 : Addr) : entryFrame m #[(.ref x0)] 1 = mkF m 0 #[.val (.ref x0)] [] := by first | (simp [entryFrame, mkF, argsToLocals, Value.category]; done) | rfl
def Q5 (Z : State) (aa : Addr) (y0 : Int64) (y1 : Int64) (h0 : Heap) (n0 : Nat) (v : Option Value) (h : Heap) (L : List Loc) : Prop := v = some (.long (y0 + y1)) ∧ Fr n0 L ∧ h = h0
set_option maxRecDepth 65536 in
set_option maxHeartbeats 40000000 in
theorem rm5 (l : Launch) (Z : State) (a0 : Array Value) (hw : ∀ d ∈ tables_1, d.before a0 Z = true) (ws : List Jvm.Cond) (aa : Addr) (y0 : Int64) (y1 : Int64) (h0 : Heap) (n0 : Nat) (Z0 : n0 ≤ h0.size) (F_first_aa : Fld Z h0 aa "com/example/seshat/seshat/model/Reservation" "first" "J" (.long y0)) (F_count_aa : Fld Z h0 aa "com/example/seshat/seshat/model/Reservation" "count" "J" (.long y1)) :
    Con l (⟨"com/example/seshat/seshat/model/Reservation", "nextValue", "()J"⟩ : MethodName) prog_24_method_4_code 1 (some .long) ws ({ frames := 0, cells := 0, slots := 0, locals := 0 } : Room) #[(.ref aa)] Z h0 (Q5 Z aa y0 y1 h0 n0) ({ frames := 0, cells := 0, slots := 0, locals := 0 } : Room).cells ({ frames := 0, cells := 0, slots := 0, locals := 0 } : Room).slots := by
  refine own_body (plainFor_of_name pn_1) ?_
  intro p e s m below meth c s₁ hx hby hlk hml hown hnm hrt hZ X0 e0
  have w : ∀ (k : Nat) (d : Jvm.Cond), tables_1[k]? = some d → d.before a0 Z = true := fun k d h => hw d (List.mem_of_getElem? h)
  have N0 := Fr.nil n0
  rw [ef_5]
  generalize hOWE : Owe s _ _ _ = OWE
  refine o_aloadN X0 hx (hb hby d5_0) (pc' := 1) rfl rfl rfl ?_
  refine o_getF X0 hx hZ hown (w 17 _ rfl) e0 F_first_aa (hb hby d5_1) (pc' := 4) rfl ?_
  intro T1 X1 e1
  refine o_aloadN X1 hx (hb hby d5_4) (pc' := 5) rfl rfl rfl ?_
  refine o_getF X1 hx hZ hown (w 19 _ rfl) e1 F_count_aa (hb hby d5_5) (pc' := 8) rfl ?_
  intro T2 X2 e2
  refine o_ladd X2 hx (hb hby d5_8) (pc' := 9) rfl ?_
  rw [← hOWE]
  exact o_retJ X2 hx hlk hrt (hb hby d5_9) (by decide) (by decide) (by rw [e2]; exact ⟨rfl, N0, rfl⟩)
theorem pn_0 : plainName "com/example/seshat/seshat/model/ReservationLastPinLaw" = true := by first | (simp [plainName, overriddenIn]; done) | decide +kernel
theorem ef_0 (m : MethodId) (x0 : Int64) (x1 : Int64) : entryFrame m #[(.long x0), (.long x1)] maxLocals = mkF m 0 #[.val (.long x0), .second, .val (.long x1), .second, .unset, .unset, .unset, .unset, .unset, .unset, .unset, .unset, .unset, .unset, .unset, .unset, .unset, .unset] [] := by first | (simp [entryFrame, mkF, argsToLocals, Value.category, maxLocals]; done) | rfl
def own_law_x0 (q0 : Int64) (q1 : Int64) : Int64 := ((1 : Int64) + ((q0 &&& (9223372036854775807 : Int64)) % (9223372036854775806 : Int64)))
def own_law_x1 (q0 : Int64) (q1 : Int64) : Int64 := ((9223372036854775807 : Int64) - (own_law_x0 q0 q1))
def own_law_x2 (q0 : Int64) (q1 : Int64) : Int64 := ((1 : Int64) + ((q1 &&& (9223372036854775807 : Int64)) % (own_law_x1 q0 q1)))
def own_law_x3 (q0 : Int64) (q1 : Int64) : Int64 := (own_f4_ret (own_law_x0 q0 q1) (own_law_x2 q0 q1))
def own_law_x4 (q0 : Int64) (q1 : Int64) : Int64 := ((own_law_x0 q0 q1) + (own_law_x2 q0 q1))
def own_law_v82_1_S0 (q0 : Int64) (q1 : Int64) : Int32 := (if (own_law_x3 q0 q1) < (own_law_x0 q0 q1) then (0 : Int32) else (if (9223372036854775806 : Int64) < (own_law_x3 q0 q1) then (0 : Int32) else (1 : Int32)))
theorem own_law_v82_1_S0_01 (q0 : Int64) (q1 : Int64) : (own_law_v82_1_S0 q0 q1) = 0 ∨ (own_law_v82_1_S0 q0 q1) = 1 := by
  unfold own_law_v82_1_S0
  repeat' split
  all_goals first | exact Or.inl rfl | exact Or.inr rfl
def own_law_v102_2_S0 (q0 : Int64) (q1 : Int64) : Int32 := (if (((own_law_x3 q0 q1) - (own_law_x0 q0 q1)) + (1 : Int64)) = (own_law_x2 q0 q1) then (1 : Int32) else (0 : Int32))
theorem own_law_v102_2_S0_01 (q0 : Int64) (q1 : Int64) : (own_law_v102_2_S0 q0 q1) = 0 ∨ (own_law_v102_2_S0 q0 q1) = 1 := by
  unfold own_law_v102_2_S0
  repeat' split
  all_goals first | exact Or.inl rfl | exact Or.inr rfl
def own_law_v119_3_S0 (q0 : Int64) (q1 : Int64) : Int32 := (if ((own_law_x3 q0 q1) + (1 : Int64)) = (own_law_x4 q0 q1) then (1 : Int32) else (0 : Int32))
theorem own_law_v119_3_S0_01 (q0 : Int64) (q1 : Int64) : (own_law_v119_3_S0 q0 q1) = 0 ∨ (own_law_v119_3_S0 q0 q1) = 1 := by
  unfold own_law_v119_3_S0
  repeat' split
  all_goals first | exact Or.inl rfl | exact Or.inr rfl
def own_law_ret_j119_3 (q0 : Int64) (q1 : Int64) : Int32 := (if (own_law_v82_1_S0 q0 q1) = (0 : Int32) then (0 : Int32) else (if (own_law_v102_2_S0 q0 q1) = (0 : Int32) then (0 : Int32) else (if (own_law_v119_3_S0 q0 q1) = (0 : Int32) then (0 : Int32) else (1 : Int32))))
def own_law_ret_j102_2 (q0 : Int64) (q1 : Int64) : Int32 := (own_law_ret_j119_3 q0 q1)
def own_law_ret_j82_1 (q0 : Int64) (q1 : Int64) : Int32 := (own_law_ret_j102_2 q0 q1)
def own_law_ret (q0 : Int64) (q1 : Int64) : Int32 := (own_law_ret_j82_1 q0 q1)
theorem own_mx (x : Int64) : 0 ≤ (x &&& (9223372036854775807 : Int64)).toInt := by
  rw [c_maskL x 9223372036854775807 63 (by decide) (by decide)]
  omega
theorem own_lrem (x y : Int64) (h0 : 0 ≤ x.toInt) (h1 : 0 < y.toInt) : 0 ≤ (x % y).toInt ∧ (x % y).toInt < y.toInt := by
  rw [Int64.toInt_mod, Int.tmod_eq_emod_of_nonneg h0]
  exact ⟨Int.emod_nonneg _ (by omega), Int.emod_lt_of_pos _ h1⟩
theorem own_b (q0 q1 : Int64) : 1 ≤ (own_law_x0 q0 q1).toInt ∧ (own_law_x0 q0 q1).toInt ≤ 9223372036854775806 ∧ (own_law_x1 q0 q1).toInt = 9223372036854775807 - (own_law_x0 q0 q1).toInt := by
  have h1 := own_lrem (q0 &&& (9223372036854775807 : Int64)) 9223372036854775806 (own_mx q0) (by decide)
  rw [show (9223372036854775806 : Int64).toInt = 9223372036854775806 from by decide] at h1
  have h2 : (own_law_x0 q0 q1).toInt = 1 + ((q0 &&& (9223372036854775807 : Int64)) % (9223372036854775806 : Int64)).toInt := by
    unfold own_law_x0
    have a := c_ladd 1 ((q0 &&& (9223372036854775807 : Int64)) % (9223372036854775806 : Int64))
    have b := rng64 (1 + (q0 &&& (9223372036854775807 : Int64)) % (9223372036854775806 : Int64))
    rw [show (1 : Int64).toInt = 1 from rfl] at a
    omega
  have h3 := c_lsub 9223372036854775807 (own_law_x0 q0 q1)
  rw [show (9223372036854775807 : Int64).toInt = 9223372036854775807 from by decide] at h3
  have h4 := rng64 (own_law_x1 q0 q1)
  unfold own_law_x1 at h4 ⊢
  omega
theorem own_b2 (q0 q1 : Int64) : 1 ≤ (own_law_x2 q0 q1).toInt ∧ (own_law_x2 q0 q1).toInt ≤ (own_law_x1 q0 q1).toInt := by
  have h := own_b q0 q1
  have h1 := own_lrem (q1 &&& (9223372036854775807 : Int64)) (own_law_x1 q0 q1) (own_mx q1) (by omega)
  have a := c_ladd 1 ((q1 &&& (9223372036854775807 : Int64)) % (own_law_x1 q0 q1))
  have b := rng64 (1 + (q1 &&& (9223372036854775807 : Int64)) % (own_law_x1 q0 q1))
  rw [show (1 : Int64).toInt = 1 from rfl] at a
  unfold own_law_x2
  omega
theorem own_room (q0 q1 : Int64) : own_law_x1 q0 q1 ≠ 0 := fun q => by
  have h := own_b q0 q1
  rw [q, show (0 : Int64).toInt = 0 from rfl] at h
  omega
theorem own_e (q0 q1 : Int64) : ¬ own_law_x0 q0 q1 < (1 : Int64) ∧ ¬ own_law_x2 q0 q1 < (1 : Int64) ∧ ¬ ((9223372036854775807 : Int64) - own_law_x0 q0 q1) < own_law_x2 q0 q1 := by
  have h := own_b q0 q1
  have h2 := own_b2 q0 q1
  have h3 : (9223372036854775807 : Int64) - own_law_x0 q0 q1 = own_law_x1 q0 q1 := rfl
  rw [h3]
  simp only [Int64.lt_iff_toInt_lt, show (1 : Int64).toInt = 1 from rfl]
  omega
def Q0 (Z : State) (q0 : Int64) (q1 : Int64) (h0 : Heap) (n0 : Nat) (v : Option Value) (h : Heap) (L : List Loc) : Prop := v = some (.int (own_law_ret q0 q1)) ∧ Fr n0 L
set_option maxRecDepth 65536 in
set_option maxHeartbeats 40000000 in
theorem rm0 (l : Launch) (Z : State) (a0 : Array Value) (hw : ∀ d ∈ tables_1, d.before a0 Z = true) (ws : List Jvm.Cond) (q0 : Int64) (q1 : Int64) (h0 : Heap) (n0 : Nat) (Z0 : n0 ≤ h0.size)  :
    Con l x code maxLocals ret ws room_1 #[(.long q0), (.long q1)] Z h0 (Q0 Z q0 q1 h0 n0) 1 2 := by
  refine own_body (plainFor_of_name pn_0) ?_
  intro p e s m below meth c s₁ hx hby hlk hml hown hnm hrt hZ X0 e0
  have w : ∀ (k : Nat) (d : Jvm.Cond), tables_1[k]? = some d → d.before a0 Z = true := fun k d h => hw d (List.mem_of_getElem? h)
  have N0 := Fr.nil n0
  have hml : c.maxLocals = 18 := hml
  rw [ef_0]
  generalize hOWE : Owe s _ _ _ = OWE
  refine o_lconst X0 hx (1 : Int64) (hb hby at_0) (pc' := 1) rfl (by decide) ?_
  refine o_lloadN X0 hx (hb hby at_1) (pc' := 2) rfl rfl ?_
  refine o_ldcJ X0 hx hZ (9223372036854775807 : Int64) hown (w 0 _ rfl) (hb hby at_2) (pc' := 5) rfl ?_
  refine o_land X0 hx (hb hby at_5) (pc' := 6) rfl ?_
  refine o_ldcJ X0 hx hZ (9223372036854775806 : Int64) hown (w 1 _ rfl) (hb hby at_6) (pc' := 9) rfl ?_
  refine o_lrem X0 hx (hb hby at_9) (pc' := 10) rfl (by decide) ?_
  refine o_ladd X0 hx (hb hby at_10) (pc' := 11) rfl ?_
  refine o_lstore (x := (own_law_x0 q0 q1)) X0 hx (hb hby at_11) (pc' := 13) rfl (L' := #[.val (.long q0), .second, .val (.long q1), .second, .val (.long (own_law_x0 q0 q1)), .second, .unset, .unset, .unset, .unset, .unset, .unset, .unset, .unset, .unset, .unset, .unset, .unset]) rfl ?_
  refine o_ldcJ X0 hx hZ (9223372036854775807 : Int64) hown (w 0 _ rfl) (hb hby at_13) (pc' := 16) rfl ?_
  refine o_lload X0 hx (hb hby at_16) (pc' := 18) rfl rfl ?_
  refine o_lsub X0 hx (hb hby at_18) (pc' := 19) rfl ?_
  refine o_lstore (x := (own_law_x1 q0 q1)) X0 hx (hb hby at_19) (pc' := 21) rfl (L' := #[.val (.long q0), .second, .val (.long q1), .second, .val (.long (own_law_x0 q0 q1)), .second, .val (.long (own_law_x1 q0 q1)), .second, .unset, .unset, .unset, .unset, .unset, .unset, .unset, .unset, .unset, .unset]) rfl ?_
  refine o_lconst X0 hx (1 : Int64) (hb hby at_21) (pc' := 22) rfl (by decide) ?_
  refine o_lloadN X0 hx (hb hby at_22) (pc' := 23) rfl rfl ?_
  refine o_ldcJ X0 hx hZ (9223372036854775807 : Int64) hown (w 0 _ rfl) (hb hby at_23) (pc' := 26) rfl ?_
  refine o_land X0 hx (hb hby at_26) (pc' := 27) rfl ?_
  refine o_lload X0 hx (hb hby at_27) (pc' := 29) rfl rfl ?_
  refine o_lrem X0 hx (hb hby at_29) (pc' := 30) rfl (own_room q0 q1) ?_
  refine o_ladd X0 hx (hb hby at_30) (pc' := 31) rfl ?_
  refine o_lstore (x := (own_law_x2 q0 q1)) X0 hx (hb hby at_31) (pc' := 33) rfl (L' := #[.val (.long q0), .second, .val (.long q1), .second, .val (.long (own_law_x0 q0 q1)), .second, .val (.long (own_law_x1 q0 q1)), .second, .val (.long (own_law_x2 q0 q1)), .second, .unset, .unset, .unset, .unset, .unset, .unset, .unset, .unset]) rfl ?_
  refine o_new X0 hx hZ hown (w 2 _ rfl) (w 3 _ rfl) (w 4 _ rfl) e0 (hb hby at_33) (pc' := 36) rfl (cells' := 1) rfl (slots' := 2) rfl (by decide) (by decide) ?_
  intro T1 h1 b1 qa1 X1 e1 Ex1 A1 D1
  have g_b1 : n0 ≤ b1 := by rw [qa1]; exact Z0
  have Z1 : n0 ≤ h1.size := Nat.le_trans Z0 Ex1.1
  have D1_first : Fld Z h1 b1 "com/example/seshat/seshat/model/Reservation" "first" "J" (.long (0 : Int64)) := D1 (Or.inr (w 18 _ rfl)) (ty := .long) (by decide)
  have D1_count : Fld Z h1 b1 "com/example/seshat/seshat/model/Reservation" "count" "J" (.long (0 : Int64)) := D1 (Or.inr (w 20 _ rfl)) (ty := .long) (by decide)
  refine o_dup X1 hx (hb hby at_36) (pc' := 37) rfl rfl ?_
  refine o_lload X1 hx (hb hby at_37) (pc' := 39) rfl rfl ?_
  refine o_lload X1 hx (hb hby at_39) (pc' := 41) rfl rfl ?_
  refine o_callI X1 hx hZ 1 (argsL := [.long (own_law_x0 q0 q1), .long (own_law_x2 q0 q1)]) (rest := [.ref b1]) (a := b1) rfl hown (w 5 _ rfl) (w 6 _ rfl) (w 4 _ rfl) (w 7 _ rfl) (by decide) (rm1 l Z a0 hw [] b1 (.long (0 : Int64)) (.long (0 : Int64)) (own_law_x0 q0 q1) (own_law_x2 q0 q1) h1 n0 Z1 A1 D1_first D1_count g_b1 (own_e q0 q1).1 (own_e q0 q1).2.1 (own_e q0 q1).2.2) (by decide) (by decide) (cells' := 1) rfl (slots' := 2) rfl (by decide) (by decide) e1 (by rw [hml]; rfl) (lenOf pd_1 rfl) rfl rfl (hb hby at_41) (pc' := 44) rfl ?_
  intro T3 v3 L3 X3 hQ3
  obtain ⟨rfl, Nq3, Kq3, P3_0, P3_1, P3_2⟩ := hQ3
  have N3 := Fr.app N0 Nq3
  have Z3 : n0 ≤ T3.heap.size := Nat.le_trans Z1 Kq3.1
  show Go p e below _ (T3.setTop (mkF m 44 _ [.ref b1]))
  refine o_astore X3 hx (hb hby at_44) (pc' := 46) rfl (L' := #[.val (.long q0), .second, .val (.long q1), .second, .val (.long (own_law_x0 q0 q1)), .second, .val (.long (own_law_x1 q0 q1)), .second, .val (.long (own_law_x2 q0 q1)), .second, .val (.ref b1), .unset, .unset, .unset, .unset, .unset, .unset, .unset]) rfl rfl ?_
  refine o_aload X3 hx (hb hby at_46) (pc' := 48) rfl rfl rfl ?_
  refine o_callV X3 hx hZ 0 (argsL := []) (rest := []) (a := b1) hown (w 21 _ rfl) (w 22 _ rfl) (w 24 _ rfl) (w 23 _ rfl) (w 4 _ rfl) (w 25 _ rfl) (by decide) (rm4 l Z a0 hw [] b1 (own_law_x0 q0 q1) (own_law_x2 q0 q1) T3.heap n0 Z3 P3_1 P3_2) P3_0 (by decide) (by decide) (cells' := 1) rfl (slots' := 2) rfl (by decide) (by decide) rfl (by rw [hml]; rfl) (lenOf pd_2 rfl) rfl rfl (hb hby at_48) (pc' := 51) rfl ?_
  intro T5 v5 L5 X5 hQ5
  obtain ⟨rfl, Nq5, e5⟩ := hQ5
  have N5 := Fr.app N3 Nq5
  show Go p e below _ (T5.setTop (mkF m 51 _ [.long (own_f4_ret (own_law_x0 q0 q1) (own_law_x2 q0 q1))]))
  refine o_lstore (x := (own_law_x3 q0 q1)) X5 hx (hb hby at_51) (pc' := 53) rfl (L' := #[.val (.long q0), .second, .val (.long q1), .second, .val (.long (own_law_x0 q0 q1)), .second, .val (.long (own_law_x1 q0 q1)), .second, .val (.long (own_law_x2 q0 q1)), .second, .val (.ref b1), .val (.long (own_law_x3 q0 q1)), .second, .unset, .unset, .unset, .unset, .unset]) rfl ?_
  refine o_aload X5 hx (hb hby at_53) (pc' := 55) rfl rfl rfl ?_
  refine o_callV X5 hx hZ 0 (argsL := []) (rest := []) (a := b1) hown (w 26 _ rfl) (w 27 _ rfl) (w 29 _ rfl) (w 28 _ rfl) (w 4 _ rfl) (w 30 _ rfl) (by decide) (rm5 l Z a0 hw [] b1 (own_law_x0 q0 q1) (own_law_x2 q0 q1) T3.heap n0 Z3 P3_1 P3_2) P3_0 (by decide) (by decide) (cells' := 1) rfl (slots' := 2) rfl (by decide) (by decide) e5 (by rw [hml]; rfl) (lenOf pd_2 rfl) rfl rfl (hb hby at_55) (pc' := 58) rfl ?_
  intro T6 v6 L6 X6 hQ6
  obtain ⟨rfl, Nq6, e6⟩ := hQ6
  have N6 := Fr.app N5 Nq6
  show Go p e below _ (T6.setTop (mkF m 58 _ [.long ((own_law_x0 q0 q1) + (own_law_x2 q0 q1))]))
  refine o_lstore (x := (own_law_x4 q0 q1)) X6 hx (hb hby at_58) (pc' := 60) rfl (L' := #[.val (.long q0), .second, .val (.long q1), .second, .val (.long (own_law_x0 q0 q1)), .second, .val (.long (own_law_x1 q0 q1)), .second, .val (.long (own_law_x2 q0 q1)), .second, .val (.ref b1), .val (.long (own_law_x3 q0 q1)), .second, .val (.long (own_law_x4 q0 q1)), .second, .unset, .unset, .unset]) rfl ?_
  refine o_lload X6 hx (hb hby at_60) (pc' := 62) rfl rfl ?_
  refine o_lload X6 hx (hb hby at_62) (pc' := 64) rfl rfl ?_
  refine o_lcmp X6 hx (hb hby at_64) (pc' := 65) rfl ?_
  have J82_1 : ∀ (z0 : Int32), z0 = (own_law_v82_1_S0 q0 q1) → Go p e below OWE (T6.setTop (mkF m 82 #[.val (.long q0), .second, .val (.long q1), .second, .val (.long (own_law_x0 q0 q1)), .second, .val (.long (own_law_x1 q0 q1)), .second, .val (.long (own_law_x2 q0 q1)), .second, .val (.ref b1), .val (.long (own_law_x3 q0 q1)), .second, .val (.long (own_law_x4 q0 q1)), .second, .unset, .unset, .unset] [.int z0])) := by
    intro z0 yy0
    subst yy0
    refine o_istore X6 hx (hb hby at_82) (pc' := 84) rfl (L' := #[.val (.long q0), .second, .val (.long q1), .second, .val (.long (own_law_x0 q0 q1)), .second, .val (.long (own_law_x1 q0 q1)), .second, .val (.long (own_law_x2 q0 q1)), .second, .val (.ref b1), .val (.long (own_law_x3 q0 q1)), .second, .val (.long (own_law_x4 q0 q1)), .second, .val (.int (own_law_v82_1_S0 q0 q1)), .unset, .unset]) rfl ?_
    refine o_lload X6 hx (hb hby at_84) (pc' := 86) rfl rfl ?_
    refine o_lload X6 hx (hb hby at_86) (pc' := 88) rfl rfl ?_
    refine o_lsub X6 hx (hb hby at_88) (pc' := 89) rfl ?_
    refine o_lconst X6 hx (1 : Int64) (hb hby at_89) (pc' := 90) rfl (by decide) ?_
    refine o_ladd X6 hx (hb hby at_90) (pc' := 91) rfl ?_
    refine o_lload X6 hx (hb hby at_91) (pc' := 93) rfl rfl ?_
    refine o_lcmp X6 hx (hb hby at_93) (pc' := 94) rfl ?_
    have J102_2 : ∀ (z0 : Int32), z0 = (own_law_v102_2_S0 q0 q1) → Go p e below OWE (T6.setTop (mkF m 102 #[.val (.long q0), .second, .val (.long q1), .second, .val (.long (own_law_x0 q0 q1)), .second, .val (.long (own_law_x1 q0 q1)), .second, .val (.long (own_law_x2 q0 q1)), .second, .val (.ref b1), .val (.long (own_law_x3 q0 q1)), .second, .val (.long (own_law_x4 q0 q1)), .second, .val (.int (own_law_v82_1_S0 q0 q1)), .unset, .unset] [.int z0])) := by
      intro z0 yy0
      subst yy0
      refine o_istore X6 hx (hb hby at_102) (pc' := 104) rfl (L' := #[.val (.long q0), .second, .val (.long q1), .second, .val (.long (own_law_x0 q0 q1)), .second, .val (.long (own_law_x1 q0 q1)), .second, .val (.long (own_law_x2 q0 q1)), .second, .val (.ref b1), .val (.long (own_law_x3 q0 q1)), .second, .val (.long (own_law_x4 q0 q1)), .second, .val (.int (own_law_v82_1_S0 q0 q1)), .val (.int (own_law_v102_2_S0 q0 q1)), .unset]) rfl ?_
      refine o_lload X6 hx (hb hby at_104) (pc' := 106) rfl rfl ?_
      refine o_lconst X6 hx (1 : Int64) (hb hby at_106) (pc' := 107) rfl (by decide) ?_
      refine o_ladd X6 hx (hb hby at_107) (pc' := 108) rfl ?_
      refine o_lload X6 hx (hb hby at_108) (pc' := 110) rfl rfl ?_
      refine o_lcmp X6 hx (hb hby at_110) (pc' := 111) rfl ?_
      have J119_3 : ∀ (z0 : Int32), z0 = (own_law_v119_3_S0 q0 q1) → Go p e below OWE (T6.setTop (mkF m 119 #[.val (.long q0), .second, .val (.long q1), .second, .val (.long (own_law_x0 q0 q1)), .second, .val (.long (own_law_x1 q0 q1)), .second, .val (.long (own_law_x2 q0 q1)), .second, .val (.ref b1), .val (.long (own_law_x3 q0 q1)), .second, .val (.long (own_law_x4 q0 q1)), .second, .val (.int (own_law_v82_1_S0 q0 q1)), .val (.int (own_law_v102_2_S0 q0 q1)), .unset] [.int z0])) := by
        intro z0 yy0
        subst yy0
        refine o_istore X6 hx (hb hby at_119) (pc' := 121) rfl (L' := #[.val (.long q0), .second, .val (.long q1), .second, .val (.long (own_law_x0 q0 q1)), .second, .val (.long (own_law_x1 q0 q1)), .second, .val (.long (own_law_x2 q0 q1)), .second, .val (.ref b1), .val (.long (own_law_x3 q0 q1)), .second, .val (.long (own_law_x4 q0 q1)), .second, .val (.int (own_law_v82_1_S0 q0 q1)), .val (.int (own_law_v102_2_S0 q0 q1)), .val (.int (own_law_v119_3_S0 q0 q1))]) rfl ?_
        refine o_iload X6 hx (hb hby at_121) (pc' := 123) rfl rfl ?_
        by_cases hc123_10 : (own_law_v82_1_S0 q0 q1) = (0 : Int32)
        · refine o_ifY X6 hx (hb hby at_123) (teq hc123_10).1 (by decide) (pc' := 140) (by decide) ?_
          refine o_iconst X6 hx (0 : Int32) (hb hby at_140) (pc' := 141) rfl (by decide) ?_
          rw [← hOWE]
          exact o_retZ X6 hx rfl hlk hrt (hb hby at_141) (by decide) (by decide) (by rw [e6]; exact ⟨(by rw [own_law_ret, own_law_ret_j82_1, own_law_ret_j102_2, own_law_ret_j119_3, if_pos hc123_10]), N6⟩)
        · refine o_ifN X6 hx (hb hby at_123) (feq hc123_10).1 (pc' := 126) rfl ?_
          refine o_iload X6 hx (hb hby at_126) (pc' := 128) rfl rfl ?_
          by_cases hc128_11 : (own_law_v102_2_S0 q0 q1) = (0 : Int32)
          · refine o_ifY X6 hx (hb hby at_128) (teq hc128_11).1 (by decide) (pc' := 140) (by decide) ?_
            refine o_iconst X6 hx (0 : Int32) (hb hby at_140) (pc' := 141) rfl (by decide) ?_
            rw [← hOWE]
            exact o_retZ X6 hx rfl hlk hrt (hb hby at_141) (by decide) (by decide) (by rw [e6]; exact ⟨(by rw [own_law_ret, own_law_ret_j82_1, own_law_ret_j102_2, own_law_ret_j119_3, if_neg hc123_10, if_pos hc128_11]), N6⟩)
          · refine o_ifN X6 hx (hb hby at_128) (feq hc128_11).1 (pc' := 131) rfl ?_
            refine o_iload X6 hx (hb hby at_131) (pc' := 133) rfl rfl ?_
            by_cases hc133_12 : (own_law_v119_3_S0 q0 q1) = (0 : Int32)
            · refine o_ifY X6 hx (hb hby at_133) (teq hc133_12).1 (by decide) (pc' := 140) (by decide) ?_
              refine o_iconst X6 hx (0 : Int32) (hb hby at_140) (pc' := 141) rfl (by decide) ?_
              rw [← hOWE]
              exact o_retZ X6 hx rfl hlk hrt (hb hby at_141) (by decide) (by decide) (by rw [e6]; exact ⟨(by rw [own_law_ret, own_law_ret_j82_1, own_law_ret_j102_2, own_law_ret_j119_3, if_neg hc123_10, if_neg hc128_11, if_pos hc133_12]), N6⟩)
            · refine o_ifN X6 hx (hb hby at_133) (feq hc133_12).1 (pc' := 136) rfl ?_
              refine o_iconst X6 hx (1 : Int32) (hb hby at_136) (pc' := 137) rfl (by decide) ?_
              refine o_goto X6 hx (hb hby at_137) (by decide) (pc' := 141) (by decide) ?_
              rw [← hOWE]
              exact o_retZ X6 hx rfl hlk hrt (hb hby at_141) (by decide) (by decide) (by rw [e6]; exact ⟨(by rw [own_law_ret, own_law_ret_j82_1, own_law_ret_j102_2, own_law_ret_j119_3, if_neg hc123_10, if_neg hc128_11, if_neg hc133_12]), N6⟩)
      by_cases hc111_9 : ((own_law_x3 q0 q1) + (1 : Int64)) = (own_law_x4 q0 q1)
      · refine o_ifN X6 hx (hb hby at_111) (teqL hc111_9).2 (pc' := 114) rfl ?_
        refine o_iconst X6 hx (1 : Int32) (hb hby at_114) (pc' := 115) rfl (by decide) ?_
        refine o_goto X6 hx (hb hby at_115) (by decide) (pc' := 119) (by decide) ?_
        exact J119_3 ((1 : Int32)) (by rw [own_law_v119_3_S0, if_pos hc111_9])
      · refine o_ifY X6 hx (hb hby at_111) (feqL hc111_9).2 (by decide) (pc' := 118) (by decide) ?_
        refine o_iconst X6 hx (0 : Int32) (hb hby at_118) (pc' := 119) rfl (by decide) ?_
        exact J119_3 ((0 : Int32)) (by rw [own_law_v119_3_S0, if_neg hc111_9])
    by_cases hc94_8 : (((own_law_x3 q0 q1) - (own_law_x0 q0 q1)) + (1 : Int64)) = (own_law_x2 q0 q1)
    · refine o_ifN X6 hx (hb hby at_94) (teqL hc94_8).2 (pc' := 97) rfl ?_
      refine o_iconst X6 hx (1 : Int32) (hb hby at_97) (pc' := 98) rfl (by decide) ?_
      refine o_goto X6 hx (hb hby at_98) (by decide) (pc' := 102) (by decide) ?_
      exact J102_2 ((1 : Int32)) (by rw [own_law_v102_2_S0, if_pos hc94_8])
    · refine o_ifY X6 hx (hb hby at_94) (feqL hc94_8).2 (by decide) (pc' := 101) (by decide) ?_
      refine o_iconst X6 hx (0 : Int32) (hb hby at_101) (pc' := 102) rfl (by decide) ?_
      exact J102_2 ((0 : Int32)) (by rw [own_law_v102_2_S0, if_neg hc94_8])
  by_cases hc65_7 : (own_law_x3 q0 q1) < (own_law_x0 q0 q1)
  · refine o_ifY X6 hx (hb hby at_65) (tltL hc65_7).2.2.1 (by decide) (pc' := 81) (by decide) ?_
    refine o_iconst X6 hx (0 : Int32) (hb hby at_81) (pc' := 82) rfl (by decide) ?_
    exact J82_1 ((0 : Int32)) (by rw [own_law_v82_1_S0, if_pos hc65_7])
  · refine o_ifN X6 hx (hb hby at_65) (fltL hc65_7).2.2.1 (pc' := 68) rfl ?_
    refine o_lload X6 hx (hb hby at_68) (pc' := 70) rfl rfl ?_
    refine o_ldcJ X6 hx hZ (9223372036854775806 : Int64) hown (w 1 _ rfl) (hb hby at_70) (pc' := 73) rfl ?_
    refine o_lcmp X6 hx (hb hby at_73) (pc' := 74) rfl ?_
    by_cases hc74_13 : (9223372036854775806 : Int64) < (own_law_x3 q0 q1)
    · refine o_ifY X6 hx (hb hby at_74) (tltL hc74_13).2.2.1 (by decide) (pc' := 81) (by decide) ?_
      refine o_iconst X6 hx (0 : Int32) (hb hby at_81) (pc' := 82) rfl (by decide) ?_
      exact J82_1 ((0 : Int32)) (by rw [own_law_v82_1_S0, if_neg hc65_7, if_pos hc74_13])
    · refine o_ifN X6 hx (hb hby at_74) (fltL hc74_13).2.2.1 (pc' := 77) rfl ?_
      refine o_iconst X6 hx (1 : Int32) (hb hby at_77) (pc' := 78) rfl (by decide) ?_
      refine o_goto X6 hx (hb hby at_78) (by decide) (pc' := 82) (by decide) ?_
      exact J82_1 ((1 : Int32)) (by rw [own_law_v82_1_S0, if_neg hc65_7, if_neg hc74_13])
theorem own_main (q0 q1 : Int64) : own_law_ret q0 q1 = 1 := by
  have h := own_b q0 q1
  have h2 := own_b2 q0 q1
  have a := c_ladd (own_law_x0 q0 q1) (own_law_x2 q0 q1)
  have a' := rng64 (own_law_x0 q0 q1 + own_law_x2 q0 q1)
  have b := c_lsub (own_law_x0 q0 q1 + own_law_x2 q0 q1) 1
  have b' := rng64 (own_law_x0 q0 q1 + own_law_x2 q0 q1 - 1)
  rw [show (1 : Int64).toInt = 1 from rfl] at b
  have e3 : (own_law_x3 q0 q1).toInt = (own_law_x0 q0 q1).toInt + (own_law_x2 q0 q1).toInt - 1 := by
    unfold own_law_x3 own_f4_ret
    omega
  have c := c_lsub (own_law_x3 q0 q1) (own_law_x0 q0 q1)
  have c' := rng64 (own_law_x3 q0 q1 - own_law_x0 q0 q1)
  have d := c_ladd (own_law_x3 q0 q1 - own_law_x0 q0 q1) 1
  have d' := rng64 (own_law_x3 q0 q1 - own_law_x0 q0 q1 + 1)
  have f := c_ladd (own_law_x3 q0 q1) 1
  have f' := rng64 (own_law_x3 q0 q1 + 1)
  rw [show (1 : Int64).toInt = 1 from rfl] at d f
  have p1 : ¬ own_law_x3 q0 q1 < own_law_x0 q0 q1 := by rw [Int64.lt_iff_toInt_lt]; omega
  have p2 : ¬ (9223372036854775806 : Int64) < own_law_x3 q0 q1 := by rw [Int64.lt_iff_toInt_lt, show (9223372036854775806 : Int64).toInt = 9223372036854775806 from by decide]; omega
  have p3 : own_law_x3 q0 q1 - own_law_x0 q0 q1 + 1 = own_law_x2 q0 q1 := by apply Int64.toInt_inj.mp; omega
  have p4 : own_law_x3 q0 q1 + 1 = own_law_x4 q0 q1 := by
    apply Int64.toInt_inj.mp
    rw [show own_law_x4 q0 q1 = own_law_x0 q0 q1 + own_law_x2 q0 q1 from rfl]
    omega
  unfold own_law_ret own_law_ret_j82_1 own_law_ret_j102_2 own_law_ret_j119_3 own_law_v82_1_S0 own_law_v102_2_S0 own_law_v119_3_S0
  rw [if_neg p1, if_neg p2, if_pos p3, if_pos p4]
  decide
set_option maxRecDepth 65536 in
set_option maxHeartbeats 40000000 in
theorem comes_1 {Post : Tables → Env → Array Value → State → Outcome → State → Prop} (hpost : ∀ tb e args s v u, (limb_1_1.after args s (.returned v) u = true ∧ limb_1_2.after args s (.returned v) u = true ∧ True) → FrameEnd s (.returned v) u (Jvm.fieldLocs frame_1_writes args s ++ Jvm.arrayLocs frame_1_arrays args s ++ Jvm.staticLocs frame_1_statics s) 16 128 → Post tb e args s (.returned v) u) :
    ArmFor flags0 classFile x code maxLocals ret World_1 tables_1 room_1 Calls_1 rest_1 Pre_1 Post := by
  intro l hfl _ _ p e ha hc hk s m args below hf hA hF happ hP
  obtain ⟨hcalls, hrest, hpre⟩ := hP
  obtain ⟨-, -, -, hnamed, -, -, -, hat⟩ := (Spec.applies_iff hf).mp happ
  obtain ⟨hg, hn⟩ := and_e (Cond.before_iff.mp (show (Jvm.Cond.and given_1 narrow_1).before args s = true from hpre))
  obtain ⟨hcnt, r0⟩ := and_e hg
  obtain ⟨a0, r1⟩ := and_e r0
  obtain ⟨w0, w1, rfl⟩ : ∃ w0 w1 : Value, args = #[w0, w1] := by
    have hs : args.size = 2 := by simpa [Cond.value, given_1] using hcnt
    obtain ⟨L⟩ := args
    match L, hs with
    | [w0, w1], _ => exact ⟨w0, w1, rfl⟩
  have hw := fun d (hd : d ∈ tables_1) => atoms_spec (ws := Jvm.Cond.code x code maxLocals ret :: tables_1) hat d (List.mem_cons_of_mem _ hd)
  obtain ⟨q0, y0⟩ := isL_v a0
  obtain rfl : w0 = (.long q0) := Option.some.inj y0
  obtain ⟨q1, y1⟩ := isL_v r1
  obtain rfl : w1 = (.long q1) := Option.some.inj y1
  obtain ⟨n, o, h1, h2, h3, _, L, rfl, ⟨rfl, N⟩, hq⟩ := rm0 l s _ hw tables_1 q0 q1 s.heap s.heap.size (Nat.le_refl _) p e ha hc hk s m _ below hf ((Spec.applies_iff_loose hf).mp happ).1 ⟨rfl, State.Warmed39.refl s, rfl⟩ trivial
  refine ⟨n, _, h1, h2, h3, hpost _ _ _ _ _ _ ⟨Cond.after_iff.mpr rfl, Cond.after_iff.mpr (eq_i res_at (Term.int_eval (1)) (congrArg Value.int (own_main q0 q1))), trivial⟩ ⟨hq.1, hq.2.1, (hq.2.2.sift fun y hy => Or.inr (N y hy)).mono (by decide) (by decide)⟩⟩
theorem main_1_1 : Claimed_1_1 := comes_1 fun _ _ _ _ _ _ h hF => ⟨h.1, hF⟩
theorem main_1_2 : Claimed_1_2 := comes_1 fun _ _ _ _ _ _ h hF => ⟨h.2.1, hF⟩
end Jvm.Pilot.@@N@@
namespace Jvm.Pilot.@@N@@
open Jvm Jvm.ClassFile Sem Op Lib Jvm.Free Jvm.Stand Jvm.Pilot.@@N@@.Jvm.D
/-! MADE BY PROGRAM (witnessworld.py) out of the Statement's table words and the real class files: 10 classes; the members and pool entries that the words name. The judged class is class 1, her method 1. -/
namespace start1
open Jvm.ClassFile
def u (s : String) : CpInfo := .utf8 (stringToUtf16 s)
/-- a pool by its gaps: so many unusable entries, then the entry; so many at the end -/
def gap : Nat → List CpInfo → List CpInfo
  | 0, r => r
  | n + 1, r => .unusable :: gap n r
def poolList (es : List (Nat × CpInfo)) (last : Nat) : List CpInfo := es.foldr (fun e r => gap e.1 (e.2 :: r)) (gap last [])
def pool (es : List (Nat × CpInfo)) (last : Nat) : Array CpInfo := ⟨poolList es last⟩
def fileOf (pool : Array CpInfo) (this : Nat) (attrs : Array Attribute := #[]) (ms : Array MethodInfo := #[]) (fl : Nat := 33) (sup : Nat := 0) (ifs : Array Nat := #[]) (fds : Array FieldInfo := #[]) : ClassFile where
  minorVersion := 0
  majorVersion := 65
  constantPool := pool
  accessFlags := fl
  thisClass := this
  superClass := sup
  interfaces := ifs
  fields := fds
  methods := ms
  attributes := attrs
def plain (name : String) (sup : Option ClassId) : Class where
  name := name
  kind := .ordinary
  loader := none
  accessFlags := 33
  super := sup
  interfaces := #[]
  cf := none
  fields := #[]
  methods := #[]
  instanceTypes := #[]
  staticTypes := #[]
  resolved := #[]
  callSites := []
  init := .initialized
  statics := none
  mirror := none

def pool0 : Array CpInfo := pool [(5, u "<init>"), (0, u "()V"), (1, .class_ 10), (1, u "java/lang/Object")] 113

def k0c0 : Code := { maxStack := 0, maxLocals := 1, code := object_method_1_code, exceptionTable := #[], attributes := #[] }
def k0m0 : Method := { name := "<init>", desc := "()V", sig := { parameters := [], returnType := none }, accessFlags := 1, code := some k0c0 }
/-- java/lang/Object -/
def k0 : Class := { plain "java/lang/Object" none with
  accessFlags := 33
  interfaces := #[]
  cf := some (fileOf pool0 8 #[] #[{ accessFlags := 1, nameIndex := 5, descriptorIndex := 6, attributes := #[] }] 33 0 #[] #[])
  fields := #[]
  methods := #[k0m0]
  instanceTypes := #[]
  staticTypes := #[]
  resolved := Array.replicate 124 none
  statics := none }

def pool1 : Array CpInfo := pool [(2, .class_ 4), (1, u "java/lang/Object"), (0, u "<init>"), (0, u "()V"), (2, .long 9223372036854775807), (1, .class_ 12), (0, u "com/example/seshat/seshat/model/Reservation"), (0, .long 9223372036854775806), (1, .methodref 11 16), (0, .nameAndType 5 17), (0, u "(JJ)V"), (0, .methodref 11 19), (0, .nameAndType 20 21), (0, u "last"), (0, u "()J"), (0, .methodref 11 23), (0, .nameAndType 24 21), (0, u "nextValue"), (0, .class_ 26), (0, u "com/example/seshat/seshat/model/ReservationLastPinLaw"), (2, u "law"), (0, u "(JJ)Z")] 3

def k1m0 : Method := { name := "<init>", desc := "()V", sig := { parameters := [], returnType := none }, accessFlags := 1, code := none }
def k1c1 : Code := { maxStack := 6, maxLocals := 18, code := code, exceptionTable := #[], attributes := #[] }
def k1m1 : Method := { name := "law", desc := "(JJ)Z", sig := { parameters := [.long, .long], returnType := some .boolean }, accessFlags := 9, code := some k1c1 }
/-- com/example/seshat/seshat/model/ReservationLastPinLaw -/
def k1 : Class := { plain "com/example/seshat/seshat/model/ReservationLastPinLaw" (some 0) with
  accessFlags := 49
  interfaces := #[]
  cf := some (fileOf pool1 25 #[] #[{ accessFlags := 1, nameIndex := 5, descriptorIndex := 6, attributes := #[] }, { accessFlags := 9, nameIndex := 29, descriptorIndex := 30, attributes := #[] }] 49 2 #[] #[])
  fields := #[]
  methods := #[k1m0, k1m1]
  instanceTypes := #[]
  staticTypes := #[]
  resolved := Array.replicate 34 none
  statics := none }

def pool2 : Array CpInfo := pool [(1, .methodref 2 3), (0, .class_ 4), (0, .nameAndType 5 6), (0, u "java/lang/Object"), (0, u "<init>"), (0, u "()V"), (0, .class_ 8), (0, u "java/lang/Record")] 13

def k2c0 : Code := { maxStack := 1, maxLocals := 1, code := jdk_30_method_1_code, exceptionTable := #[], attributes := #[] }
def k2m0 : Method := { name := "<init>", desc := "()V", sig := { parameters := [], returnType := none }, accessFlags := 4, code := some k2c0 }
/-- java/lang/Record -/
def k2 : Class := { plain "java/lang/Record" (some 0) with
  accessFlags := 1057
  interfaces := #[]
  cf := some (fileOf pool2 7 #[] #[{ accessFlags := 4, nameIndex := 5, descriptorIndex := 6, attributes := #[] }] 1057 2 #[] #[])
  fields := #[]
  methods := #[k2m0]
  instanceTypes := #[]
  staticTypes := #[]
  resolved := Array.replicate 22 none
  statics := none }

def pool3 : Array CpInfo := pool [(3, .methodref 4 5), (0, .class_ 6), (0, .nameAndType 7 8), (0, u "java/lang/Record"), (0, u "<init>"), (0, u "()V"), (0, .class_ 10), (0, u "com/example/seshat/seshat/model/Reservation"), (9, .long 9223372036854775807), (4, .fieldref 9 26), (0, .nameAndType 27 28), (0, u "first"), (0, u "J"), (0, .fieldref 9 30), (0, .nameAndType 31 28), (0, u "count"), (11, u "(JJ)V"), (12, u "FIRST_VALUE"), (3, u "LAST_VALUE"), (2, u "EXHAUSTED"), (6, u "last"), (0, u "()J"), (0, u "nextValue")] 34

def k3c0 : Code := { maxStack := 6, maxLocals := 5, code := prog_24_method_1_code, exceptionTable := #[], attributes := #[] }
def k3m0 : Method := { name := "<init>", desc := "(JJ)V", sig := { parameters := [.long, .long], returnType := none }, accessFlags := 1, code := some k3c0 }
def k3c1 : Code := { maxStack := 4, maxLocals := 1, code := prog_24_method_3_code, exceptionTable := #[], attributes := #[] }
def k3m1 : Method := { name := "last", desc := "()J", sig := { parameters := [], returnType := some .long }, accessFlags := 1, code := some k3c1 }
def k3c2 : Code := { maxStack := 4, maxLocals := 1, code := prog_24_method_4_code, exceptionTable := #[], attributes := #[] }
def k3m2 : Method := { name := "nextValue", desc := "()J", sig := { parameters := [], returnType := some .long }, accessFlags := 1, code := some k3c2 }
/-- com/example/seshat/seshat/model/Reservation -/
def k3 : Class := { plain "com/example/seshat/seshat/model/Reservation" (some 2) with
  accessFlags := 49
  interfaces := #[]
  cf := some (fileOf pool3 9 #[] #[{ accessFlags := 1, nameIndex := 7, descriptorIndex := 43, attributes := #[] }, { accessFlags := 1, nameIndex := 70, descriptorIndex := 71, attributes := #[] }, { accessFlags := 1, nameIndex := 72, descriptorIndex := 71, attributes := #[] }] 49 4 #[] #[{ accessFlags := 18, nameIndex := 27, descriptorIndex := 28, attributes := #[] }, { accessFlags := 18, nameIndex := 31, descriptorIndex := 28, attributes := #[] }, { accessFlags := 25, nameIndex := 56, descriptorIndex := 28, attributes := #[] }, { accessFlags := 25, nameIndex := 60, descriptorIndex := 28, attributes := #[] }, { accessFlags := 25, nameIndex := 63, descriptorIndex := 28, attributes := #[] }])
  fields := #[{ name := "first", type := .long, accessFlags := 18, slot := 0, constantValue := 0 }, { name := "count", type := .long, accessFlags := 18, slot := 1, constantValue := 0 }, { name := "FIRST_VALUE", type := .long, accessFlags := 25, slot := 0, constantValue := 0 }, { name := "LAST_VALUE", type := .long, accessFlags := 25, slot := 1, constantValue := 0 }, { name := "EXHAUSTED", type := .long, accessFlags := 25, slot := 2, constantValue := 0 }]
  methods := #[k3m0, k3m1, k3m2]
  instanceTypes := #[.long, .long]
  staticTypes := #[.long, .long, .long]
  resolved := Array.replicate 107 none
  statics := none }

def pool4 : Array CpInfo := pool [(1, u "java/lang/Cloneable"), (0, .class_ 1), (0, u "java/lang/Object"), (0, .class_ 3)] 3

/-- java/lang/Cloneable -/
def k4 : Class := { plain "java/lang/Cloneable" (some 0) with
  accessFlags := 1537
  interfaces := #[]
  cf := some (fileOf pool4 2 #[] #[] 1537 4 #[] #[])
  fields := #[]
  methods := #[]
  instanceTypes := #[]
  staticTypes := #[]
  resolved := Array.replicate 8 none
  statics := none }

def pool5 : Array CpInfo := pool [(1, u "java/io/Serializable"), (0, .class_ 1), (0, u "java/lang/Object"), (0, .class_ 3)] 3

/-- java/io/Serializable -/
def k5 : Class := { plain "java/io/Serializable" (some 0) with
  accessFlags := 1537
  interfaces := #[]
  cf := some (fileOf pool5 2 #[] #[] 1537 4 #[] #[])
  fields := #[]
  methods := #[]
  instanceTypes := #[]
  staticTypes := #[]
  resolved := Array.replicate 8 none
  statics := none }

/-- the primitive byte -/
def k6 : Class := { plain "byte" none with kind := .primitive 'B', accessFlags := 0x411 }
/-- [B -/
def k7 : Class := { plain "[B" (some 0) with kind := .array 6 .byte, interfaces := #[4, 5], accessFlags := 1041 }

/-- the primitive int -/
def k8 : Class := { plain "int" none with kind := .primitive 'I', accessFlags := 0x411 }
/-- [I -/
def k9 : Class := { plain "[I" (some 0) with kind := .array 8 .int, interfaces := #[4, 5], accessFlags := 1041 }

def heap : Heap := #[]
def classes : Array Class := #[k0, k1, k2, k3, k4, k5, k6, k7, k8, k9]
def interned : List (Array UInt16 × Addr) := []
def slotsUsed : Nat := 0
def theMethod : MethodId := ⟨1, 1⟩
def args0 : Array Value := #[.long 5, .long 7]
def aboutOver (below : List Frame) : State where
  vm := { classes := classes, interned := interned.toArray }
  heap := heap
  slotsUsed := slotsUsed
  threads := #[{ frames := .invoking theMethod args0 :: below }]
def below0 : List Frame := [.native { method := ⟨0, 0⟩, args := #[] }]
def about1 : State := aboutOver below0
def p0 : Program := .bare "" "" ""
def e0 : Env := launch0.env 0 0 0
theorem w_frames : about1.frames = Frame.invoking theMethod args0 :: below0 := rfl
set_option maxRecDepth 65536 in
theorem w_args : argsFit about1.vm theMethod args0 = true := by decide +kernel
set_option maxRecDepth 65536 in
theorem w_heap : heapFits about1 = true := by decide +kernel
set_option maxRecDepth 65536 in
theorem w_runnable : about1.curStatus? = some .runnable := by decide +kernel
set_option maxRecDepth 65536 in
theorem w_alone : about1.alone = true := by decide +kernel
set_option maxRecDepth 65536 in
theorem w_named : about1.methodNamed? x = some theMethod := by decide +kernel
set_option maxRecDepth 65536 in
theorem w_hears : about1.hears theMethod below0 = true := by decide +kernel
set_option maxRecDepth 65536 in
theorem w_ripe : about1.ripe theMethod args0 below0 = true := by decide +kernel
theorem w_running : about1.status = .running := rfl
set_option maxRecDepth 65536 in
theorem w_room : about1.hasRoom e0.platform room_1 = true :=
  launch0.hasRoom_least _ room_1 (by decide +kernel) (by decide +kernel) (by decide +kernel) (by decide +kernel) (by decide +kernel) (by decide +kernel)
theorem allAtoms_all (ts : List Jvm.Cond) (a : Array Jvm.Value) (st : Jvm.State) : (allAtoms ts).before a st = ts.all (fun c => c.before a st) := by
  induction ts with
  | nil => rfl
  | cons c t ih =>
    show (Jvm.Cond.and c (allAtoms t)).before a st = _
    rw [Jvm.Cond.before_and, ih, List.all_cons]
def words1 : List Jvm.Cond := Jvm.Cond.code x code maxLocals ret :: tables_1
/-- a 'code' word, met by the world's own term for the bytes: nothing is compared byte by byte -/
theorem code_word {y : MethodName} {bytes : ByteArray} {mx : Nat} {rt : Option FieldType} {a : Array Value} {s : State} {m : MethodId} {meth : Method} {c : Code} (h1 : s.methodNamed? y = some m) (h2 : s.vm.method? m = some meth) (h3 : meth.code = some c) (h4 : c.code = bytes)
    (h5 : (c.maxLocals == mx && c.exceptionTable.isEmpty && decide (c.maxStack ≤ mostOperands) && decide (meth.sig.returnType = rt) && !meth.locks && decide (parseMethodDescriptor y.desc = some meth.sig)) = true) : (Jvm.Cond.code y bytes mx rt).before a s = true := by
  simp only [Bool.and_eq_true, beq_iff_eq, Bool.not_eq_true', decide_eq_true_eq] at h5
  obtain ⟨⟨⟨⟨⟨g1, g2⟩, g3⟩, g4⟩, g5⟩, g6⟩ := h5
  simp [Cond.before, Cond.holds, Cond.value, h1, h2, h3, h4, g1, g2, g3, g4, g5, g6]
def isCode : Jvm.Cond → Bool
  | .code _ _ _ _ => true
  | _ => false
theorem all_split {L : List Jvm.Cond} {P : Jvm.Cond → Bool} (h1 : L.all (fun c => isCode c || P c) = true) (h2 : ∀ c ∈ L.filter isCode, P c = true) : L.all P = true := by
  refine List.all_eq_true.mpr fun c hc => ?_
  have h := List.all_eq_true.mp h1 c hc
  rcases Bool.eq_false_or_eq_true (isCode c) with hi | hi
  · exact h2 c (List.mem_filter.mpr ⟨hc, hi⟩)
  · simpa [hi] using h
set_option maxRecDepth 65536 in
theorem w_c0 : (Jvm.Cond.code x code maxLocals ret).before args0 about1 = true := code_word (m := ⟨1, 1⟩) (meth := k1m1) (c := k1c1) (by decide +kernel) rfl rfl rfl (by decide +kernel)
set_option maxRecDepth 65536 in
theorem w_c1 : (Jvm.Cond.code ({ cls := "com/example/seshat/seshat/model/Reservation", name := "<init>", desc := "(JJ)V" } : Jvm.MethodName) prog_24_method_1_code (5 : Nat) (Option.none : Option Jvm.ClassFile.FieldType)).before args0 about1 = true := code_word (m := ⟨3, 0⟩) (meth := k3m0) (c := k3c0) (by decide +kernel) rfl rfl rfl (by decide +kernel)
set_option maxRecDepth 65536 in
theorem w_c2 : (Jvm.Cond.code ({ cls := "java/lang/Record", name := "<init>", desc := "()V" } : Jvm.MethodName) jdk_30_method_1_code (1 : Nat) (Option.none : Option Jvm.ClassFile.FieldType)).before args0 about1 = true := code_word (m := ⟨2, 0⟩) (meth := k2m0) (c := k2c0) (by decide +kernel) rfl rfl rfl (by decide +kernel)
set_option maxRecDepth 65536 in
theorem w_c3 : (Jvm.Cond.code ({ cls := "java/lang/Object", name := "<init>", desc := "()V" } : Jvm.MethodName) object_method_1_code (1 : Nat) (Option.none : Option Jvm.ClassFile.FieldType)).before args0 about1 = true := code_word (m := ⟨0, 0⟩) (meth := k0m0) (c := k0c0) (by decide +kernel) rfl rfl rfl (by decide +kernel)
set_option maxRecDepth 65536 in
theorem w_c4 : (Jvm.Cond.code ({ cls := "com/example/seshat/seshat/model/Reservation", name := "last", desc := "()J" } : Jvm.MethodName) prog_24_method_3_code (1 : Nat) (Option.some Jvm.ClassFile.FieldType.long)).before args0 about1 = true := code_word (m := ⟨3, 1⟩) (meth := k3m1) (c := k3c1) (by decide +kernel) rfl rfl rfl (by decide +kernel)
set_option maxRecDepth 65536 in
theorem w_c5 : (Jvm.Cond.code ({ cls := "com/example/seshat/seshat/model/Reservation", name := "nextValue", desc := "()J" } : Jvm.MethodName) prog_24_method_4_code (1 : Nat) (Option.some Jvm.ClassFile.FieldType.long)).before args0 about1 = true := code_word (m := ⟨3, 2⟩) (meth := k3m2) (c := k3c2) (by decide +kernel) rfl rfl rfl (by decide +kernel)
def codes1 : List Jvm.Cond := [Jvm.Cond.code x code maxLocals ret, Jvm.Cond.code ({ cls := "com/example/seshat/seshat/model/Reservation", name := "<init>", desc := "(JJ)V" } : Jvm.MethodName) prog_24_method_1_code (5 : Nat) (Option.none : Option Jvm.ClassFile.FieldType), Jvm.Cond.code ({ cls := "java/lang/Record", name := "<init>", desc := "()V" } : Jvm.MethodName) jdk_30_method_1_code (1 : Nat) (Option.none : Option Jvm.ClassFile.FieldType), Jvm.Cond.code ({ cls := "java/lang/Object", name := "<init>", desc := "()V" } : Jvm.MethodName) object_method_1_code (1 : Nat) (Option.none : Option Jvm.ClassFile.FieldType), Jvm.Cond.code ({ cls := "com/example/seshat/seshat/model/Reservation", name := "last", desc := "()J" } : Jvm.MethodName) prog_24_method_3_code (1 : Nat) (Option.some Jvm.ClassFile.FieldType.long), Jvm.Cond.code ({ cls := "com/example/seshat/seshat/model/Reservation", name := "nextValue", desc := "()J" } : Jvm.MethodName) prog_24_method_4_code (1 : Nat) (Option.some Jvm.ClassFile.FieldType.long)]
set_option maxRecDepth 65536 in
theorem codes_eq : words1.filter isCode = codes1 := rfl
theorem w_codes : ∀ c ∈ words1.filter isCode, c.before args0 about1 = true := by
  rw [codes_eq]
  intro c hc
  simp only [codes1, List.mem_cons, List.not_mem_nil, or_false] at hc
  rcases hc with rfl | rfl | rfl | rfl | rfl | rfl
  · exact w_c0
  · exact w_c1
  · exact w_c2
  · exact w_c3
  · exact w_c4
  · exact w_c5
set_option maxRecDepth 65536 in
theorem w_t1 : (words1.take 24).all (fun c => isCode c || c.before args0 about1) = true := by decide +kernel
set_option maxRecDepth 65536 in
theorem w_t2 : (words1.drop 24).all (fun c => isCode c || c.before args0 about1) = true := by decide +kernel
theorem w_tables : (allAtoms (Jvm.Cond.code x code maxLocals ret :: tables_1)).before args0 about1 = true := by
  rw [allAtoms_all]
  show words1.all (fun c => c.before args0 about1) = true
  refine all_split ?_ w_codes
  rw [← List.take_append_drop 24 words1, List.all_append, w_t1, w_t2]
  rfl
set_option maxRecDepth 65536 in
theorem w_case : (Jvm.Cond.and given_1 narrow_1).before args0 about1 = true := by decide +kernel
theorem w_applies : (headSpec (Jvm.Cond.code x code maxLocals ret :: tables_1) room_1).applies x e0.platform about1 = true :=
  (Spec.applies_iff w_frames).mpr ⟨w_running, w_runnable, w_alone, w_named, w_hears, w_ripe, w_room, w_tables⟩
theorem atStart : AtStart classFile x code maxLocals ret World_1 tables_1 room_1 Calls_1 rest_1 Pre_1 launch0 p0 e0 about1 theMethod args0 below0 :=
  ⟨lists_1, trivial, launch0.admits_env _ _ _, launch0.least_env, fairChoices_fair.cas, fairChoices_fair.clock, w_frames, w_args, w_heap, w_applies, trivial, trivial, w_case⟩
end start1
theorem witness_1 : WitnessClaimed_1 := ⟨start1.p0, start1.e0, start1.about1, start1.theMethod, start1.args0, start1.below0, start1.atStart⟩
end Jvm.Pilot.@@N@@
