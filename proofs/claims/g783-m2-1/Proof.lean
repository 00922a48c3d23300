import JvmDerived
import JvmDerived.Pilot.@@N@@Statement
import JvmDerived.Pilot.@@N@@Code
set_option linter.unusedVariables false
set_option linter.unusedSimpArgs false
namespace Jvm.Pilot.@@N@@
open Jvm Jvm.ClassFile Sem Op Lib Jvm.Free Jvm.Stand Jvm.LawKit Jvm.RoadKit Bundle Jvm.Pilot.@@N@@.Jvm.D
/-- the body's goal from a state on -/
def Go (p : Program) (e : Env) (below : List Frame) (P : Outcome → State → Prop) (U : State) : Prop :=
  ∃ s₂ o, Steps p.tables e below U s₂ ∧ s₂.status = .running ∧ Ended s₂ below o ∧ P o s₂
/-- the unsigned shifts, the remainders -/
def uI (x y : Int32) : Int32 := (x.toUInt32 >>> (y &&& 31).toUInt32).toInt32
def uL (x : Int64) (y : Int32) : Int64 := (x.toUInt64 >>> (y &&& 0x3f).toInt64.toUInt64).toInt64
def sL (x : Int64) (y : Int32) : Int64 := x >>> (y &&& 0x3f).toInt64
def lL (x : Int64) (y : Int32) : Int64 := x <<< (y &&& 0x3f).toInt64
theorem own_posJ {x : Int64} (h : 0 < x) : x ≠ 0 := fun q => by rw [q] at h; exact absurd h (by decide)
section Own
variable {p : Program} {l : Launch} {e : Env} {R : Room} {s : State} {m : MethodId} {args : Array Value} {below : List Frame} {meth : Method} {c : Code} {T : State} {locs : List Loc} {cells slots : Nat} {P : Outcome → State → Prop} {pc pc' : Nat} {L L' : Array Slot} {S : List Value} {Z : State} {a0 : Array Value} {h : Heap}
theorem Go.via {U U' : State} (q : ∀ t, Steps p.tables e below U' t → Steps p.tables e below U t) (k : Go p e below P U') : Go p e below P U := by
  obtain ⟨s₂, o, h1, h2⟩ := k
  exact ⟨s₂, o, q _ h1, h2⟩
theorem Go.tr {U U' : State} (q : Steps p.tables e below U U') (k : Go p e below P U') : Go p e below P U := k.via fun _ h => q.trans h
theorem o_iload (X : Stand p l e R s m args below meth c T locs cells slots) (hx : p.tables.exec = Jvm.exec) {k : Nat} {v : Int32} (hd : decode c.code pc = .ok (.iload k, 2)) (hp : pc + 2 = pc') (hl : L[k]? = some (.val (.int v))) (K : Go p e below P (T.setTop (mkF m pc' L (.int v :: S)))) : Go p e below P (T.setTop (mkF m pc L (S))) := by
  subst hp; exact K.via fun t k => XS.iload X.here hx rfl hd hl k
theorem o_iloadN (X : Stand p l e R s m args below meth c T locs cells slots) (hx : p.tables.exec = Jvm.exec) {k : Fin 4} {v : Int32} (hd : decode c.code pc = .ok (.iload_n k, 1)) (hp : pc + 1 = pc') (hl : L[k.val]? = some (.val (.int v))) (K : Go p e below P (T.setTop (mkF m pc' L (.int v :: S)))) : Go p e below P (T.setTop (mkF m pc L (S))) := by
  subst hp; exact K.via fun t k => XS.iloadN X.here hx rfl hd hl k
theorem o_lload (X : Stand p l e R s m args below meth c T locs cells slots) (hx : p.tables.exec = Jvm.exec) {k : Nat} {v : Int64} (hd : decode c.code pc = .ok (.lload k, 2)) (hp : pc + 2 = pc') (hl : L[k]? = some (.val (.long v))) (K : Go p e below P (T.setTop (mkF m pc' L (.long v :: S)))) : Go p e below P (T.setTop (mkF m pc L (S))) := by
  subst hp; exact K.via fun t k => XS.lload X.here hx rfl hd hl k
theorem o_lloadN (X : Stand p l e R s m args below meth c T locs cells slots) (hx : p.tables.exec = Jvm.exec) {k : Fin 4} {v : Int64} (hd : decode c.code pc = .ok (.lload_n k, 1)) (hp : pc + 1 = pc') (hl : L[k.val]? = some (.val (.long v))) (K : Go p e below P (T.setTop (mkF m pc' L (.long v :: S)))) : Go p e below P (T.setTop (mkF m pc L (S))) := by
  subst hp; exact K.via fun t k => XS.lloadN X.here hx rfl hd hl k
theorem o_lstore (X : Stand p l e R s m args below meth c T locs cells slots) (hx : p.tables.exec = Jvm.exec) {k : Nat} {x : Int64} (hd : decode c.code pc = .ok (.lstore k, 2)) (hp : pc + 2 = pc') (hl : storeLocals L k (.long x) = some L') (K : Go p e below P (T.setTop (mkF m pc' L' (S)))) : Go p e below P (T.setTop (mkF m pc L (.long x :: S))) := by
  subst hp; exact K.via fun t k => XS.lstore X.here hx rfl hd rfl hl k
theorem o_iconst (X : Stand p l e R s m args below meth c T locs cells slots) (hx : p.tables.exec = Jvm.exec) {i : Int} (v : Int32) (hd : decode c.code pc = .ok (.iconst i, 1)) (hp : pc + 1 = pc') (hv : Int32.ofInt i = v) (K : Go p e below P (T.setTop (mkF m pc' L (.int v :: S)))) : Go p e below P (T.setTop (mkF m pc L (S))) := by
  subst hp; exact K.via fun t k => XS.iconst X.here hx rfl hd (hv ▸ k)
theorem o_bipush (X : Stand p l e R s m args below meth c T locs cells slots) (hx : p.tables.exec = Jvm.exec) {i : Int} (v : Int32) (hd : decode c.code pc = .ok (.bipush i, 2)) (hp : pc + 2 = pc') (hv : (Int8.ofInt i).toInt32 = v) (K : Go p e below P (T.setTop (mkF m pc' L (.int v :: S)))) : Go p e below P (T.setTop (mkF m pc L (S))) := by
  subst hp; exact K.via fun t k => XS.bipush X.here hx rfl hd (hv ▸ k)
theorem o_lconst (X : Stand p l e R s m args below meth c T locs cells slots) (hx : p.tables.exec = Jvm.exec) {i : Fin 2} (v : Int64) (hd : decode c.code pc = .ok (.lconst i, 1)) (hp : pc + 1 = pc') (hv : Int64.ofNat i = v) (K : Go p e below P (T.setTop (mkF m pc' L (.long v :: S)))) : Go p e below P (T.setTop (mkF m pc L (S))) := by
  subst hp; exact K.via fun t k => XS.lconst X.here hx rfl hd (hv ▸ k)
theorem o_iand (X : Stand p l e R s m args below meth c T locs cells slots) (hx : p.tables.exec = Jvm.exec) {x y : Int32} (hd : decode c.code pc = .ok (.iand, 1)) (hp : pc + 1 = pc')  (K : Go p e below P (T.setTop (mkF m pc' L (.int (x &&& y) :: S)))) : Go p e below P (T.setTop (mkF m pc L (.int y :: .int x :: S))) := by
  subst hp; exact K.via fun t k => XS.iand X.here hx rfl hd rfl k
theorem o_lmul (X : Stand p l e R s m args below meth c T locs cells slots) (hx : p.tables.exec = Jvm.exec) {x y : Int64} (hd : decode c.code pc = .ok (.lmul, 1)) (hp : pc + 1 = pc')  (K : Go p e below P (T.setTop (mkF m pc' L (.long (x * y) :: S)))) : Go p e below P (T.setTop (mkF m pc L (.long y :: .long x :: S))) := by
  subst hp; exact K.via fun t k => XS.lmul X.here hx rfl hd rfl k
theorem o_land (X : Stand p l e R s m args below meth c T locs cells slots) (hx : p.tables.exec = Jvm.exec) {x y : Int64} (hd : decode c.code pc = .ok (.land, 1)) (hp : pc + 1 = pc')  (K : Go p e below P (T.setTop (mkF m pc' L (.long (x &&& y) :: S)))) : Go p e below P (T.setTop (mkF m pc L (.long y :: .long x :: S))) := by
  subst hp; exact K.via fun t k => XS.land X.here hx rfl hd rfl k
theorem o_lushr (X : Stand p l e R s m args below meth c T locs cells slots) (hx : p.tables.exec = Jvm.exec) {x : Int64} {y : Int32} (hd : decode c.code pc = .ok (.lushr, 1)) (hp : pc + 1 = pc')  (K : Go p e below P (T.setTop (mkF m pc' L (.long (uL x y) :: S)))) : Go p e below P (T.setTop (mkF m pc L (.int y :: .long x :: S))) := by
  subst hp; exact K.via fun t k => XS.lushr X.here hx rfl hd rfl k
theorem o_ldiv (X : Stand p l e R s m args below meth c T locs cells slots) (hx : p.tables.exec = Jvm.exec) {x y : Int64} (hd : decode c.code pc = .ok (.ldiv, 1)) (hp : pc + 1 = pc') (hy : y ≠ 0) (K : Go p e below P (T.setTop (mkF m pc' L (.long (x / y) :: S)))) : Go p e below P (T.setTop (mkF m pc L (.long y :: .long x :: S))) := by
  subst hp; exact K.via fun t k => XS.ldiv X.here hx rfl hd rfl hy k
theorem o_lrem (X : Stand p l e R s m args below meth c T locs cells slots) (hx : p.tables.exec = Jvm.exec) {x y : Int64} (hd : decode c.code pc = .ok (.lrem, 1)) (hp : pc + 1 = pc') (hy : y ≠ 0) (K : Go p e below P (T.setTop (mkF m pc' L (.long (x % y) :: S)))) : Go p e below P (T.setTop (mkF m pc L (.long y :: .long x :: S))) := by
  subst hp; rw [← lrem_mod] at K; exact K.via fun t k => XS.lrem X.here hx rfl hd rfl hy k
theorem o_goto (X : Stand p l e R s m args below meth c T locs cells slots) (hx : p.tables.exec = Jvm.exec) {o : Int} (hd : decode c.code pc = .ok (.goto o, 3)) (ho : 0 ≤ (pc : Int) + o) (hp : ((pc : Int) + o).toNat = pc') (K : Go p e below P (T.setTop (mkF m pc' L S))) : Go p e below P (T.setTop (mkF m pc L S)) :=
  K.via fun t k => XS.goto X.here hx rfl rfl hd ho hp k
theorem o_ifY (X : Stand p l e R s m args below meth c T locs cells slots) (hx : p.tables.exec = Jvm.exec) {cd : ClassFile.Cond} {x : Int32} {o : Int} (hd : decode c.code pc = .ok (.ifCond cd o, 3)) (hc : if_icmp.holds cd x 0 = true) (ho : 0 ≤ (pc : Int) + o) (hp : ((pc : Int) + o).toNat = pc') (K : Go p e below P (T.setTop (mkF m pc' L S))) : Go p e below P (T.setTop (mkF m pc L (.int x :: S))) :=
  K.via fun t k => XS.ifYes X.here hx rfl rfl hd rfl ((if0 _ _).trans hc) ho hp k
theorem o_ifN (X : Stand p l e R s m args below meth c T locs cells slots) (hx : p.tables.exec = Jvm.exec) {cd : ClassFile.Cond} {x : Int32} {o : Int} (hd : decode c.code pc = .ok (.ifCond cd o, 3)) (hc : if_icmp.holds cd x 0 = false) (hp : pc + 3 = pc') (K : Go p e below P (T.setTop (mkF m pc' L S))) : Go p e below P (T.setTop (mkF m pc L (.int x :: S))) := by
  subst hp; exact K.via fun t k => XS.ifNo X.here hx rfl hd rfl ((if0 _ _).trans hc) k
theorem o_lcmp (X : Stand p l e R s m args below meth c T locs cells slots) (hx : p.tables.exec = Jvm.exec) {x y : Int64} (hd : decode c.code pc = .ok (.lcmp, 1)) (hp : pc + 1 = pc') (K : Go p e below P (T.setTop (mkF m pc' L (.int (lcmpW x y) :: S)))) : Go p e below P (T.setTop (mkF m pc L (.long y :: .long x :: S))) := by
  subst hp; exact K.via fun t k => XS.lcmp X.here hx rfl hd rfl k
theorem tltL {x y : Int64} (q : x < y) : if_icmp.holds .lt (lcmpW x y) 0 = true ∧ if_icmp.holds .ge (lcmpW x y) 0 = false ∧ if_icmp.holds .gt (lcmpW y x) 0 = true ∧ if_icmp.holds .le (lcmpW y x) 0 = false :=
  ⟨(tlt ((lw_lt x y).mpr q)).1, (tlt ((lw_lt x y).mpr q)).2.1, (tlt ((lw_gt y x).mpr q)).2.2.1, (tlt ((lw_gt y x).mpr q)).2.2.2⟩
theorem fltL {x y : Int64} (q : ¬ x < y) : if_icmp.holds .lt (lcmpW x y) 0 = false ∧ if_icmp.holds .ge (lcmpW x y) 0 = true ∧ if_icmp.holds .gt (lcmpW y x) 0 = false ∧ if_icmp.holds .le (lcmpW y x) 0 = true :=
  ⟨(flt (mt (lw_lt x y).mp q)).1, (flt (mt (lw_lt x y).mp q)).2.1, (flt (mt (lw_gt y x).mp q)).2.2.1, (flt (mt (lw_gt y x).mp q)).2.2.2⟩
theorem teqL {x y : Int64} (q : x = y) : if_icmp.holds .eq (lcmpW x y) 0 = true ∧ if_icmp.holds .ne (lcmpW x y) 0 = false := teq ((lw_eq x y).mpr q)
theorem feqL {x y : Int64} (q : ¬ x = y) : if_icmp.holds .eq (lcmpW x y) 0 = false ∧ if_icmp.holds .ne (lcmpW x y) 0 = true := feq (mt (lw_eq x y).mp q)
theorem o_ldcJ (X : Stand p l e R s m args below meth c T locs cells slots) (hx : p.tables.exec = Jvm.exec) (hZ : Z.Warmed39 s.vm) {own : String} {index : Nat} (v : Int64) (hown : s.vm.findClass own = some m.cls) (w : (Cond.constantLong own index v).before a0 Z = true) (hd : decode c.code pc = .ok (.ldc2_w index, 3)) (hp : pc + 3 = pc') (K : Go p e below P (T.setTop (mkF m pc' L (.long v :: S)))) : Go p e below P (T.setTop (mkF m pc L S)) := by
  subst hp; exact K.via (X.ldc2Long hx hown (mvT hZ w) (g := mkF m pc L S) rfl hd)
/-- what a body's end owes -/
abbrev Owe (s : State) (Q : Option Value → Heap → List Loc → Prop) (C D : Nat) : Outcome → State → Prop := fun o U' => ∃ v L, o = .returned v ∧ Q v U'.heap L ∧ FrameEnd s o U' L C D
/-- a body's contract -/
abbrev Con (l : Launch) (y : MethodName) (bytes : ByteArray) (ml : Nat) (ret : Option FieldType) (ws : List Jvm.Cond) (rm : Room) (as' : Array Value) (Z : State) (h0 : Heap) (Q : Option Value → Heap → List Loc → Prop) (C D : Nat) : Prop :=
  MetFree l y (head1 (Jvm.Cond.code y bytes ml ret :: ws) rm) (fun b U => b = as' ∧ Z.Warmed39 U.vm ∧ U.heap = h0) (fun _ _ _ _ _ => True) (fun _ U o U' => ∃ v L, o = .returned v ∧ Q v U'.heap L ∧ FrameEnd U o U' L C D)
theorem own_body {y : MethodName} {bytes : ByteArray} {ml : Nat} {ret : Option FieldType} {ws : List Jvm.Cond} {rm : Room} {as' : Array Value} {h0 : Heap} {Q : Option Value → Heap → List Loc → Prop} {C D : Nat} (hpl : plainFor y = true)
    (K : ∀ (p : Program) (e : Env) (s : State) (m : MethodId) (below : List Frame) (meth : Method) (c : Code) (s₁ : State), p.tables.exec = Jvm.exec → c.code = bytes → meth.locks = false → c.maxLocals = ml → s.vm.findClass y.cls = some m.cls → meth.name = y.name → meth.sig.returnType = ret → Z.Warmed39 s.vm →
      Stand p l e rm s m as' below meth c s₁ [] 0 0 → s₁.heap = h0 → Go p e below (Owe s Q C D) (s₁.setTop (entryFrame m as' ml))) : Con l y bytes ml ret ws rm as' Z h0 Q C D := by
  refine MetFree.of_bodySF hpl hisR ?_
  intro p e s m args below meth c s₁ Bd hml0 hP hK
  obtain ⟨rfl, hZ, hh⟩ := hP
  exact K p e s m below meth c s₁ Bd.exec Bd.bytes (BodyLoose.notSynchronized Bd) hml0 (findClass_of_methodNamed Bd.named) (name_of_methodNamed Bd.named Bd.method).1 Bd.returns hZ (Stand.of_body Bd) (by rw [← hh, Bd.state]; rfl)
theorem o_ret (X : Stand p l e R s m args below meth c T locs cells slots) (hx : p.tables.exec = Jvm.exec) {Q : Option Value → Heap → List Loc → Prop} {C D : Nat} {w : Value} {t : FieldType} {i : Instr} (hlocks : meth.locks = false) (hret : meth.sig.returnType = some t) (hn : narrow t w = w)
    (hi : (i = .ireturn ∧ (t = .int ∨ t = .boolean ∨ t = .byte ∨ t = .char ∨ t = .short) ∧ ∃ z, w = .int z) ∨ (i = .lreturn ∧ t = .long ∧ ∃ z, w = .long z) ∨ (i = .dreturn ∧ t = .double ∧ ∃ z, w = .double z) ∨ (i = .freturn ∧ t = .float ∧ ∃ z, w = .float z) ∨ (i = .areturn ∧ t.isReference = true ∧ w.isRef = true))
    (hd : decode c.code pc = .ok (i, 1)) (hc : cells ≤ C) (hs : slots ≤ D) (hq : Q (some w) T.heap locs) : Go p e below (Owe s Q C D) (T.setTop (mkF m pc L (w :: S))) := by
  obtain ⟨fs, hr, hrun, hended, hW, hsame⟩ := X.leave (v := some w) (fun h => by rw [hret] at h; cases h) hlocks
  exact ⟨_, _, retOut X hx hret hn hi hd hr, hrun, hended, _, _, rfl, hq, ⟨_, rfl⟩, hW, hsame.mono hc hs⟩
theorem o_retJ (X : Stand p l e R s m args below meth c T locs cells slots) (hx : p.tables.exec = Jvm.exec) {Q : Option Value → Heap → List Loc → Prop} {C D : Nat} {z : Int64} (hlocks : meth.locks = false) (hret : meth.sig.returnType = some .long) (hd : decode c.code pc = .ok (.lreturn, 1)) (hc : cells ≤ C) (hs : slots ≤ D) (hq : Q (some (.long z)) T.heap locs) : Go p e below (Owe s Q C D) (T.setTop (mkF m pc L (.long z :: S))) :=
  o_ret X hx hlocks hret rfl (Or.inr (Or.inl ⟨rfl, rfl, z, rfl⟩)) hd hc hs hq
theorem o_retZ (X : Stand p l e R s m args below meth c T locs cells slots) (hx : p.tables.exec = Jvm.exec) {Q : Option Value → Heap → List Loc → Prop} {C D : Nat} {z : Int32} (hz : narrow .boolean (.int z) = .int z) (hlocks : meth.locks = false) (hret : meth.sig.returnType = some .boolean) (hd : decode c.code pc = .ok (.ireturn, 1)) (hc : cells ≤ C) (hs : slots ≤ D) (hq : Q (some (.int z)) T.heap locs) : Go p e below (Owe s Q C D) (T.setTop (mkF m pc L (.int z :: S))) :=
  o_ret X hx hlocks hret hz (Or.inl ⟨rfl, Or.inr (Or.inl rfl), z, rfl⟩) hd hc hs hq
theorem o_callS (X : Stand p l e R s m args below meth c T locs cells slots) (hx : p.tables.exec = Jvm.exec) (hZ : Z.Warmed39 s.vm) {own : String} {index : Nat} {y : MethodName} {bytes : ByteArray} {maxL : Nat} {ret : Option FieldType} {rm : Room} (W : Nat) {argsL rest : List Value} {Q : Option Value → Heap → List Loc → Prop} {cells' slots' : Nat}
    (hown : s.vm.findClass own = some m.cls) (w1 : (Cond.methodLink own index y).before a0 Z = true) (w2 : (Cond.static y).before a0 Z = true) (w3 : (Cond.initialized y.cls).before a0 Z = true) (w4 : (Cond.code y bytes maxL ret).before a0 Z = true) (hy : y.cls ≠ "java/lang/invoke/MethodHandle" ∧ y.cls ≠ "java/lang/invoke/VarHandle")
    (hM : MetFree l y (head1 [Cond.code y bytes maxL ret] rm) (fun a U => a = argsL.toArray ∧ Z.Warmed39 U.vm ∧ U.heap = h) (fun _ _ _ _ _ => True) (fun _ U o U' => ∃ v L, o = .returned v ∧ Q v U'.heap L ∧ FrameEnd U o U' L rm.cells rm.slots))
    (hf : rm.frames + 1 ≤ R.frames) (hl : W + (maxL + 11) + rm.locals ≤ R.locals) (hcc : cells + rm.cells = cells') (hss : slots + rm.slots = slots') (hc : cells' ≤ R.cells) (hs : slots' ≤ R.slots) (eT : T.heap = h) (hsize : L.size = c.maxLocals) (hlen : ∀ sig, parseMethodDescriptor y.desc = some sig → argsL.length = sig.parameters.length) (hstk : S = argsL.reverse ++ rest)
    (hW : (rest.map fun v => v.category).sum = W) (hd : decode c.code pc = .ok (.invokestatic index, 3)) (hp : pc + 3 = pc') (K : ∀ T' v Lc, Stand p l e R s m args below meth c T' (locs ++ Lc) cells' slots' → Q v T'.heap Lc → Go p e below P (T'.setTop (mkF m pc' L (v.toList ++ rest)))) : Go p e below P (T.setTop (mkF m pc L S)) := by
  subst hp hcc hss
  obtain ⟨v, _, ⟨T', L', k', n'⟩, -, X', ⟨Lc, hQ, l', y', z'⟩, st⟩ := Jvm.LawKit.callS X hx hown (mvT hZ w1) (mvT hZ w2) (mvT hZ w3) (mvT hZ w4) hy (backOf (W := W) hM hZ w4 w3 hf hl) (g := mkF m pc L S) rfl hsize (argsL := argsL) (rest := rest) hlen hstk (by show 2 * 0 + _ ≤ _; rw [hW]; exact Nat.le_of_eq (by simp)) hd (fun _ _ => ⟨rfl, eT, hc, hs⟩)
  dsimp only [Pt.U, Pt.locs, Pt.cells, Pt.slots] at X' l' y' z' st hQ
  subst l' y' z'
  exact (K T' v Lc X' hQ).via st
end Own
theorem pd_0 : parseMethodDescriptor "(JJJ)J" = some ⟨[.long, .long, .long], some .long⟩ := by decide +kernel
theorem d1_0 : decode prog_3_method_6_code 0 = .ok (.lload_n 0, 1) := by decide +kernel
theorem d1_1 : decode prog_3_method_6_code 1 = .ok (.lconst 0, 1) := by decide +kernel
theorem d1_2 : decode prog_3_method_6_code 2 = .ok (.lcmp, 1) := by decide +kernel
theorem d1_3 : decode prog_3_method_6_code 3 = .ok (.ifCond .le 17, 3) := by decide +kernel
theorem d1_6 : decode prog_3_method_6_code 6 = .ok (.lload_n 2, 1) := by decide +kernel
theorem d1_7 : decode prog_3_method_6_code 7 = .ok (.lload 4, 2) := by decide +kernel
theorem d1_9 : decode prog_3_method_6_code 9 = .ok (.lload_n 0, 1) := by decide +kernel
theorem d1_10 : decode prog_3_method_6_code 10 = .ok (.ldiv, 1) := by decide +kernel
theorem d1_11 : decode prog_3_method_6_code 11 = .ok (.lcmp, 1) := by decide +kernel
theorem d1_12 : decode prog_3_method_6_code 12 = .ok (.ifCond .le 8, 3) := by decide +kernel
theorem d1_15 : decode prog_3_method_6_code 15 = .ok (.lload 4, 2) := by decide +kernel
theorem d1_17 : decode prog_3_method_6_code 17 = .ok (.goto 6, 3) := by decide +kernel
theorem d1_20 : decode prog_3_method_6_code 20 = .ok (.lload_n 0, 1) := by decide +kernel
theorem d1_21 : decode prog_3_method_6_code 21 = .ok (.lload_n 2, 1) := by decide +kernel
theorem d1_22 : decode prog_3_method_6_code 22 = .ok (.lmul, 1) := by decide +kernel
theorem d1_23 : decode prog_3_method_6_code 23 = .ok (.lreturn, 1) := by decide +kernel
theorem pn_1 : plainName "com/example/darta/darta/analysis/CacheAwareAnalysis" = true := by first | (simp [plainName, overriddenIn]; done) | decide +kernel
theorem ef_1 (m : MethodId) (x0 : Int64) (x1 : Int64) (x2 : Int64) : entryFrame m #[(.long x0), (.long x1), (.long x2)] 6 = mkF m 0 #[.val (.long x0), .second, .val (.long x1), .second, .val (.long x2), .second] [] := by first | (simp [entryFrame, mkF, argsToLocals, Value.category]; done) | rfl
def own_f1_ret (x1 : Int64) (x2 : Int64) (x3 : Int64) : Int64 := (if (0 : Int64) < x1 then (if (x3 / x1) < x2 then x3 else (x1 * x2)) else (x1 * x2))
def Q1 (Z : State) (x1 : Int64) (x2 : Int64) (x3 : Int64) (h0 : Heap) (n0 : Nat) (v : Option Value) (h : Heap) (L : List Loc) : Prop := v = some (.long (own_f1_ret x1 x2 x3)) ∧ Fr n0 L ∧ h = h0
set_option maxRecDepth 65536 in
set_option maxHeartbeats 40000000 in
theorem rm1 (l : Launch) (Z : State) (a0 : Array Value) (hw : ∀ d ∈ tables_1, d.before a0 Z = true) (ws : List Jvm.Cond) (x1 : Int64) (x2 : Int64) (x3 : Int64) (h0 : Heap) (n0 : Nat) (Z0 : n0 ≤ h0.size)  :
    Con l (⟨"com/example/darta/darta/analysis/CacheAwareAnalysis", "productAtMost", "(JJJ)J"⟩ : MethodName) prog_3_method_6_code 6 (some .long) ws ({ frames := 0, cells := 0, slots := 0, locals := 0 } : Room) #[(.long x1), (.long x2), (.long x3)] Z h0 (Q1 Z x1 x2 x3 h0 n0) ({ frames := 0, cells := 0, slots := 0, locals := 0 } : Room).cells ({ frames := 0, cells := 0, slots := 0, locals := 0 } : Room).slots := by
  refine own_body (plainFor_of_name pn_1) ?_
  intro p e s m below meth c s₁ hx hby hlk hml hown hnm hrt hZ X0 e0
  have w : ∀ (k : Nat) (d : Jvm.Cond), tables_1[k]? = some d → d.before a0 Z = true := fun k d h => hw d (List.mem_of_getElem? h)
  have N0 := Fr.nil n0
  rw [ef_1]
  generalize hOWE : Owe s _ _ _ = OWE
  refine o_lloadN X0 hx (hb hby d1_0) (pc' := 1) rfl rfl ?_
  refine o_lconst X0 hx (0 : Int64) (hb hby d1_1) (pc' := 2) rfl (by decide) ?_
  refine o_lcmp X0 hx (hb hby d1_2) (pc' := 3) rfl ?_
  by_cases hc3_1 : (0 : Int64) < x1
  · refine o_ifN X0 hx (hb hby d1_3) (tltL hc3_1).2.2.2 (pc' := 6) rfl ?_
    refine o_lloadN X0 hx (hb hby d1_6) (pc' := 7) rfl rfl ?_
    refine o_lload X0 hx (hb hby d1_7) (pc' := 9) rfl rfl ?_
    refine o_lloadN X0 hx (hb hby d1_9) (pc' := 10) rfl rfl ?_
    refine o_ldiv X0 hx (hb hby d1_10) (pc' := 11) rfl (own_posJ hc3_1) ?_
    refine o_lcmp X0 hx (hb hby d1_11) (pc' := 12) rfl ?_
    by_cases hc12_2 : (x3 / x1) < x2
    · refine o_ifN X0 hx (hb hby d1_12) (tltL hc12_2).2.2.2 (pc' := 15) rfl ?_
      refine o_lload X0 hx (hb hby d1_15) (pc' := 17) rfl rfl ?_
      refine o_goto X0 hx (hb hby d1_17) (by decide) (pc' := 23) (by decide) ?_
      rw [← hOWE]
      exact o_retJ X0 hx hlk hrt (hb hby d1_23) (by decide) (by decide) (by rw [e0]; exact ⟨(by rw [own_f1_ret, if_pos hc3_1, if_pos hc12_2]), N0, rfl⟩)
    · refine o_ifY X0 hx (hb hby d1_12) (fltL hc12_2).2.2.2 (by decide) (pc' := 20) (by decide) ?_
      refine o_lloadN X0 hx (hb hby d1_20) (pc' := 21) rfl rfl ?_
      refine o_lloadN X0 hx (hb hby d1_21) (pc' := 22) rfl rfl ?_
      refine o_lmul X0 hx (hb hby d1_22) (pc' := 23) rfl ?_
      rw [← hOWE]
      exact o_retJ X0 hx hlk hrt (hb hby d1_23) (by decide) (by decide) (by rw [e0]; exact ⟨(by rw [own_f1_ret, if_pos hc3_1, if_neg hc12_2]), N0, rfl⟩)
  · refine o_ifY X0 hx (hb hby d1_3) (fltL hc3_1).2.2.2 (by decide) (pc' := 20) (by decide) ?_
    refine o_lloadN X0 hx (hb hby d1_20) (pc' := 21) rfl rfl ?_
    refine o_lloadN X0 hx (hb hby d1_21) (pc' := 22) rfl rfl ?_
    refine o_lmul X0 hx (hb hby d1_22) (pc' := 23) rfl ?_
    rw [← hOWE]
    exact o_retJ X0 hx hlk hrt (hb hby d1_23) (by decide) (by decide) (by rw [e0]; exact ⟨(by rw [own_f1_ret, if_neg hc3_1]), N0, rfl⟩)
theorem pn_0 : plainName "com/example/darta/darta/analysis/CacheAwareAnalysisProductAtMostPinLaw" = true := by first | (simp [plainName, overriddenIn]; done) | decide +kernel
theorem ef_0 (m : MethodId) (x0 : Int64) (x1 : Int32) (x2 : Int64) (x3 : Int32) (x4 : Int64) (x5 : Int32) : entryFrame m #[(.long x0), (.int x1), (.long x2), (.int x3), (.long x4), (.int x5)] maxLocals = mkF m 0 #[.val (.long x0), .second, .val (.int x1), .val (.long x2), .second, .val (.int x3), .val (.long x4), .second, .val (.int x5), .unset, .unset, .unset, .unset, .unset, .unset, .unset, .unset, .unset, .unset, .unset, .unset] [] := by first | (simp [entryFrame, mkF, argsToLocals, Value.category, maxLocals]; done) | rfl
def own_law_x0 (q0 : Int64) (q1 : Int32) (q2 : Int64) (q3 : Int32) (q4 : Int64) (q5 : Int32) : Int64 := (uL (q0 &&& (9223372036854775807 : Int64)) (q1 &&& (63 : Int32)))
def own_law_x1 (q0 : Int64) (q1 : Int32) (q2 : Int64) (q3 : Int32) (q4 : Int64) (q5 : Int32) : Int64 := (uL (q2 &&& (9223372036854775807 : Int64)) (q3 &&& (63 : Int32)))
def own_law_x2 (q0 : Int64) (q1 : Int32) (q2 : Int64) (q3 : Int32) (q4 : Int64) (q5 : Int32) : Int64 := (uL (q4 &&& (9223372036854775807 : Int64)) (q5 &&& (63 : Int32)))
def own_law_x3 (q0 : Int64) (q1 : Int32) (q2 : Int64) (q3 : Int32) (q4 : Int64) (q5 : Int32) : Int64 := (own_f1_ret (own_law_x0 q0 q1 q2 q3 q4 q5) (own_law_x1 q0 q1 q2 q3 q4 q5) (own_law_x2 q0 q1 q2 q3 q4 q5))
def own_law_x4 (q0 : Int64) (q1 : Int32) (q2 : Int64) (q3 : Int32) (q4 : Int64) (q5 : Int32) : Int64 := ((own_law_x2 q0 q1 q2 q3 q4 q5) / (own_law_x0 q0 q1 q2 q3 q4 q5))
def own_law_x5 (q0 : Int64) (q1 : Int32) (q2 : Int64) (q3 : Int32) (q4 : Int64) (q5 : Int32) : Int64 := ((own_law_x2 q0 q1 q2 q3 q4 q5) % (own_law_x0 q0 q1 q2 q3 q4 q5))
def own_law_ret (q0 : Int64) (q1 : Int32) (q2 : Int64) (q3 : Int32) (q4 : Int64) (q5 : Int32) : Int32 := (if (own_law_x3 q0 q1 q2 q3 q4 q5) < (0 : Int64) then (0 : Int32) else (if (own_law_x2 q0 q1 q2 q3 q4 q5) < (own_law_x3 q0 q1 q2 q3 q4 q5) then (0 : Int32) else (if (own_law_x0 q0 q1 q2 q3 q4 q5) = (0 : Int64) then (if (own_law_x3 q0 q1 q2 q3 q4 q5) = (0 : Int64) then (1 : Int32) else (0 : Int32)) else (if (own_law_x1 q0 q1 q2 q3 q4 q5) = (0 : Int64) then (if (own_law_x3 q0 q1 q2 q3 q4 q5) = (0 : Int64) then (1 : Int32) else (0 : Int32)) else (if (own_law_x3 q0 q1 q2 q3 q4 q5) < (own_law_x2 q0 q1 q2 q3 q4 q5) then (if ((own_law_x3 q0 q1 q2 q3 q4 q5) % (own_law_x0 q0 q1 q2 q3 q4 q5)) = (0 : Int64) then (if ((own_law_x3 q0 q1 q2 q3 q4 q5) / (own_law_x0 q0 q1 q2 q3 q4 q5)) = (own_law_x1 q0 q1 q2 q3 q4 q5) then (1 : Int32) else (0 : Int32)) else (0 : Int32)) else (if (own_law_x4 q0 q1 q2 q3 q4 q5) < (own_law_x1 q0 q1 q2 q3 q4 q5) then (1 : Int32) else (if (own_law_x1 q0 q1 q2 q3 q4 q5) = (own_law_x4 q0 q1 q2 q3 q4 q5) then (if (own_law_x5 q0 q1 q2 q3 q4 q5) = (0 : Int64) then (1 : Int32) else (0 : Int32)) else (0 : Int32))))))))
def Q0 (Z : State) (q0 : Int64) (q1 : Int32) (q2 : Int64) (q3 : Int32) (q4 : Int64) (q5 : Int32) (h0 : Heap) (n0 : Nat) (v : Option Value) (h : Heap) (L : List Loc) : Prop := v = some (.int (own_law_ret q0 q1 q2 q3 q4 q5)) ∧ Fr n0 L
set_option maxRecDepth 65536 in
set_option maxHeartbeats 40000000 in
theorem rm0 (l : Launch) (Z : State) (a0 : Array Value) (hw : ∀ d ∈ tables_1, d.before a0 Z = true) (ws : List Jvm.Cond) (q0 : Int64) (q1 : Int32) (q2 : Int64) (q3 : Int32) (q4 : Int64) (q5 : Int32) (h0 : Heap) (n0 : Nat) (Z0 : n0 ≤ h0.size)  :
    Con l x code maxLocals ret ws room_1 #[(.long q0), (.int q1), (.long q2), (.int q3), (.long q4), (.int q5)] Z h0 (Q0 Z q0 q1 q2 q3 q4 q5 h0 n0) 0 0 := by
  refine own_body (plainFor_of_name pn_0) ?_
  intro p e s m below meth c s₁ hx hby hlk hml hown hnm hrt hZ X0 e0
  have w : ∀ (k : Nat) (d : Jvm.Cond), tables_1[k]? = some d → d.before a0 Z = true := fun k d h => hw d (List.mem_of_getElem? h)
  have N0 := Fr.nil n0
  have hml : c.maxLocals = 21 := hml
  rw [ef_0]
  generalize hOWE : Owe s _ _ _ = OWE
  refine o_lloadN X0 hx (hb hby at_0) (pc' := 1) rfl rfl ?_
  refine o_ldcJ X0 hx hZ (9223372036854775807 : Int64) hown (w 0 _ rfl) (hb hby at_1) (pc' := 4) rfl ?_
  refine o_land X0 hx (hb hby at_4) (pc' := 5) rfl ?_
  refine o_iloadN X0 hx (hb hby at_5) (pc' := 6) rfl rfl ?_
  refine o_bipush X0 hx (63 : Int32) (hb hby at_6) (pc' := 8) rfl (by decide) ?_
  refine o_iand X0 hx (hb hby at_8) (pc' := 9) rfl ?_
  refine o_lushr X0 hx (hb hby at_9) (pc' := 10) rfl ?_
  refine o_lstore (x := (own_law_x0 q0 q1 q2 q3 q4 q5)) X0 hx (hb hby at_10) (pc' := 12) rfl (L' := #[.val (.long q0), .second, .val (.int q1), .val (.long q2), .second, .val (.int q3), .val (.long q4), .second, .val (.int q5), .val (.long (own_law_x0 q0 q1 q2 q3 q4 q5)), .second, .unset, .unset, .unset, .unset, .unset, .unset, .unset, .unset, .unset, .unset]) rfl ?_
  refine o_lloadN X0 hx (hb hby at_12) (pc' := 13) rfl rfl ?_
  refine o_ldcJ X0 hx hZ (9223372036854775807 : Int64) hown (w 0 _ rfl) (hb hby at_13) (pc' := 16) rfl ?_
  refine o_land X0 hx (hb hby at_16) (pc' := 17) rfl ?_
  refine o_iload X0 hx (hb hby at_17) (pc' := 19) rfl rfl ?_
  refine o_bipush X0 hx (63 : Int32) (hb hby at_19) (pc' := 21) rfl (by decide) ?_
  refine o_iand X0 hx (hb hby at_21) (pc' := 22) rfl ?_
  refine o_lushr X0 hx (hb hby at_22) (pc' := 23) rfl ?_
  refine o_lstore (x := (own_law_x1 q0 q1 q2 q3 q4 q5)) X0 hx (hb hby at_23) (pc' := 25) rfl (L' := #[.val (.long q0), .second, .val (.int q1), .val (.long q2), .second, .val (.int q3), .val (.long q4), .second, .val (.int q5), .val (.long (own_law_x0 q0 q1 q2 q3 q4 q5)), .second, .val (.long (own_law_x1 q0 q1 q2 q3 q4 q5)), .second, .unset, .unset, .unset, .unset, .unset, .unset, .unset, .unset]) rfl ?_
  refine o_lload X0 hx (hb hby at_25) (pc' := 27) rfl rfl ?_
  refine o_ldcJ X0 hx hZ (9223372036854775807 : Int64) hown (w 0 _ rfl) (hb hby at_27) (pc' := 30) rfl ?_
  refine o_land X0 hx (hb hby at_30) (pc' := 31) rfl ?_
  refine o_iload X0 hx (hb hby at_31) (pc' := 33) rfl rfl ?_
  refine o_bipush X0 hx (63 : Int32) (hb hby at_33) (pc' := 35) rfl (by decide) ?_
  refine o_iand X0 hx (hb hby at_35) (pc' := 36) rfl ?_
  refine o_lushr X0 hx (hb hby at_36) (pc' := 37) rfl ?_
  refine o_lstore (x := (own_law_x2 q0 q1 q2 q3 q4 q5)) X0 hx (hb hby at_37) (pc' := 39) rfl (L' := #[.val (.long q0), .second, .val (.int q1), .val (.long q2), .second, .val (.int q3), .val (.long q4), .second, .val (.int q5), .val (.long (own_law_x0 q0 q1 q2 q3 q4 q5)), .second, .val (.long (own_law_x1 q0 q1 q2 q3 q4 q5)), .second, .val (.long (own_law_x2 q0 q1 q2 q3 q4 q5)), .second, .unset, .unset, .unset, .unset, .unset, .unset]) rfl ?_
  refine o_lload X0 hx (hb hby at_39) (pc' := 41) rfl rfl ?_
  refine o_lload X0 hx (hb hby at_41) (pc' := 43) rfl rfl ?_
  refine o_lload X0 hx (hb hby at_43) (pc' := 45) rfl rfl ?_
  refine o_callS X0 hx hZ 0 (argsL := [.long (own_law_x0 q0 q1 q2 q3 q4 q5), .long (own_law_x1 q0 q1 q2 q3 q4 q5), .long (own_law_x2 q0 q1 q2 q3 q4 q5)]) (rest := []) hown (w 1 _ rfl) (w 2 _ rfl) (w 3 _ rfl) (w 4 _ rfl) (by decide) (rm1 l Z a0 hw [] (own_law_x0 q0 q1 q2 q3 q4 q5) (own_law_x1 q0 q1 q2 q3 q4 q5) (own_law_x2 q0 q1 q2 q3 q4 q5) h0 n0 Z0 ) (by decide) (by decide) (cells' := 0) rfl (slots' := 0) rfl (by decide) (by decide) e0 (by rw [hml]; rfl) (lenOf pd_0 rfl) rfl rfl (hb hby at_45) (pc' := 48) rfl ?_
  intro T1 v1 L1 X1 hQ1
  obtain ⟨rfl, Nq1, e1⟩ := hQ1
  have N1 := Fr.app N0 Nq1
  show Go p e below _ (T1.setTop (mkF m 48 _ [.long (own_f1_ret (own_law_x0 q0 q1 q2 q3 q4 q5) (own_law_x1 q0 q1 q2 q3 q4 q5) (own_law_x2 q0 q1 q2 q3 q4 q5))]))
  refine o_lstore (x := (own_law_x3 q0 q1 q2 q3 q4 q5)) X1 hx (hb hby at_48) (pc' := 50) rfl (L' := #[.val (.long q0), .second, .val (.int q1), .val (.long q2), .second, .val (.int q3), .val (.long q4), .second, .val (.int q5), .val (.long (own_law_x0 q0 q1 q2 q3 q4 q5)), .second, .val (.long (own_law_x1 q0 q1 q2 q3 q4 q5)), .second, .val (.long (own_law_x2 q0 q1 q2 q3 q4 q5)), .second, .val (.long (own_law_x3 q0 q1 q2 q3 q4 q5)), .second, .unset, .unset, .unset, .unset]) rfl ?_
  refine o_lload X1 hx (hb hby at_50) (pc' := 52) rfl rfl ?_
  refine o_lconst X1 hx (0 : Int64) (hb hby at_52) (pc' := 53) rfl (by decide) ?_
  refine o_lcmp X1 hx (hb hby at_53) (pc' := 54) rfl ?_
  by_cases hc54_2 : (own_law_x3 q0 q1 q2 q3 q4 q5) < (0 : Int64)
  · refine o_ifY X1 hx (hb hby at_54) (tltL hc54_2).1 (by decide) (pc' := 65) (by decide) ?_
    refine o_iconst X1 hx (0 : Int32) (hb hby at_65) (pc' := 66) rfl (by decide) ?_
    rw [← hOWE]
    exact o_retZ X1 hx rfl hlk hrt (hb hby at_66) (by decide) (by decide) (by rw [e1]; exact ⟨(by rw [own_law_ret, if_pos hc54_2]), N1⟩)
  · refine o_ifN X1 hx (hb hby at_54) (fltL hc54_2).1 (pc' := 57) rfl ?_
    refine o_lload X1 hx (hb hby at_57) (pc' := 59) rfl rfl ?_
    refine o_lload X1 hx (hb hby at_59) (pc' := 61) rfl rfl ?_
    refine o_lcmp X1 hx (hb hby at_61) (pc' := 62) rfl ?_
    by_cases hc62_3 : (own_law_x2 q0 q1 q2 q3 q4 q5) < (own_law_x3 q0 q1 q2 q3 q4 q5)
    · refine o_ifN X1 hx (hb hby at_62) (tltL hc62_3).2.2.2 (pc' := 65) rfl ?_
      refine o_iconst X1 hx (0 : Int32) (hb hby at_65) (pc' := 66) rfl (by decide) ?_
      rw [← hOWE]
      exact o_retZ X1 hx rfl hlk hrt (hb hby at_66) (by decide) (by decide) (by rw [e1]; exact ⟨(by rw [own_law_ret, if_neg hc54_2, if_pos hc62_3]), N1⟩)
    · refine o_ifY X1 hx (hb hby at_62) (fltL hc62_3).2.2.2 (by decide) (pc' := 67) (by decide) ?_
      refine o_lload X1 hx (hb hby at_67) (pc' := 69) rfl rfl ?_
      refine o_lconst X1 hx (0 : Int64) (hb hby at_69) (pc' := 70) rfl (by decide) ?_
      refine o_lcmp X1 hx (hb hby at_70) (pc' := 71) rfl ?_
      by_cases hc71_4 : (own_law_x0 q0 q1 q2 q3 q4 q5) = (0 : Int64)
      · refine o_ifY X1 hx (hb hby at_71) (teqL hc71_4).1 (by decide) (pc' := 81) (by decide) ?_
        refine o_lload X1 hx (hb hby at_81) (pc' := 83) rfl rfl ?_
        refine o_lconst X1 hx (0 : Int64) (hb hby at_83) (pc' := 84) rfl (by decide) ?_
        refine o_lcmp X1 hx (hb hby at_84) (pc' := 85) rfl ?_
        by_cases hc85_5 : (own_law_x3 q0 q1 q2 q3 q4 q5) = (0 : Int64)
        · refine o_ifN X1 hx (hb hby at_85) (teqL hc85_5).2 (pc' := 88) rfl ?_
          refine o_iconst X1 hx (1 : Int32) (hb hby at_88) (pc' := 89) rfl (by decide) ?_
          refine o_goto X1 hx (hb hby at_89) (by decide) (pc' := 93) (by decide) ?_
          rw [← hOWE]
          exact o_retZ X1 hx rfl hlk hrt (hb hby at_93) (by decide) (by decide) (by rw [e1]; exact ⟨(by rw [own_law_ret, if_neg hc54_2, if_neg hc62_3, if_pos hc71_4, if_pos hc85_5]), N1⟩)
        · refine o_ifY X1 hx (hb hby at_85) (feqL hc85_5).2 (by decide) (pc' := 92) (by decide) ?_
          refine o_iconst X1 hx (0 : Int32) (hb hby at_92) (pc' := 93) rfl (by decide) ?_
          rw [← hOWE]
          exact o_retZ X1 hx rfl hlk hrt (hb hby at_93) (by decide) (by decide) (by rw [e1]; exact ⟨(by rw [own_law_ret, if_neg hc54_2, if_neg hc62_3, if_pos hc71_4, if_neg hc85_5]), N1⟩)
      · refine o_ifN X1 hx (hb hby at_71) (feqL hc71_4).1 (pc' := 74) rfl ?_
        refine o_lload X1 hx (hb hby at_74) (pc' := 76) rfl rfl ?_
        refine o_lconst X1 hx (0 : Int64) (hb hby at_76) (pc' := 77) rfl (by decide) ?_
        refine o_lcmp X1 hx (hb hby at_77) (pc' := 78) rfl ?_
        by_cases hc78_6 : (own_law_x1 q0 q1 q2 q3 q4 q5) = (0 : Int64)
        · refine o_ifN X1 hx (hb hby at_78) (teqL hc78_6).2 (pc' := 81) rfl ?_
          refine o_lload X1 hx (hb hby at_81) (pc' := 83) rfl rfl ?_
          refine o_lconst X1 hx (0 : Int64) (hb hby at_83) (pc' := 84) rfl (by decide) ?_
          refine o_lcmp X1 hx (hb hby at_84) (pc' := 85) rfl ?_
          by_cases hc85_7 : (own_law_x3 q0 q1 q2 q3 q4 q5) = (0 : Int64)
          · refine o_ifN X1 hx (hb hby at_85) (teqL hc85_7).2 (pc' := 88) rfl ?_
            refine o_iconst X1 hx (1 : Int32) (hb hby at_88) (pc' := 89) rfl (by decide) ?_
            refine o_goto X1 hx (hb hby at_89) (by decide) (pc' := 93) (by decide) ?_
            rw [← hOWE]
            exact o_retZ X1 hx rfl hlk hrt (hb hby at_93) (by decide) (by decide) (by rw [e1]; exact ⟨(by rw [own_law_ret, if_neg hc54_2, if_neg hc62_3, if_neg hc71_4, if_pos hc78_6, if_pos hc85_7]), N1⟩)
          · refine o_ifY X1 hx (hb hby at_85) (feqL hc85_7).2 (by decide) (pc' := 92) (by decide) ?_
            refine o_iconst X1 hx (0 : Int32) (hb hby at_92) (pc' := 93) rfl (by decide) ?_
            rw [← hOWE]
            exact o_retZ X1 hx rfl hlk hrt (hb hby at_93) (by decide) (by decide) (by rw [e1]; exact ⟨(by rw [own_law_ret, if_neg hc54_2, if_neg hc62_3, if_neg hc71_4, if_pos hc78_6, if_neg hc85_7]), N1⟩)
        · refine o_ifY X1 hx (hb hby at_78) (feqL hc78_6).2 (by decide) (pc' := 94) (by decide) ?_
          refine o_lload X1 hx (hb hby at_94) (pc' := 96) rfl rfl ?_
          refine o_lload X1 hx (hb hby at_96) (pc' := 98) rfl rfl ?_
          refine o_lcmp X1 hx (hb hby at_98) (pc' := 99) rfl ?_
          by_cases hc99_8 : (own_law_x3 q0 q1 q2 q3 q4 q5) < (own_law_x2 q0 q1 q2 q3 q4 q5)
          · refine o_ifN X1 hx (hb hby at_99) (tltL hc99_8).2.1 (pc' := 102) rfl ?_
            refine o_lload X1 hx (hb hby at_102) (pc' := 104) rfl rfl ?_
            refine o_lload X1 hx (hb hby at_104) (pc' := 106) rfl rfl ?_
            refine o_lrem X1 hx (hb hby at_106) (pc' := 107) rfl hc71_4 ?_
            refine o_lconst X1 hx (0 : Int64) (hb hby at_107) (pc' := 108) rfl (by decide) ?_
            refine o_lcmp X1 hx (hb hby at_108) (pc' := 109) rfl ?_
            by_cases hc109_9 : ((own_law_x3 q0 q1 q2 q3 q4 q5) % (own_law_x0 q0 q1 q2 q3 q4 q5)) = (0 : Int64)
            · refine o_ifN X1 hx (hb hby at_109) (teqL hc109_9).2 (pc' := 112) rfl ?_
              refine o_lload X1 hx (hb hby at_112) (pc' := 114) rfl rfl ?_
              refine o_lload X1 hx (hb hby at_114) (pc' := 116) rfl rfl ?_
              refine o_ldiv X1 hx (hb hby at_116) (pc' := 117) rfl hc71_4 ?_
              refine o_lload X1 hx (hb hby at_117) (pc' := 119) rfl rfl ?_
              refine o_lcmp X1 hx (hb hby at_119) (pc' := 120) rfl ?_
              by_cases hc120_10 : ((own_law_x3 q0 q1 q2 q3 q4 q5) / (own_law_x0 q0 q1 q2 q3 q4 q5)) = (own_law_x1 q0 q1 q2 q3 q4 q5)
              · refine o_ifN X1 hx (hb hby at_120) (teqL hc120_10).2 (pc' := 123) rfl ?_
                refine o_iconst X1 hx (1 : Int32) (hb hby at_123) (pc' := 124) rfl (by decide) ?_
                refine o_goto X1 hx (hb hby at_124) (by decide) (pc' := 128) (by decide) ?_
                rw [← hOWE]
                exact o_retZ X1 hx rfl hlk hrt (hb hby at_128) (by decide) (by decide) (by rw [e1]; exact ⟨(by rw [own_law_ret, if_neg hc54_2, if_neg hc62_3, if_neg hc71_4, if_neg hc78_6, if_pos hc99_8, if_pos hc109_9, if_pos hc120_10]), N1⟩)
              · refine o_ifY X1 hx (hb hby at_120) (feqL hc120_10).2 (by decide) (pc' := 127) (by decide) ?_
                refine o_iconst X1 hx (0 : Int32) (hb hby at_127) (pc' := 128) rfl (by decide) ?_
                rw [← hOWE]
                exact o_retZ X1 hx rfl hlk hrt (hb hby at_128) (by decide) (by decide) (by rw [e1]; exact ⟨(by rw [own_law_ret, if_neg hc54_2, if_neg hc62_3, if_neg hc71_4, if_neg hc78_6, if_pos hc99_8, if_pos hc109_9, if_neg hc120_10]), N1⟩)
            · refine o_ifY X1 hx (hb hby at_109) (feqL hc109_9).2 (by decide) (pc' := 127) (by decide) ?_
              refine o_iconst X1 hx (0 : Int32) (hb hby at_127) (pc' := 128) rfl (by decide) ?_
              rw [← hOWE]
              exact o_retZ X1 hx rfl hlk hrt (hb hby at_128) (by decide) (by decide) (by rw [e1]; exact ⟨(by rw [own_law_ret, if_neg hc54_2, if_neg hc62_3, if_neg hc71_4, if_neg hc78_6, if_pos hc99_8, if_neg hc109_9]), N1⟩)
          · refine o_ifY X1 hx (hb hby at_99) (fltL hc99_8).2.1 (by decide) (pc' := 129) (by decide) ?_
            refine o_lload X1 hx (hb hby at_129) (pc' := 131) rfl rfl ?_
            refine o_lload X1 hx (hb hby at_131) (pc' := 133) rfl rfl ?_
            refine o_ldiv X1 hx (hb hby at_133) (pc' := 134) rfl hc71_4 ?_
            refine o_lstore (x := (own_law_x4 q0 q1 q2 q3 q4 q5)) X1 hx (hb hby at_134) (pc' := 136) rfl (L' := #[.val (.long q0), .second, .val (.int q1), .val (.long q2), .second, .val (.int q3), .val (.long q4), .second, .val (.int q5), .val (.long (own_law_x0 q0 q1 q2 q3 q4 q5)), .second, .val (.long (own_law_x1 q0 q1 q2 q3 q4 q5)), .second, .val (.long (own_law_x2 q0 q1 q2 q3 q4 q5)), .second, .val (.long (own_law_x3 q0 q1 q2 q3 q4 q5)), .second, .val (.long (own_law_x4 q0 q1 q2 q3 q4 q5)), .second, .unset, .unset]) rfl ?_
            refine o_lload X1 hx (hb hby at_136) (pc' := 138) rfl rfl ?_
            refine o_lload X1 hx (hb hby at_138) (pc' := 140) rfl rfl ?_
            refine o_lrem X1 hx (hb hby at_140) (pc' := 141) rfl hc71_4 ?_
            refine o_lstore (x := (own_law_x5 q0 q1 q2 q3 q4 q5)) X1 hx (hb hby at_141) (pc' := 143) rfl (L' := #[.val (.long q0), .second, .val (.int q1), .val (.long q2), .second, .val (.int q3), .val (.long q4), .second, .val (.int q5), .val (.long (own_law_x0 q0 q1 q2 q3 q4 q5)), .second, .val (.long (own_law_x1 q0 q1 q2 q3 q4 q5)), .second, .val (.long (own_law_x2 q0 q1 q2 q3 q4 q5)), .second, .val (.long (own_law_x3 q0 q1 q2 q3 q4 q5)), .second, .val (.long (own_law_x4 q0 q1 q2 q3 q4 q5)), .second, .val (.long (own_law_x5 q0 q1 q2 q3 q4 q5)), .second]) rfl ?_
            refine o_lload X1 hx (hb hby at_143) (pc' := 145) rfl rfl ?_
            refine o_lload X1 hx (hb hby at_145) (pc' := 147) rfl rfl ?_
            refine o_lcmp X1 hx (hb hby at_147) (pc' := 148) rfl ?_
            by_cases hc148_11 : (own_law_x4 q0 q1 q2 q3 q4 q5) < (own_law_x1 q0 q1 q2 q3 q4 q5)
            · refine o_ifY X1 hx (hb hby at_148) (tltL hc148_11).2.2.1 (by decide) (pc' := 166) (by decide) ?_
              refine o_iconst X1 hx (1 : Int32) (hb hby at_166) (pc' := 167) rfl (by decide) ?_
              refine o_goto X1 hx (hb hby at_167) (by decide) (pc' := 171) (by decide) ?_
              rw [← hOWE]
              exact o_retZ X1 hx rfl hlk hrt (hb hby at_171) (by decide) (by decide) (by rw [e1]; exact ⟨(by rw [own_law_ret, if_neg hc54_2, if_neg hc62_3, if_neg hc71_4, if_neg hc78_6, if_neg hc99_8, if_pos hc148_11]), N1⟩)
            · refine o_ifN X1 hx (hb hby at_148) (fltL hc148_11).2.2.1 (pc' := 151) rfl ?_
              refine o_lload X1 hx (hb hby at_151) (pc' := 153) rfl rfl ?_
              refine o_lload X1 hx (hb hby at_153) (pc' := 155) rfl rfl ?_
              refine o_lcmp X1 hx (hb hby at_155) (pc' := 156) rfl ?_
              by_cases hc156_12 : (own_law_x1 q0 q1 q2 q3 q4 q5) = (own_law_x4 q0 q1 q2 q3 q4 q5)
              · refine o_ifN X1 hx (hb hby at_156) (teqL hc156_12).2 (pc' := 159) rfl ?_
                refine o_lload X1 hx (hb hby at_159) (pc' := 161) rfl rfl ?_
                refine o_lconst X1 hx (0 : Int64) (hb hby at_161) (pc' := 162) rfl (by decide) ?_
                refine o_lcmp X1 hx (hb hby at_162) (pc' := 163) rfl ?_
                by_cases hc163_13 : (own_law_x5 q0 q1 q2 q3 q4 q5) = (0 : Int64)
                · refine o_ifN X1 hx (hb hby at_163) (teqL hc163_13).2 (pc' := 166) rfl ?_
                  refine o_iconst X1 hx (1 : Int32) (hb hby at_166) (pc' := 167) rfl (by decide) ?_
                  refine o_goto X1 hx (hb hby at_167) (by decide) (pc' := 171) (by decide) ?_
                  rw [← hOWE]
                  exact o_retZ X1 hx rfl hlk hrt (hb hby at_171) (by decide) (by decide) (by rw [e1]; exact ⟨(by rw [own_law_ret, if_neg hc54_2, if_neg hc62_3, if_neg hc71_4, if_neg hc78_6, if_neg hc99_8, if_neg hc148_11, if_pos hc156_12, if_pos hc163_13]), N1⟩)
                · refine o_ifY X1 hx (hb hby at_163) (feqL hc163_13).2 (by decide) (pc' := 170) (by decide) ?_
                  refine o_iconst X1 hx (0 : Int32) (hb hby at_170) (pc' := 171) rfl (by decide) ?_
                  rw [← hOWE]
                  exact o_retZ X1 hx rfl hlk hrt (hb hby at_171) (by decide) (by decide) (by rw [e1]; exact ⟨(by rw [own_law_ret, if_neg hc54_2, if_neg hc62_3, if_neg hc71_4, if_neg hc78_6, if_neg hc99_8, if_neg hc148_11, if_pos hc156_12, if_neg hc163_13]), N1⟩)
              · refine o_ifY X1 hx (hb hby at_156) (feqL hc156_12).2 (by decide) (pc' := 170) (by decide) ?_
                refine o_iconst X1 hx (0 : Int32) (hb hby at_170) (pc' := 171) rfl (by decide) ?_
                rw [← hOWE]
                exact o_retZ X1 hx rfl hlk hrt (hb hby at_171) (by decide) (by decide) (by rw [e1]; exact ⟨(by rw [own_law_ret, if_neg hc54_2, if_neg hc62_3, if_neg hc71_4, if_neg hc78_6, if_neg hc99_8, if_neg hc148_11, if_neg hc156_12]), N1⟩)
theorem own_uLn (x : Int64) (y : Int32) : (uL x y).toBitVec.toNat = x.toBitVec.toNat >>> ((y &&& 0x3f).toInt64.toUInt64.toNat % 64) := UInt64.toNat_shiftRight _ _
theorem own_i64 (x : Int64) : x.toInt = if 2 * x.toBitVec.toNat < 2 ^ 64 then (x.toBitVec.toNat : Int) else (x.toBitVec.toNat : Int) - 2 ^ 64 := BitVec.toInt_eq_toNat_cond _
theorem own_uL_nn (x : Int64) (y : Int32) (h : 0 ≤ x.toInt) : 0 ≤ (uL x y).toInt ∧ (uL x y).toInt ≤ x.toInt := by
  have h1 := own_i64 x
  have h2 := own_i64 (uL x y)
  rw [own_uLn] at h2
  have h3 : x.toBitVec.toNat >>> ((y &&& 0x3f).toInt64.toUInt64.toNat % 64) ≤ x.toBitVec.toNat := Nat.shiftRight_le _ _
  have h4 := x.toBitVec.isLt
  generalize x.toBitVec.toNat >>> ((y &&& 0x3f).toInt64.toUInt64.toNat % 64) = M at *
  generalize x.toBitVec.toNat = N at *
  split at h1 <;> split at h2 <;> omega
theorem own_mx (x : Int64) : 0 ≤ (x &&& (9223372036854775807 : Int64)).toInt := by
  rw [c_maskL x 9223372036854775807 63 (by decide) (by decide)]
  omega
theorem own_uL_mx (x : Int64) (y : Int32) : 0 ≤ (uL (x &&& (9223372036854775807 : Int64)) y).toInt := (own_uL_nn _ _ (own_mx x)).1
theorem own_ldiv (x y : Int64) (h0 : 0 ≤ x.toInt) (h1 : 0 < y.toInt) : (x / y).toInt = x.toInt / y.toInt := (c_ldiv x y _ rfl (fun q => by rw [q] at h1; exact absurd h1 (by decide))).1 h0
theorem own_tree (a b c r q m : Int64) (h1 : ¬ r < (0 : Int64)) (h2 : ¬ c < r) (h3 : a = 0 → r = 0) (h4 : b = 0 → r = 0) (h5 : a ≠ 0 → r < c → r % a = 0 ∧ r / a = b) (h6 : a ≠ 0 → b ≠ 0 → ¬ r < c → q < b ∨ (b = q ∧ m = 0)) :
    (if r < (0 : Int64) then (0 : Int32) else (if c < r then (0 : Int32) else (if a = (0 : Int64) then (if r = (0 : Int64) then (1 : Int32) else (0 : Int32)) else (if b = (0 : Int64) then (if r = (0 : Int64) then (1 : Int32) else (0 : Int32)) else (if r < c then (if (r % a) = (0 : Int64) then (if (r / a) = b then (1 : Int32) else (0 : Int32)) else (0 : Int32)) else (if q < b then (1 : Int32) else (if b = q then (if m = (0 : Int64) then (1 : Int32) else (0 : Int32)) else (0 : Int32)))))))) = 1 := by
  rw [if_neg h1, if_neg h2]
  by_cases ha : a = 0
  · rw [if_pos ha, if_pos (h3 ha)]
  · rw [if_neg ha]
    by_cases hb : b = 0
    · rw [if_pos hb, if_pos (h4 hb)]
    · rw [if_neg hb]
      by_cases hr : r < c
      · rw [if_pos hr, if_pos (h5 ha hr).1, if_pos (h5 ha hr).2]
      · rw [if_neg hr]
        rcases h6 ha hb hr with h | ⟨h, h'⟩
        · rw [if_pos h]
        · by_cases hq : q < b
          · rw [if_pos hq]
          · rw [if_neg hq, if_pos h, if_pos h']
theorem own_mod0 (r a : Int64) (h : r.toInt % a.toInt = 0) (h0 : 0 ≤ r.toInt) : r % a = 0 := by
  apply Int64.toInt_inj.mp
  rw [Int64.toInt_mod, Int.tmod_eq_emod_of_nonneg h0, h]
  rfl
theorem own_core (a b c : Int64) (ha : 0 ≤ a.toInt) (hb : 0 ≤ b.toInt) (hc : 0 ≤ c.toInt) :
    ¬ own_f1_ret a b c < (0 : Int64) ∧ ¬ c < own_f1_ret a b c ∧ (a = 0 → own_f1_ret a b c = 0) ∧ (b = 0 → own_f1_ret a b c = 0) ∧ (a ≠ 0 → own_f1_ret a b c < c → own_f1_ret a b c % a = 0 ∧ own_f1_ret a b c / a = b) ∧ (a ≠ 0 → b ≠ 0 → ¬ own_f1_ret a b c < c → c / a < b ∨ (b = c / a ∧ c % a = 0)) := by
  have z0 : (0 : Int64).toInt = 0 := rfl
  unfold own_f1_ret
  by_cases h0 : (0 : Int64) < a
  · rw [if_pos h0]
    have hA : 0 < a.toInt := by rw [Int64.lt_iff_toInt_lt, z0] at h0; exact h0
    have hq := own_ldiv c a hc hA
    have hQ : 0 ≤ c.toInt / a.toInt := Int.ediv_nonneg hc ha
    by_cases h1 : c / a < b
    · rw [if_pos h1]
      refine ⟨by rw [Int64.lt_iff_toInt_lt, z0]; omega, Int64.lt_irrefl, fun q => absurd q (own_posJ h0), fun q => ?_, fun _ q => absurd q Int64.lt_irrefl, fun _ _ _ => Or.inl h1⟩
      rw [Int64.lt_iff_toInt_lt, hq, q, z0] at h1
      omega
    · rw [if_neg h1]
      have hB : b.toInt ≤ c.toInt / a.toInt := by rw [Int64.lt_iff_toInt_lt, hq] at h1; omega
      have m1 : a.toInt * b.toInt ≤ a.toInt * (c.toInt / a.toInt) := Int.mul_le_mul_of_nonneg_left hB ha
      have m2 : a.toInt * (c.toInt / a.toInt) ≤ c.toInt := Int.mul_ediv_self_le (by omega)
      have m3 : 0 ≤ a.toInt * b.toInt := Int.mul_nonneg ha hb
      have m4 := c_lmul a b
      have m5 := rng64 (a * b)
      have m6 := rng64 c
      have mr : (a * b).toInt = a.toInt * b.toInt := by
        generalize a.toInt * b.toInt = P at *
        generalize a.toInt * (c.toInt / a.toInt) = P' at *
        omega
      refine ⟨by rw [Int64.lt_iff_toInt_lt, z0, mr]; omega, by rw [Int64.lt_iff_toInt_lt, mr]; omega, fun q => absurd q (own_posJ h0), fun q => by rw [q, Int64.mul_zero], fun _ _ => ⟨?_, ?_⟩, fun _ _ q => Or.inr ⟨?_, ?_⟩⟩
      · apply own_mod0 _ _ _ (by rw [mr]; exact m3)
        rw [mr]
        exact Int.mul_emod_right _ _
      · apply Int64.toInt_inj.mp
        rw [own_ldiv _ _ (by rw [mr]; exact m3) hA, mr]
        exact Int.mul_ediv_cancel_left _ (by omega)
      · have hcc : c.toInt = a.toInt * b.toInt := by rw [Int64.lt_iff_toInt_lt, mr] at q; omega
        apply Int64.toInt_inj.mp
        rw [hq, hcc]
        exact (Int.mul_ediv_cancel_left _ (by omega)).symm
      · have hcc : c.toInt = a.toInt * b.toInt := by rw [Int64.lt_iff_toInt_lt, mr] at q; omega
        apply own_mod0 _ _ _ hc
        rw [hcc]
        exact Int.mul_emod_right _ _
  · rw [if_neg h0]
    have hA : a = 0 := by
      apply Int64.toInt_inj.mp
      rw [Int64.lt_iff_toInt_lt, z0] at h0
      rw [z0]; omega
    subst hA
    rw [Int64.zero_mul]
    exact ⟨Int64.lt_irrefl, by rw [Int64.lt_iff_toInt_lt, z0]; omega, fun _ => rfl, fun _ => rfl, fun q => absurd rfl q, fun q => absurd rfl q⟩
theorem own_main (q0 : Int64) (q1 : Int32) (q2 : Int64) (q3 : Int32) (q4 : Int64) (q5 : Int32) : own_law_ret q0 q1 q2 q3 q4 q5 = 1 := by
  have h := own_core (own_law_x0 q0 q1 q2 q3 q4 q5) (own_law_x1 q0 q1 q2 q3 q4 q5) (own_law_x2 q0 q1 q2 q3 q4 q5) (own_uL_mx _ _) (own_uL_mx _ _) (own_uL_mx _ _)
  exact own_tree _ _ _ _ _ _ h.1 h.2.1 h.2.2.1 h.2.2.2.1 h.2.2.2.2.1 h.2.2.2.2.2
set_option maxRecDepth 65536 in
set_option maxHeartbeats 40000000 in
theorem comes_1 {Post : Tables → Env → Array Value → State → Outcome → State → Prop} (hpost : ∀ tb e args s v u, (limb_1_1.after args s (.returned v) u = true ∧ limb_1_2.after args s (.returned v) u = true ∧ True) → FrameEnd s (.returned v) u (Jvm.fieldLocs frame_1_writes args s ++ Jvm.arrayLocs frame_1_arrays args s ++ Jvm.staticLocs frame_1_statics s) 0 0 → Post tb e args s (.returned v) u) :
    ArmFor flags0 classFile x code maxLocals ret World_1 tables_1 room_1 Calls_1 rest_1 Pre_1 Post := by
  intro l hfl _ _ p e ha hc hk s m args below hf hA hF happ hP
  obtain ⟨hcalls, hrest, hpre⟩ := hP
  obtain ⟨-, -, -, hnamed, -, -, -, hat⟩ := (Spec.applies_iff hf).mp happ
  obtain ⟨hg, hn⟩ := and_e (Cond.before_iff.mp (show (Jvm.Cond.and given_1 narrow_1).before args s = true from hpre))
  obtain ⟨hcnt, r0⟩ := and_e hg
  obtain ⟨a0, r1⟩ := and_e r0
  obtain ⟨a1, r2⟩ := and_e r1
  obtain ⟨a2, r3⟩ := and_e r2
  obtain ⟨a3, r4⟩ := and_e r3
  obtain ⟨a4, r5⟩ := and_e r4
  obtain ⟨w0, w1, w2, w3, w4, w5, rfl⟩ : ∃ w0 w1 w2 w3 w4 w5 : Value, args = #[w0, w1, w2, w3, w4, w5] := by
    have hs : args.size = 6 := by simpa [Cond.value, given_1] using hcnt
    obtain ⟨L⟩ := args
    match L, hs with
    | [w0, w1, w2, w3, w4, w5], _ => exact ⟨w0, w1, w2, w3, w4, w5, rfl⟩
  have hw := fun d (hd : d ∈ tables_1) => atoms_spec (ws := Jvm.Cond.code x code maxLocals ret :: tables_1) hat d (List.mem_cons_of_mem _ hd)
  obtain ⟨q0, y0⟩ := isL_v a0
  obtain rfl : w0 = (.long q0) := Option.some.inj y0
  obtain ⟨q1, y1⟩ := is_v a1
  obtain rfl : w1 = (.int q1) := Option.some.inj y1
  obtain ⟨q2, y2⟩ := isL_v a2
  obtain rfl : w2 = (.long q2) := Option.some.inj y2
  obtain ⟨q3, y3⟩ := is_v a3
  obtain rfl : w3 = (.int q3) := Option.some.inj y3
  obtain ⟨q4, y4⟩ := isL_v a4
  obtain rfl : w4 = (.long q4) := Option.some.inj y4
  obtain ⟨q5, y5⟩ := is_v r5
  obtain rfl : w5 = (.int q5) := Option.some.inj y5
  obtain ⟨n, o, h1, h2, h3, _, L, rfl, ⟨rfl, N⟩, hq⟩ := rm0 l s _ hw tables_1 q0 q1 q2 q3 q4 q5 s.heap s.heap.size (Nat.le_refl _) p e ha hc hk s m _ below hf ((Spec.applies_iff_loose hf).mp happ).1 ⟨rfl, State.Warmed39.refl s, rfl⟩ trivial
  refine ⟨n, _, h1, h2, h3, hpost _ _ _ _ _ _ ⟨Cond.after_iff.mpr rfl, Cond.after_iff.mpr (eq_i res_at (Term.int_eval (1)) (congrArg Value.int (own_main q0 q1 q2 q3 q4 q5))), trivial⟩ ⟨hq.1, hq.2.1, (hq.2.2.sift fun y hy => Or.inr (N y hy)).mono (by decide) (by decide)⟩⟩
theorem main_1_1 : Claimed_1_1 := comes_1 fun _ _ _ _ _ _ h hF => ⟨h.1, hF⟩
theorem main_1_2 : Claimed_1_2 := comes_1 fun _ _ _ _ _ _ h hF => ⟨h.2.1, hF⟩
end Jvm.Pilot.@@N@@
namespace Jvm.Pilot.@@N@@
open Jvm Jvm.ClassFile Sem Op Lib Jvm.Free Jvm.Stand Jvm.Pilot.@@N@@.Jvm.D
/-! MADE BY PROGRAM (witnessworld.py) out of the Statement's table words and the real class files: 10 classes; the members and pool entries that the words name. The judged class is class 1, her method 1. -/
namespace start1
open Jvm.ClassFile
def u (s : String) : CpInfo := .utf8 (stringToUtf16 s)
/-- a pool by its gaps: so many unusable entries, then the entry; so many at the end -/
def gap : Nat → List CpInfo → List CpInfo
  | 0, r => r
  | n + 1, r => .unusable :: gap n r
def poolList (es : List (Nat × CpInfo)) (last : Nat) : List CpInfo := es.foldr (fun e r => gap e.1 (e.2 :: r)) (gap last [])
def pool (es : List (Nat × CpInfo)) (last : Nat) : Array CpInfo := ⟨poolList es last⟩
def fileOf (pool : Array CpInfo) (this : Nat) (attrs : Array Attribute := #[]) (ms : Array MethodInfo := #[]) (fl : Nat := 33) (sup : Nat := 0) (ifs : Array Nat := #[]) (fds : Array FieldInfo := #[]) : ClassFile where
  minorVersion := 0
  majorVersion := 65
  constantPool := pool
  accessFlags := fl
  thisClass := this
  superClass := sup
  interfaces := ifs
  fields := fds
  methods := ms
  attributes := attrs
def plain (name : String) (sup : Option ClassId) : Class where
  name := name
  kind := .ordinary
  loader := none
  accessFlags := 33
  super := sup
  interfaces := #[]
  cf := none
  fields := #[]
  methods := #[]
  instanceTypes := #[]
  staticTypes := #[]
  resolved := #[]
  callSites := []
  init := .initialized
  statics := none
  mirror := none

def pool0 : Array CpInfo := pool [(5, u "<init>"), (0, u "()V"), (1, .class_ 10), (1, u "java/lang/Object")] 113

def k0m0 : Method := { name := "<init>", desc := "()V", sig := { parameters := [], returnType := none }, accessFlags := 1, code := none }
/-- java/lang/Object -/
def k0 : Class := { plain "java/lang/Object" none with
  accessFlags := 33
  interfaces := #[]
  cf := some (fileOf pool0 8 #[] #[{ accessFlags := 1, nameIndex := 5, descriptorIndex := 6, attributes := #[] }] 33 0 #[] #[])
  fields := #[]
  methods := #[k0m0]
  instanceTypes := #[]
  staticTypes := #[]
  resolved := Array.replicate 124 none
  statics := none }

def pool1 : Array CpInfo := pool [(2, .class_ 4), (1, u "java/lang/Object"), (0, u "<init>"), (0, u "()V"), (2, .long 9223372036854775807), (1, .methodref 12 13), (0, .class_ 14), (0, .nameAndType 15 16), (0, u "com/example/darta/darta/analysis/CacheAwareAnalysis"), (0, u "productAtMost"), (0, u "(JJJ)J"), (0, .class_ 18), (0, u "com/example/darta/darta/analysis/CacheAwareAnalysisProductAtMostPinLaw"), (2, u "law"), (0, u "(JIJIJI)Z")] 3

def k1m0 : Method := { name := "<init>", desc := "()V", sig := { parameters := [], returnType := none }, accessFlags := 2, code := none }
def k1c1 : Code := { maxStack := 6, maxLocals := 21, code := code, exceptionTable := #[], attributes := #[] }
def k1m1 : Method := { name := "law", desc := "(JIJIJI)Z", sig := { parameters := [.long, .int, .long, .int, .long, .int], returnType := some .boolean }, accessFlags := 9, code := some k1c1 }
/-- com/example/darta/darta/analysis/CacheAwareAnalysisProductAtMostPinLaw -/
def k1 : Class := { plain "com/example/darta/darta/analysis/CacheAwareAnalysisProductAtMostPinLaw" (some 0) with
  accessFlags := 49
  interfaces := #[]
  cf := some (fileOf pool1 17 #[] #[{ accessFlags := 2, nameIndex := 5, descriptorIndex := 6, attributes := #[] }, { accessFlags := 9, nameIndex := 21, descriptorIndex := 22, attributes := #[] }] 49 2 #[] #[])
  fields := #[]
  methods := #[k1m0, k1m1]
  instanceTypes := #[]
  staticTypes := #[]
  resolved := Array.replicate 26 none
  statics := none }

def pool2 : Array CpInfo := pool [(4, .class_ 5), (0, u "com/example/darta/darta/analysis/Analysis"), (0, .class_ 7), (0, u "java/lang/Object")] 17

/-- com/example/darta/darta/analysis/Analysis -/
def k2 : Class := { plain "com/example/darta/darta/analysis/Analysis" (some 0) with
  accessFlags := 1537
  interfaces := #[]
  cf := some (fileOf pool2 4 #[] #[] 1537 6 #[] #[])
  fields := #[]
  methods := #[]
  instanceTypes := #[]
  staticTypes := #[]
  resolved := Array.replicate 25 none
  statics := none }

def pool3 : Array CpInfo := pool [(2, .class_ 4), (1, u "java/lang/Object"), (0, u "<init>"), (0, u "()V"), (27, .class_ 36), (1, u "com/example/darta/darta/analysis/CacheAwareAnalysis"), (60, .class_ 98), (0, u "com/example/darta/darta/analysis/CacheAwareAnalysis$1"), (14, .class_ 114), (0, u "com/example/darta/darta/analysis/Analysis"), (17, u "productAtMost"), (0, u "(JJJ)J"), (8, .class_ 143), (0, u "com/example/darta/darta/analysis/CacheAwareAnalysis$JobsWithinBounds"), (0, .class_ 145), (0, u "com/example/darta/darta/analysis/CacheAwareAnalysis$ReloadBound")] 29

def k3m0 : Method := { name := "<init>", desc := "()V", sig := { parameters := [], returnType := none }, accessFlags := 0, code := none }
def k3c1 : Code := { maxStack := 6, maxLocals := 6, code := prog_3_method_6_code, exceptionTable := #[], attributes := #[] }
def k3m1 : Method := { name := "productAtMost", desc := "(JJJ)J", sig := { parameters := [.long, .long, .long], returnType := some .long }, accessFlags := 8, code := some k3c1 }
/-- com/example/darta/darta/analysis/CacheAwareAnalysis -/
def k3 : Class := { plain "com/example/darta/darta/analysis/CacheAwareAnalysis" (some 0) with
  accessFlags := 1056
  interfaces := #[2]
  cf := some (fileOf pool3 34 #[.nestMembers #[142, 144, 97]] #[{ accessFlags := 0, nameIndex := 5, descriptorIndex := 6, attributes := #[] }, { accessFlags := 8, nameIndex := 132, descriptorIndex := 133, attributes := #[] }] 1056 2 #[113] #[])
  fields := #[]
  methods := #[k3m0, k3m1]
  instanceTypes := #[]
  staticTypes := #[]
  resolved := Array.replicate 175 none
  statics := none }

def pool4 : Array CpInfo := pool [(1, u "java/lang/Cloneable"), (0, .class_ 1), (0, u "java/lang/Object"), (0, .class_ 3)] 3

/-- java/lang/Cloneable -/
def k4 : Class := { plain "java/lang/Cloneable" (some 0) with
  accessFlags := 1537
  interfaces := #[]
  cf := some (fileOf pool4 2 #[] #[] 1537 4 #[] #[])
  fields := #[]
  methods := #[]
  instanceTypes := #[]
  staticTypes := #[]
  resolved := Array.replicate 8 none
  statics := none }

def pool5 : Array CpInfo := pool [(1, u "java/io/Serializable"), (0, .class_ 1), (0, u "java/lang/Object"), (0, .class_ 3)] 3

/-- java/io/Serializable -/
def k5 : Class := { plain "java/io/Serializable" (some 0) with
  accessFlags := 1537
  interfaces := #[]
  cf := some (fileOf pool5 2 #[] #[] 1537 4 #[] #[])
  fields := #[]
  methods := #[]
  instanceTypes := #[]
  staticTypes := #[]
  resolved := Array.replicate 8 none
  statics := none }

/-- the primitive byte -/
def k6 : Class := { plain "byte" none with kind := .primitive 'B', accessFlags := 0x411 }
/-- [B -/
def k7 : Class := { plain "[B" (some 0) with kind := .array 6 .byte, interfaces := #[4, 5], accessFlags := 1041 }

/-- the primitive int -/
def k8 : Class := { plain "int" none with kind := .primitive 'I', accessFlags := 0x411 }
/-- [I -/
def k9 : Class := { plain "[I" (some 0) with kind := .array 8 .int, interfaces := #[4, 5], accessFlags := 1041 }

def heap : Heap := #[]
def classes : Array Class := #[k0, k1, k2, k3, k4, k5, k6, k7, k8, k9]
def interned : List (Array UInt16 × Addr) := []
def slotsUsed : Nat := 0
def theMethod : MethodId := ⟨1, 1⟩
def args0 : Array Value := #[.long 5, .int 7, .long 5, .int 7, .long 5, .int 7]
def aboutOver (below : List Frame) : State where
  vm := { classes := classes, interned := interned.toArray }
  heap := heap
  slotsUsed := slotsUsed
  threads := #[{ frames := .invoking theMethod args0 :: below }]
def below0 : List Frame := [.native { method := ⟨0, 0⟩, args := #[] }]
def about1 : State := aboutOver below0
def p0 : Program := .bare "" "" ""
def e0 : Env := launch0.env 0 0 0
theorem w_frames : about1.frames = Frame.invoking theMethod args0 :: below0 := rfl
set_option maxRecDepth 65536 in
theorem w_args : argsFit about1.vm theMethod args0 = true := by decide +kernel
set_option maxRecDepth 65536 in
theorem w_heap : heapFits about1 = true := by decide +kernel
set_option maxRecDepth 65536 in
theorem w_runnable : about1.curStatus? = some .runnable := by decide +kernel
set_option maxRecDepth 65536 in
theorem w_alone : about1.alone = true := by decide +kernel
set_option maxRecDepth 65536 in
theorem w_named : about1.methodNamed? x = some theMethod := by decide +kernel
set_option maxRecDepth 65536 in
theorem w_hears : about1.hears theMethod below0 = true := by decide +kernel
set_option maxRecDepth 65536 in
theorem w_ripe : about1.ripe theMethod args0 below0 = true := by decide +kernel
theorem w_running : about1.status = .running := rfl
set_option maxRecDepth 65536 in
theorem w_room : about1.hasRoom e0.platform room_1 = true :=
  launch0.hasRoom_least _ room_1 (by decide +kernel) (by decide +kernel) (by decide +kernel) (by decide +kernel) (by decide +kernel) (by decide +kernel)
theorem allAtoms_all (ts : List Jvm.Cond) (a : Array Jvm.Value) (st : Jvm.State) : (allAtoms ts).before a st = ts.all (fun c => c.before a st) := by
  induction ts with
  | nil => rfl
  | cons c t ih =>
    show (Jvm.Cond.and c (allAtoms t)).before a st = _
    rw [Jvm.Cond.before_and, ih, List.all_cons]
def words1 : List Jvm.Cond := Jvm.Cond.code x code maxLocals ret :: tables_1
/-- a 'code' word, met by the world's own term for the bytes: nothing is compared byte by byte -/
theorem code_word {y : MethodName} {bytes : ByteArray} {mx : Nat} {rt : Option FieldType} {a : Array Value} {s : State} {m : MethodId} {meth : Method} {c : Code} (h1 : s.methodNamed? y = some m) (h2 : s.vm.method? m = some meth) (h3 : meth.code = some c) (h4 : c.code = bytes)
    (h5 : (c.maxLocals == mx && c.exceptionTable.isEmpty && decide (c.maxStack ≤ mostOperands) && decide (meth.sig.returnType = rt) && !meth.locks && decide (parseMethodDescriptor y.desc = some meth.sig)) = true) : (Jvm.Cond.code y bytes mx rt).before a s = true := by
  simp only [Bool.and_eq_true, beq_iff_eq, Bool.not_eq_true', decide_eq_true_eq] at h5
  obtain ⟨⟨⟨⟨⟨g1, g2⟩, g3⟩, g4⟩, g5⟩, g6⟩ := h5
  simp [Cond.before, Cond.holds, Cond.value, h1, h2, h3, h4, g1, g2, g3, g4, g5, g6]
def isCode : Jvm.Cond → Bool
  | .code _ _ _ _ => true
  | _ => false
theorem all_split {L : List Jvm.Cond} {P : Jvm.Cond → Bool} (h1 : L.all (fun c => isCode c || P c) = true) (h2 : ∀ c ∈ L.filter isCode, P c = true) : L.all P = true := by
  refine List.all_eq_true.mpr fun c hc => ?_
  have h := List.all_eq_true.mp h1 c hc
  rcases Bool.eq_false_or_eq_true (isCode c) with hi | hi
  · exact h2 c (List.mem_filter.mpr ⟨hc, hi⟩)
  · simpa [hi] using h
set_option maxRecDepth 65536 in
theorem w_c0 : (Jvm.Cond.code x code maxLocals ret).before args0 about1 = true := code_word (m := ⟨1, 1⟩) (meth := k1m1) (c := k1c1) (by decide +kernel) rfl rfl rfl (by decide +kernel)
set_option maxRecDepth 65536 in
theorem w_c1 : (Jvm.Cond.code ({ cls := "com/example/darta/darta/analysis/CacheAwareAnalysis", name := "productAtMost", desc := "(JJJ)J" } : Jvm.MethodName) prog_3_method_6_code (6 : Nat) (Option.some Jvm.ClassFile.FieldType.long)).before args0 about1 = true := code_word (m := ⟨3, 1⟩) (meth := k3m1) (c := k3c1) (by decide +kernel) rfl rfl rfl (by decide +kernel)
def codes1 : List Jvm.Cond := [Jvm.Cond.code x code maxLocals ret, Jvm.Cond.code ({ cls := "com/example/darta/darta/analysis/CacheAwareAnalysis", name := "productAtMost", desc := "(JJJ)J" } : Jvm.MethodName) prog_3_method_6_code (6 : Nat) (Option.some Jvm.ClassFile.FieldType.long)]
set_option maxRecDepth 65536 in
theorem codes_eq : words1.filter isCode = codes1 := rfl
theorem w_codes : ∀ c ∈ words1.filter isCode, c.before args0 about1 = true := by
  rw [codes_eq]
  intro c hc
  simp only [codes1, List.mem_cons, List.not_mem_nil, or_false] at hc
  rcases hc with rfl | rfl
  · exact w_c0
  · exact w_c1
set_option maxRecDepth 65536 in
theorem w_t1 : words1.all (fun c => isCode c || c.before args0 about1) = true := by decide +kernel
theorem w_tables : (allAtoms (Jvm.Cond.code x code maxLocals ret :: tables_1)).before args0 about1 = true := by
  rw [allAtoms_all]
  show words1.all (fun c => c.before args0 about1) = true
  refine all_split ?_ w_codes
  rw [w_t1]
set_option maxRecDepth 65536 in
theorem w_case : (Jvm.Cond.and given_1 narrow_1).before args0 about1 = true := by decide +kernel
theorem w_applies : (headSpec (Jvm.Cond.code x code maxLocals ret :: tables_1) room_1).applies x e0.platform about1 = true :=
  (Spec.applies_iff w_frames).mpr ⟨w_running, w_runnable, w_alone, w_named, w_hears, w_ripe, w_room, w_tables⟩
theorem atStart : AtStart classFile x code maxLocals ret World_1 tables_1 room_1 Calls_1 rest_1 Pre_1 launch0 p0 e0 about1 theMethod args0 below0 :=
  ⟨lists_1, trivial, launch0.admits_env _ _ _, launch0.least_env, fairChoices_fair.cas, fairChoices_fair.clock, w_frames, w_args, w_heap, w_applies, trivial, trivial, w_case⟩
end start1
theorem witness_1 : WitnessClaimed_1 := ⟨start1.p0, start1.e0, start1.about1, start1.theMethod, start1.args0, start1.below0, start1.atStart⟩
end Jvm.Pilot.@@N@@
