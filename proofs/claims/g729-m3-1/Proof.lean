import JvmDerived
import JvmDerived.Pilot.@@N@@Statement
import JvmDerived.Pilot.@@N@@Code
set_option linter.unusedVariables false
set_option linter.unusedSimpArgs false
namespace Jvm.Pilot.@@N@@
open Jvm Jvm.ClassFile Sem Op Lib Jvm.Free Jvm.Stand Jvm.LawKit Jvm.RoadKit Bundle Jvm.Pilot.@@N@@.Jvm.D
/-- the body's goal from a state on -/
def Go (p : Program) (e : Env) (below : List Frame) (P : Outcome → State → Prop) (U : State) : Prop :=
  ∃ s₂ o, Steps p.tables e below U s₂ ∧ s₂.status = .running ∧ Ended s₂ below o ∧ P o s₂
/-- the unsigned shifts, the remainders -/
def uI (x y : Int32) : Int32 := (x.toUInt32 >>> (y &&& 31).toUInt32).toInt32
def uL (x : Int64) (y : Int32) : Int64 := (x.toUInt64 >>> (y &&& 0x3f).toInt64.toUInt64).toInt64
def sL (x : Int64) (y : Int32) : Int64 := x >>> (y &&& 0x3f).toInt64
def lL (x : Int64) (y : Int32) : Int64 := x <<< (y &&& 0x3f).toInt64
section Own
variable {p : Program} {l : Launch} {e : Env} {R : Room} {s : State} {m : MethodId} {args : Array Value} {below : List Frame} {meth : Method} {c : Code} {T : State} {locs : List Loc} {cells slots : Nat} {P : Outcome → State → Prop} {pc pc' : Nat} {L L' : Array Slot} {S : List Value} {Z : State} {a0 : Array Value} {h : Heap}
theorem Go.via {U U' : State} (q : ∀ t, Steps p.tables e below U' t → Steps p.tables e below U t) (k : Go p e below P U') : Go p e below P U := by
  obtain ⟨s₂, o, h1, h2⟩ := k
  exact ⟨s₂, o, q _ h1, h2⟩
theorem Go.tr {U U' : State} (q : Steps p.tables e below U U') (k : Go p e below P U') : Go p e below P U := k.via fun _ h => q.trans h
theorem o_iload (X : Stand p l e R s m args below meth c T locs cells slots) (hx : p.tables.exec = Jvm.exec) {k : Nat} {v : Int32} (hd : decode c.code pc = .ok (.iload k, 2)) (hp : pc + 2 = pc') (hl : L[k]? = some (.val (.int v))) (K : Go p e below P (T.setTop (mkF m pc' L (.int v :: S)))) : Go p e below P (T.setTop (mkF m pc L (S))) := by
  subst hp; exact K.via fun t k => XS.iload X.here hx rfl hd hl k
theorem o_iloadN (X : Stand p l e R s m args below meth c T locs cells slots) (hx : p.tables.exec = Jvm.exec) {k : Fin 4} {v : Int32} (hd : decode c.code pc = .ok (.iload_n k, 1)) (hp : pc + 1 = pc') (hl : L[k.val]? = some (.val (.int v))) (K : Go p e below P (T.setTop (mkF m pc' L (.int v :: S)))) : Go p e below P (T.setTop (mkF m pc L (S))) := by
  subst hp; exact K.via fun t k => XS.iloadN X.here hx rfl hd hl k
theorem o_lload (X : Stand p l e R s m args below meth c T locs cells slots) (hx : p.tables.exec = Jvm.exec) {k : Nat} {v : Int64} (hd : decode c.code pc = .ok (.lload k, 2)) (hp : pc + 2 = pc') (hl : L[k]? = some (.val (.long v))) (K : Go p e below P (T.setTop (mkF m pc' L (.long v :: S)))) : Go p e below P (T.setTop (mkF m pc L (S))) := by
  subst hp; exact K.via fun t k => XS.lload X.here hx rfl hd hl k
theorem o_lloadN (X : Stand p l e R s m args below meth c T locs cells slots) (hx : p.tables.exec = Jvm.exec) {k : Fin 4} {v : Int64} (hd : decode c.code pc = .ok (.lload_n k, 1)) (hp : pc + 1 = pc') (hl : L[k.val]? = some (.val (.long v))) (K : Go p e below P (T.setTop (mkF m pc' L (.long v :: S)))) : Go p e below P (T.setTop (mkF m pc L (S))) := by
  subst hp; exact K.via fun t k => XS.lloadN X.here hx rfl hd hl k
theorem o_istore (X : Stand p l e R s m args below meth c T locs cells slots) (hx : p.tables.exec = Jvm.exec) {k : Nat} {x : Int32} (hd : decode c.code pc = .ok (.istore k, 2)) (hp : pc + 2 = pc') (hl : storeLocals L k (.int x) = some L') (K : Go p e below P (T.setTop (mkF m pc' L' (S)))) : Go p e below P (T.setTop (mkF m pc L (.int x :: S))) := by
  subst hp; exact K.via fun t k => XS.istore X.here hx rfl hd rfl hl k
theorem o_lstore (X : Stand p l e R s m args below meth c T locs cells slots) (hx : p.tables.exec = Jvm.exec) {k : Nat} {x : Int64} (hd : decode c.code pc = .ok (.lstore k, 2)) (hp : pc + 2 = pc') (hl : storeLocals L k (.long x) = some L') (K : Go p e below P (T.setTop (mkF m pc' L' (S)))) : Go p e below P (T.setTop (mkF m pc L (.long x :: S))) := by
  subst hp; exact K.via fun t k => XS.lstore X.here hx rfl hd rfl hl k
theorem o_lstoreN (X : Stand p l e R s m args below meth c T locs cells slots) (hx : p.tables.exec = Jvm.exec) {k : Fin 4} {x : Int64} (hd : decode c.code pc = .ok (.lstore_n k, 1)) (hp : pc + 1 = pc') (hl : storeLocals L k.val (.long x) = some L') (K : Go p e below P (T.setTop (mkF m pc' L' (S)))) : Go p e below P (T.setTop (mkF m pc L (.long x :: S))) := by
  subst hp; exact K.via fun t k => XS.lstoreN X.here hx rfl hd rfl hl k
theorem o_iconst (X : Stand p l e R s m args below meth c T locs cells slots) (hx : p.tables.exec = Jvm.exec) {i : Int} (v : Int32) (hd : decode c.code pc = .ok (.iconst i, 1)) (hp : pc + 1 = pc') (hv : Int32.ofInt i = v) (K : Go p e below P (T.setTop (mkF m pc' L (.int v :: S)))) : Go p e below P (T.setTop (mkF m pc L (S))) := by
  subst hp; exact K.via fun t k => XS.iconst X.here hx rfl hd (hv ▸ k)
theorem o_bipush (X : Stand p l e R s m args below meth c T locs cells slots) (hx : p.tables.exec = Jvm.exec) {i : Int} (v : Int32) (hd : decode c.code pc = .ok (.bipush i, 2)) (hp : pc + 2 = pc') (hv : (Int8.ofInt i).toInt32 = v) (K : Go p e below P (T.setTop (mkF m pc' L (.int v :: S)))) : Go p e below P (T.setTop (mkF m pc L (S))) := by
  subst hp; exact K.via fun t k => XS.bipush X.here hx rfl hd (hv ▸ k)
theorem o_lconst (X : Stand p l e R s m args below meth c T locs cells slots) (hx : p.tables.exec = Jvm.exec) {i : Fin 2} (v : Int64) (hd : decode c.code pc = .ok (.lconst i, 1)) (hp : pc + 1 = pc') (hv : Int64.ofNat i = v) (K : Go p e below P (T.setTop (mkF m pc' L (.long v :: S)))) : Go p e below P (T.setTop (mkF m pc L (S))) := by
  subst hp; exact K.via fun t k => XS.lconst X.here hx rfl hd (hv ▸ k)
theorem o_isub (X : Stand p l e R s m args below meth c T locs cells slots) (hx : p.tables.exec = Jvm.exec) {x y : Int32} (hd : decode c.code pc = .ok (.isub, 1)) (hp : pc + 1 = pc')  (K : Go p e below P (T.setTop (mkF m pc' L (.int (x - y) :: S)))) : Go p e below P (T.setTop (mkF m pc L (.int y :: .int x :: S))) := by
  subst hp; exact K.via fun t k => XS.isub X.here hx rfl hd rfl k
theorem o_iand (X : Stand p l e R s m args below meth c T locs cells slots) (hx : p.tables.exec = Jvm.exec) {x y : Int32} (hd : decode c.code pc = .ok (.iand, 1)) (hp : pc + 1 = pc')  (K : Go p e below P (T.setTop (mkF m pc' L (.int (x &&& y) :: S)))) : Go p e below P (T.setTop (mkF m pc L (.int y :: .int x :: S))) := by
  subst hp; exact K.via fun t k => XS.iand X.here hx rfl hd rfl k
theorem o_land (X : Stand p l e R s m args below meth c T locs cells slots) (hx : p.tables.exec = Jvm.exec) {x y : Int64} (hd : decode c.code pc = .ok (.land, 1)) (hp : pc + 1 = pc')  (K : Go p e below P (T.setTop (mkF m pc' L (.long (x &&& y) :: S)))) : Go p e below P (T.setTop (mkF m pc L (.long y :: .long x :: S))) := by
  subst hp; exact K.via fun t k => XS.land X.here hx rfl hd rfl k
theorem o_lor (X : Stand p l e R s m args below meth c T locs cells slots) (hx : p.tables.exec = Jvm.exec) {x y : Int64} (hd : decode c.code pc = .ok (.lor, 1)) (hp : pc + 1 = pc')  (K : Go p e below P (T.setTop (mkF m pc' L (.long (x ||| y) :: S)))) : Go p e below P (T.setTop (mkF m pc L (.long y :: .long x :: S))) := by
  subst hp; exact K.via fun t k => XS.lor X.here hx rfl hd rfl k
theorem o_lshl (X : Stand p l e R s m args below meth c T locs cells slots) (hx : p.tables.exec = Jvm.exec) {x : Int64} {y : Int32} (hd : decode c.code pc = .ok (.lshl, 1)) (hp : pc + 1 = pc')  (K : Go p e below P (T.setTop (mkF m pc' L (.long (lL x y) :: S)))) : Go p e below P (T.setTop (mkF m pc L (.int y :: .long x :: S))) := by
  subst hp; exact K.via fun t k => XS.lshl X.here hx rfl hd rfl k
theorem o_lushr (X : Stand p l e R s m args below meth c T locs cells slots) (hx : p.tables.exec = Jvm.exec) {x : Int64} {y : Int32} (hd : decode c.code pc = .ok (.lushr, 1)) (hp : pc + 1 = pc')  (K : Go p e below P (T.setTop (mkF m pc' L (.long (uL x y) :: S)))) : Go p e below P (T.setTop (mkF m pc L (.int y :: .long x :: S))) := by
  subst hp; exact K.via fun t k => XS.lushr X.here hx rfl hd rfl k
theorem o_irem (X : Stand p l e R s m args below meth c T locs cells slots) (hx : p.tables.exec = Jvm.exec) {x y : Int32} (hd : decode c.code pc = .ok (.irem, 1)) (hp : pc + 1 = pc') (hy : y ≠ 0) (K : Go p e below P (T.setTop (mkF m pc' L (.int (x % y) :: S)))) : Go p e below P (T.setTop (mkF m pc L (.int y :: .int x :: S))) := by
  subst hp; exact K.via fun t k => Jvm.RoadKit.iremM (g := mkF m pc L (.int y :: .int x :: S)) X hx rfl hd rfl hy k
theorem o_goto (X : Stand p l e R s m args below meth c T locs cells slots) (hx : p.tables.exec = Jvm.exec) {o : Int} (hd : decode c.code pc = .ok (.goto o, 3)) (ho : 0 ≤ (pc : Int) + o) (hp : ((pc : Int) + o).toNat = pc') (K : Go p e below P (T.setTop (mkF m pc' L S))) : Go p e below P (T.setTop (mkF m pc L S)) :=
  K.via fun t k => XS.goto X.here hx rfl rfl hd ho hp k
theorem o_ifY (X : Stand p l e R s m args below meth c T locs cells slots) (hx : p.tables.exec = Jvm.exec) {cd : ClassFile.Cond} {x : Int32} {o : Int} (hd : decode c.code pc = .ok (.ifCond cd o, 3)) (hc : if_icmp.holds cd x 0 = true) (ho : 0 ≤ (pc : Int) + o) (hp : ((pc : Int) + o).toNat = pc') (K : Go p e below P (T.setTop (mkF m pc' L S))) : Go p e below P (T.setTop (mkF m pc L (.int x :: S))) :=
  K.via fun t k => XS.ifYes X.here hx rfl rfl hd rfl ((if0 _ _).trans hc) ho hp k
theorem o_ifN (X : Stand p l e R s m args below meth c T locs cells slots) (hx : p.tables.exec = Jvm.exec) {cd : ClassFile.Cond} {x : Int32} {o : Int} (hd : decode c.code pc = .ok (.ifCond cd o, 3)) (hc : if_icmp.holds cd x 0 = false) (hp : pc + 3 = pc') (K : Go p e below P (T.setTop (mkF m pc' L S))) : Go p e below P (T.setTop (mkF m pc L (.int x :: S))) := by
  subst hp; exact K.via fun t k => XS.ifNo X.here hx rfl hd rfl ((if0 _ _).trans hc) k
theorem o_lcmp (X : Stand p l e R s m args below meth c T locs cells slots) (hx : p.tables.exec = Jvm.exec) {x y : Int64} (hd : decode c.code pc = .ok (.lcmp, 1)) (hp : pc + 1 = pc') (K : Go p e below P (T.setTop (mkF m pc' L (.int (lcmpW x y) :: S)))) : Go p e below P (T.setTop (mkF m pc L (.long y :: .long x :: S))) := by
  subst hp; exact K.via fun t k => XS.lcmp X.here hx rfl hd rfl k
theorem tltL {x y : Int64} (q : x < y) : if_icmp.holds .lt (lcmpW x y) 0 = true ∧ if_icmp.holds .ge (lcmpW x y) 0 = false ∧ if_icmp.holds .gt (lcmpW y x) 0 = true ∧ if_icmp.holds .le (lcmpW y x) 0 = false :=
  ⟨(tlt ((lw_lt x y).mpr q)).1, (tlt ((lw_lt x y).mpr q)).2.1, (tlt ((lw_gt y x).mpr q)).2.2.1, (tlt ((lw_gt y x).mpr q)).2.2.2⟩
theorem fltL {x y : Int64} (q : ¬ x < y) : if_icmp.holds .lt (lcmpW x y) 0 = false ∧ if_icmp.holds .ge (lcmpW x y) 0 = true ∧ if_icmp.holds .gt (lcmpW y x) 0 = false ∧ if_icmp.holds .le (lcmpW y x) 0 = true :=
  ⟨(flt (mt (lw_lt x y).mp q)).1, (flt (mt (lw_lt x y).mp q)).2.1, (flt (mt (lw_gt y x).mp q)).2.2.1, (flt (mt (lw_gt y x).mp q)).2.2.2⟩
theorem teqL {x y : Int64} (q : x = y) : if_icmp.holds .eq (lcmpW x y) 0 = true ∧ if_icmp.holds .ne (lcmpW x y) 0 = false := teq ((lw_eq x y).mpr q)
theorem feqL {x y : Int64} (q : ¬ x = y) : if_icmp.holds .eq (lcmpW x y) 0 = false ∧ if_icmp.holds .ne (lcmpW x y) 0 = true := feq (mt (lw_eq x y).mp q)
theorem o_ldcI (X : Stand p l e R s m args below meth c T locs cells slots) (hx : p.tables.exec = Jvm.exec) (hZ : Z.Warmed39 s.vm) {own : String} {index : Nat} (v : Int32) (hown : s.vm.findClass own = some m.cls) (w : (Cond.constant own index v).before a0 Z = true) (hd : decode c.code pc = .ok (.ldc index, 2)) (hp : pc + 2 = pc') (K : Go p e below P (T.setTop (mkF m pc' L (.int v :: S)))) : Go p e below P (T.setTop (mkF m pc L S)) := by
  subst hp; exact K.via (X.ldcInt hx hown (mvT hZ w) (g := mkF m pc L S) rfl hd)
theorem o_ldcJ (X : Stand p l e R s m args below meth c T locs cells slots) (hx : p.tables.exec = Jvm.exec) (hZ : Z.Warmed39 s.vm) {own : String} {index : Nat} (v : Int64) (hown : s.vm.findClass own = some m.cls) (w : (Cond.constantLong own index v).before a0 Z = true) (hd : decode c.code pc = .ok (.ldc2_w index, 3)) (hp : pc + 3 = pc') (K : Go p e below P (T.setTop (mkF m pc' L (.long v :: S)))) : Go p e below P (T.setTop (mkF m pc L S)) := by
  subst hp; exact K.via (X.ldc2Long hx hown (mvT hZ w) (g := mkF m pc L S) rfl hd)
/-- what a body's end owes -/
abbrev Owe (s : State) (Q : Option Value → Heap → List Loc → Prop) (C D : Nat) : Outcome → State → Prop := fun o U' => ∃ v L, o = .returned v ∧ Q v U'.heap L ∧ FrameEnd s o U' L C D
/-- a body's contract -/
abbrev Con (l : Launch) (y : MethodName) (bytes : ByteArray) (ml : Nat) (ret : Option FieldType) (ws : List Jvm.Cond) (rm : Room) (as' : Array Value) (Z : State) (h0 : Heap) (Q : Option Value → Heap → List Loc → Prop) (C D : Nat) : Prop :=
  MetFree l y (head1 (Jvm.Cond.code y bytes ml ret :: ws) rm) (fun b U => b = as' ∧ Z.Warmed39 U.vm ∧ U.heap = h0) (fun _ _ _ _ _ => True) (fun _ U o U' => ∃ v L, o = .returned v ∧ Q v U'.heap L ∧ FrameEnd U o U' L C D)
theorem own_body {y : MethodName} {bytes : ByteArray} {ml : Nat} {ret : Option FieldType} {ws : List Jvm.Cond} {rm : Room} {as' : Array Value} {h0 : Heap} {Q : Option Value → Heap → List Loc → Prop} {C D : Nat} (hpl : plainFor y = true)
    (K : ∀ (p : Program) (e : Env) (s : State) (m : MethodId) (below : List Frame) (meth : Method) (c : Code) (s₁ : State), p.tables.exec = Jvm.exec → c.code = bytes → meth.locks = false → c.maxLocals = ml → s.vm.findClass y.cls = some m.cls → meth.name = y.name → meth.sig.returnType = ret → Z.Warmed39 s.vm →
      Stand p l e rm s m as' below meth c s₁ [] 0 0 → s₁.heap = h0 → Go p e below (Owe s Q C D) (s₁.setTop (entryFrame m as' ml))) : Con l y bytes ml ret ws rm as' Z h0 Q C D := by
  refine MetFree.of_bodySF hpl hisR ?_
  intro p e s m args below meth c s₁ Bd hml0 hP hK
  obtain ⟨rfl, hZ, hh⟩ := hP
  exact K p e s m below meth c s₁ Bd.exec Bd.bytes (BodyLoose.notSynchronized Bd) hml0 (findClass_of_methodNamed Bd.named) (name_of_methodNamed Bd.named Bd.method).1 Bd.returns hZ (Stand.of_body Bd) (by rw [← hh, Bd.state]; rfl)
theorem o_ret (X : Stand p l e R s m args below meth c T locs cells slots) (hx : p.tables.exec = Jvm.exec) {Q : Option Value → Heap → List Loc → Prop} {C D : Nat} {w : Value} {t : FieldType} {i : Instr} (hlocks : meth.locks = false) (hret : meth.sig.returnType = some t) (hn : narrow t w = w)
    (hi : (i = .ireturn ∧ (t = .int ∨ t = .boolean ∨ t = .byte ∨ t = .char ∨ t = .short) ∧ ∃ z, w = .int z) ∨ (i = .lreturn ∧ t = .long ∧ ∃ z, w = .long z) ∨ (i = .dreturn ∧ t = .double ∧ ∃ z, w = .double z) ∨ (i = .freturn ∧ t = .float ∧ ∃ z, w = .float z) ∨ (i = .areturn ∧ t.isReference = true ∧ w.isRef = true))
    (hd : decode c.code pc = .ok (i, 1)) (hc : cells ≤ C) (hs : slots ≤ D) (hq : Q (some w) T.heap locs) : Go p e below (Owe s Q C D) (T.setTop (mkF m pc L (w :: S))) := by
  obtain ⟨fs, hr, hrun, hended, hW, hsame⟩ := X.leave (v := some w) (fun h => by rw [hret] at h; cases h) hlocks
  exact ⟨_, _, retOut X hx hret hn hi hd hr, hrun, hended, _, _, rfl, hq, ⟨_, rfl⟩, hW, hsame.mono hc hs⟩
theorem o_retJ (X : Stand p l e R s m args below meth c T locs cells slots) (hx : p.tables.exec = Jvm.exec) {Q : Option Value → Heap → List Loc → Prop} {C D : Nat} {z : Int64} (hlocks : meth.locks = false) (hret : meth.sig.returnType = some .long) (hd : decode c.code pc = .ok (.lreturn, 1)) (hc : cells ≤ C) (hs : slots ≤ D) (hq : Q (some (.long z)) T.heap locs) : Go p e below (Owe s Q C D) (T.setTop (mkF m pc L (.long z :: S))) :=
  o_ret X hx hlocks hret rfl (Or.inr (Or.inl ⟨rfl, rfl, z, rfl⟩)) hd hc hs hq
theorem o_retZ (X : Stand p l e R s m args below meth c T locs cells slots) (hx : p.tables.exec = Jvm.exec) {Q : Option Value → Heap → List Loc → Prop} {C D : Nat} {z : Int32} (hz : narrow .boolean (.int z) = .int z) (hlocks : meth.locks = false) (hret : meth.sig.returnType = some .boolean) (hd : decode c.code pc = .ok (.ireturn, 1)) (hc : cells ≤ C) (hs : slots ≤ D) (hq : Q (some (.int z)) T.heap locs) : Go p e below (Owe s Q C D) (T.setTop (mkF m pc L (.int z :: S))) :=
  o_ret X hx hlocks hret hz (Or.inl ⟨rfl, Or.inr (Or.inl rfl), z, rfl⟩) hd hc hs hq
theorem o_callS (X : Stand p l e R s m args below meth c T locs cells slots) (hx : p.tables.exec = Jvm.exec) (hZ : Z.Warmed39 s.vm) {own : String} {index : Nat} {y : MethodName} {bytes : ByteArray} {maxL : Nat} {ret : Option FieldType} {rm : Room} (W : Nat) {argsL rest : List Value} {Q : Option Value → Heap → List Loc → Prop} {cells' slots' : Nat}
    (hown : s.vm.findClass own = some m.cls) (w1 : (Cond.methodLink own index y).before a0 Z = true) (w2 : (Cond.static y).before a0 Z = true) (w3 : (Cond.initialized y.cls).before a0 Z = true) (w4 : (Cond.code y bytes maxL ret).before a0 Z = true) (hy : y.cls ≠ "java/lang/invoke/MethodHandle" ∧ y.cls ≠ "java/lang/invoke/VarHandle")
    (hM : MetFree l y (head1 [Cond.code y bytes maxL ret] rm) (fun a U => a = argsL.toArray ∧ Z.Warmed39 U.vm ∧ U.heap = h) (fun _ _ _ _ _ => True) (fun _ U o U' => ∃ v L, o = .returned v ∧ Q v U'.heap L ∧ FrameEnd U o U' L rm.cells rm.slots))
    (hf : rm.frames + 1 ≤ R.frames) (hl : W + (maxL + 11) + rm.locals ≤ R.locals) (hcc : cells + rm.cells = cells') (hss : slots + rm.slots = slots') (hc : cells' ≤ R.cells) (hs : slots' ≤ R.slots) (eT : T.heap = h) (hsize : L.size = c.maxLocals) (hlen : ∀ sig, parseMethodDescriptor y.desc = some sig → argsL.length = sig.parameters.length) (hstk : S = argsL.reverse ++ rest)
    (hW : (rest.map fun v => v.category).sum = W) (hd : decode c.code pc = .ok (.invokestatic index, 3)) (hp : pc + 3 = pc') (K : ∀ T' v Lc, Stand p l e R s m args below meth c T' (locs ++ Lc) cells' slots' → Q v T'.heap Lc → Go p e below P (T'.setTop (mkF m pc' L (v.toList ++ rest)))) : Go p e below P (T.setTop (mkF m pc L S)) := by
  subst hp hcc hss
  obtain ⟨v, _, ⟨T', L', k', n'⟩, -, X', ⟨Lc, hQ, l', y', z'⟩, st⟩ := Jvm.LawKit.callS X hx hown (mvT hZ w1) (mvT hZ w2) (mvT hZ w3) (mvT hZ w4) hy (backOf (W := W) hM hZ w4 w3 hf hl) (g := mkF m pc L S) rfl hsize (argsL := argsL) (rest := rest) hlen hstk (by show 2 * 0 + _ ≤ _; rw [hW]; exact Nat.le_of_eq (by simp)) hd (fun _ _ => ⟨rfl, eT, hc, hs⟩)
  dsimp only [Pt.U, Pt.locs, Pt.cells, Pt.slots] at X' l' y' z' st hQ
  subst l' y' z'
  exact (K T' v Lc X' hQ).via st
end Own
theorem pd_0 : parseMethodDescriptor "(J)J" = some ⟨[.long], some .long⟩ := by decide +kernel
theorem d3_0 : decode jdk_35_method_58_code 0 = .ok (.lload_n 0, 1) := by decide +kernel
theorem d3_1 : decode jdk_35_method_58_code 1 = .ok (.ldc2_w 327, 3) := by decide +kernel
theorem d3_4 : decode jdk_35_method_58_code 4 = .ok (.land, 1) := by decide +kernel
theorem d3_5 : decode jdk_35_method_58_code 5 = .ok (.bipush 8, 2) := by decide +kernel
theorem d3_7 : decode jdk_35_method_58_code 7 = .ok (.lshl, 1) := by decide +kernel
theorem d3_8 : decode jdk_35_method_58_code 8 = .ok (.lload_n 0, 1) := by decide +kernel
theorem d3_9 : decode jdk_35_method_58_code 9 = .ok (.bipush 8, 2) := by decide +kernel
theorem d3_11 : decode jdk_35_method_58_code 11 = .ok (.lushr, 1) := by decide +kernel
theorem d3_12 : decode jdk_35_method_58_code 12 = .ok (.ldc2_w 327, 3) := by decide +kernel
theorem d3_15 : decode jdk_35_method_58_code 15 = .ok (.land, 1) := by decide +kernel
theorem d3_16 : decode jdk_35_method_58_code 16 = .ok (.lor, 1) := by decide +kernel
theorem d3_17 : decode jdk_35_method_58_code 17 = .ok (.lstore_n 0, 1) := by decide +kernel
theorem d3_18 : decode jdk_35_method_58_code 18 = .ok (.lload_n 0, 1) := by decide +kernel
theorem d3_19 : decode jdk_35_method_58_code 19 = .ok (.bipush 48, 2) := by decide +kernel
theorem d3_21 : decode jdk_35_method_58_code 21 = .ok (.lshl, 1) := by decide +kernel
theorem d3_22 : decode jdk_35_method_58_code 22 = .ok (.lload_n 0, 1) := by decide +kernel
theorem d3_23 : decode jdk_35_method_58_code 23 = .ok (.ldc2_w 329, 3) := by decide +kernel
theorem d3_26 : decode jdk_35_method_58_code 26 = .ok (.land, 1) := by decide +kernel
theorem d3_27 : decode jdk_35_method_58_code 27 = .ok (.bipush 16, 2) := by decide +kernel
theorem d3_29 : decode jdk_35_method_58_code 29 = .ok (.lshl, 1) := by decide +kernel
theorem d3_30 : decode jdk_35_method_58_code 30 = .ok (.lor, 1) := by decide +kernel
theorem d3_31 : decode jdk_35_method_58_code 31 = .ok (.lload_n 0, 1) := by decide +kernel
theorem d3_32 : decode jdk_35_method_58_code 32 = .ok (.bipush 16, 2) := by decide +kernel
theorem d3_34 : decode jdk_35_method_58_code 34 = .ok (.lushr, 1) := by decide +kernel
theorem d3_35 : decode jdk_35_method_58_code 35 = .ok (.ldc2_w 329, 3) := by decide +kernel
theorem d3_38 : decode jdk_35_method_58_code 38 = .ok (.land, 1) := by decide +kernel
theorem d3_39 : decode jdk_35_method_58_code 39 = .ok (.lor, 1) := by decide +kernel
theorem d3_40 : decode jdk_35_method_58_code 40 = .ok (.lload_n 0, 1) := by decide +kernel
theorem d3_41 : decode jdk_35_method_58_code 41 = .ok (.bipush 48, 2) := by decide +kernel
theorem d3_43 : decode jdk_35_method_58_code 43 = .ok (.lushr, 1) := by decide +kernel
theorem d3_44 : decode jdk_35_method_58_code 44 = .ok (.lor, 1) := by decide +kernel
theorem d3_45 : decode jdk_35_method_58_code 45 = .ok (.lreturn, 1) := by decide +kernel
theorem ef_3 (m : MethodId) (x0 : Int64) : entryFrame m #[(.long x0)] 2 = mkF m 0 #[.val (.long x0), .second] [] := by first | (simp [entryFrame, mkF, argsToLocals, Value.category]; done) | rfl
def own_f3_x0 (x1 : Int64) : Int64 := ((lL (x1 &&& (71777214294589695 : Int64)) (8 : Int32)) ||| ((uL x1 (8 : Int32)) &&& (71777214294589695 : Int64)))
def own_f3_ret (x1 : Int64) : Int64 := ((((lL (own_f3_x0 x1) (48 : Int32)) ||| (lL ((own_f3_x0 x1) &&& (4294901760 : Int64)) (16 : Int32))) ||| ((uL (own_f3_x0 x1) (16 : Int32)) &&& (4294901760 : Int64))) ||| (uL (own_f3_x0 x1) (48 : Int32)))
def Q3 (Z : State) (x1 : Int64) (h0 : Heap) (n0 : Nat) (v : Option Value) (h : Heap) (L : List Loc) : Prop := v = some (.long (own_f3_ret x1)) ∧ Fr n0 L ∧ h = h0
set_option maxRecDepth 65536 in
set_option maxHeartbeats 40000000 in
theorem rm3 (l : Launch) (Z : State) (a0 : Array Value) (hw : ∀ d ∈ tables_1, d.before a0 Z = true) (ws : List Jvm.Cond) (x1 : Int64) (h0 : Heap) (n0 : Nat) (Z0 : n0 ≤ h0.size)  :
    Con l (⟨"java/lang/Long", "reverseBytes", "(J)J"⟩ : MethodName) jdk_35_method_58_code 2 (some .long) ws ({ frames := 0, cells := 0, slots := 0, locals := 0 } : Room) #[(.long x1)] Z h0 (Q3 Z x1 h0 n0) ({ frames := 0, cells := 0, slots := 0, locals := 0 } : Room).cells ({ frames := 0, cells := 0, slots := 0, locals := 0 } : Room).slots := by
  refine own_body (by decide +kernel) ?_
  intro p e s m below meth c s₁ hx hby hlk hml hown hnm hrt hZ X0 e0
  have w : ∀ (k : Nat) (d : Jvm.Cond), tables_1[k]? = some d → d.before a0 Z = true := fun k d h => hw d (List.mem_of_getElem? h)
  have N0 := Fr.nil n0
  rw [ef_3]
  generalize hOWE : Owe s _ _ _ = OWE
  refine o_lloadN X0 hx (hb hby d3_0) (pc' := 1) rfl rfl ?_
  refine o_ldcJ X0 hx hZ (71777214294589695 : Int64) hown (w 15 _ rfl) (hb hby d3_1) (pc' := 4) rfl ?_
  refine o_land X0 hx (hb hby d3_4) (pc' := 5) rfl ?_
  refine o_bipush X0 hx (8 : Int32) (hb hby d3_5) (pc' := 7) rfl (by decide) ?_
  refine o_lshl X0 hx (hb hby d3_7) (pc' := 8) rfl ?_
  refine o_lloadN X0 hx (hb hby d3_8) (pc' := 9) rfl rfl ?_
  refine o_bipush X0 hx (8 : Int32) (hb hby d3_9) (pc' := 11) rfl (by decide) ?_
  refine o_lushr X0 hx (hb hby d3_11) (pc' := 12) rfl ?_
  refine o_ldcJ X0 hx hZ (71777214294589695 : Int64) hown (w 15 _ rfl) (hb hby d3_12) (pc' := 15) rfl ?_
  refine o_land X0 hx (hb hby d3_15) (pc' := 16) rfl ?_
  refine o_lor X0 hx (hb hby d3_16) (pc' := 17) rfl ?_
  refine o_lstoreN (x := (own_f3_x0 x1)) X0 hx (hb hby d3_17) (pc' := 18) rfl (L' := #[.val (.long (own_f3_x0 x1)), .second]) rfl ?_
  refine o_lloadN X0 hx (hb hby d3_18) (pc' := 19) rfl rfl ?_
  refine o_bipush X0 hx (48 : Int32) (hb hby d3_19) (pc' := 21) rfl (by decide) ?_
  refine o_lshl X0 hx (hb hby d3_21) (pc' := 22) rfl ?_
  refine o_lloadN X0 hx (hb hby d3_22) (pc' := 23) rfl rfl ?_
  refine o_ldcJ X0 hx hZ (4294901760 : Int64) hown (w 16 _ rfl) (hb hby d3_23) (pc' := 26) rfl ?_
  refine o_land X0 hx (hb hby d3_26) (pc' := 27) rfl ?_
  refine o_bipush X0 hx (16 : Int32) (hb hby d3_27) (pc' := 29) rfl (by decide) ?_
  refine o_lshl X0 hx (hb hby d3_29) (pc' := 30) rfl ?_
  refine o_lor X0 hx (hb hby d3_30) (pc' := 31) rfl ?_
  refine o_lloadN X0 hx (hb hby d3_31) (pc' := 32) rfl rfl ?_
  refine o_bipush X0 hx (16 : Int32) (hb hby d3_32) (pc' := 34) rfl (by decide) ?_
  refine o_lushr X0 hx (hb hby d3_34) (pc' := 35) rfl ?_
  refine o_ldcJ X0 hx hZ (4294901760 : Int64) hown (w 16 _ rfl) (hb hby d3_35) (pc' := 38) rfl ?_
  refine o_land X0 hx (hb hby d3_38) (pc' := 39) rfl ?_
  refine o_lor X0 hx (hb hby d3_39) (pc' := 40) rfl ?_
  refine o_lloadN X0 hx (hb hby d3_40) (pc' := 41) rfl rfl ?_
  refine o_bipush X0 hx (48 : Int32) (hb hby d3_41) (pc' := 43) rfl (by decide) ?_
  refine o_lushr X0 hx (hb hby d3_43) (pc' := 44) rfl ?_
  refine o_lor X0 hx (hb hby d3_44) (pc' := 45) rfl ?_
  rw [← hOWE]
  exact o_retJ X0 hx hlk hrt (hb hby d3_45) (by decide) (by decide) (by rw [e0]; exact ⟨(by rw [own_f3_ret]), N0, rfl⟩)
theorem d2_0 : decode jdk_35_method_53_code 0 = .ok (.lload_n 0, 1) := by decide +kernel
theorem d2_1 : decode jdk_35_method_53_code 1 = .ok (.ldc2_w 314, 3) := by decide +kernel
theorem d2_4 : decode jdk_35_method_53_code 4 = .ok (.land, 1) := by decide +kernel
theorem d2_5 : decode jdk_35_method_53_code 5 = .ok (.iconst 1, 1) := by decide +kernel
theorem d2_6 : decode jdk_35_method_53_code 6 = .ok (.lshl, 1) := by decide +kernel
theorem d2_7 : decode jdk_35_method_53_code 7 = .ok (.lload_n 0, 1) := by decide +kernel
theorem d2_8 : decode jdk_35_method_53_code 8 = .ok (.iconst 1, 1) := by decide +kernel
theorem d2_9 : decode jdk_35_method_53_code 9 = .ok (.lushr, 1) := by decide +kernel
theorem d2_10 : decode jdk_35_method_53_code 10 = .ok (.ldc2_w 314, 3) := by decide +kernel
theorem d2_13 : decode jdk_35_method_53_code 13 = .ok (.land, 1) := by decide +kernel
theorem d2_14 : decode jdk_35_method_53_code 14 = .ok (.lor, 1) := by decide +kernel
theorem d2_15 : decode jdk_35_method_53_code 15 = .ok (.lstore_n 0, 1) := by decide +kernel
theorem d2_16 : decode jdk_35_method_53_code 16 = .ok (.lload_n 0, 1) := by decide +kernel
theorem d2_17 : decode jdk_35_method_53_code 17 = .ok (.ldc2_w 316, 3) := by decide +kernel
theorem d2_20 : decode jdk_35_method_53_code 20 = .ok (.land, 1) := by decide +kernel
theorem d2_21 : decode jdk_35_method_53_code 21 = .ok (.iconst 2, 1) := by decide +kernel
theorem d2_22 : decode jdk_35_method_53_code 22 = .ok (.lshl, 1) := by decide +kernel
theorem d2_23 : decode jdk_35_method_53_code 23 = .ok (.lload_n 0, 1) := by decide +kernel
theorem d2_24 : decode jdk_35_method_53_code 24 = .ok (.iconst 2, 1) := by decide +kernel
theorem d2_25 : decode jdk_35_method_53_code 25 = .ok (.lushr, 1) := by decide +kernel
theorem d2_26 : decode jdk_35_method_53_code 26 = .ok (.ldc2_w 316, 3) := by decide +kernel
theorem d2_29 : decode jdk_35_method_53_code 29 = .ok (.land, 1) := by decide +kernel
theorem d2_30 : decode jdk_35_method_53_code 30 = .ok (.lor, 1) := by decide +kernel
theorem d2_31 : decode jdk_35_method_53_code 31 = .ok (.lstore_n 0, 1) := by decide +kernel
theorem d2_32 : decode jdk_35_method_53_code 32 = .ok (.lload_n 0, 1) := by decide +kernel
theorem d2_33 : decode jdk_35_method_53_code 33 = .ok (.ldc2_w 318, 3) := by decide +kernel
theorem d2_36 : decode jdk_35_method_53_code 36 = .ok (.land, 1) := by decide +kernel
theorem d2_37 : decode jdk_35_method_53_code 37 = .ok (.iconst 4, 1) := by decide +kernel
theorem d2_38 : decode jdk_35_method_53_code 38 = .ok (.lshl, 1) := by decide +kernel
theorem d2_39 : decode jdk_35_method_53_code 39 = .ok (.lload_n 0, 1) := by decide +kernel
theorem d2_40 : decode jdk_35_method_53_code 40 = .ok (.iconst 4, 1) := by decide +kernel
theorem d2_41 : decode jdk_35_method_53_code 41 = .ok (.lushr, 1) := by decide +kernel
theorem d2_42 : decode jdk_35_method_53_code 42 = .ok (.ldc2_w 318, 3) := by decide +kernel
theorem d2_45 : decode jdk_35_method_53_code 45 = .ok (.land, 1) := by decide +kernel
theorem d2_46 : decode jdk_35_method_53_code 46 = .ok (.lor, 1) := by decide +kernel
theorem d2_47 : decode jdk_35_method_53_code 47 = .ok (.lstore_n 0, 1) := by decide +kernel
theorem d2_48 : decode jdk_35_method_53_code 48 = .ok (.lload_n 0, 1) := by decide +kernel
theorem d2_49 : decode jdk_35_method_53_code 49 = .ok (.invokestatic 320, 3) := by decide +kernel
theorem d2_52 : decode jdk_35_method_53_code 52 = .ok (.lreturn, 1) := by decide +kernel
theorem ef_2 (m : MethodId) (x0 : Int64) : entryFrame m #[(.long x0)] 2 = mkF m 0 #[.val (.long x0), .second] [] := by first | (simp [entryFrame, mkF, argsToLocals, Value.category]; done) | rfl
def own_f2_x0 (x1 : Int64) : Int64 := ((lL (x1 &&& (6148914691236517205 : Int64)) (1 : Int32)) ||| ((uL x1 (1 : Int32)) &&& (6148914691236517205 : Int64)))
def own_f2_x1 (x1 : Int64) : Int64 := ((lL ((own_f2_x0 x1) &&& (3689348814741910323 : Int64)) (2 : Int32)) ||| ((uL (own_f2_x0 x1) (2 : Int32)) &&& (3689348814741910323 : Int64)))
def own_f2_x2 (x1 : Int64) : Int64 := ((lL ((own_f2_x1 x1) &&& (1085102592571150095 : Int64)) (4 : Int32)) ||| ((uL (own_f2_x1 x1) (4 : Int32)) &&& (1085102592571150095 : Int64)))
def own_f2_ret (x1 : Int64) : Int64 := (own_f3_ret (own_f2_x2 x1))
def Q2 (Z : State) (x1 : Int64) (h0 : Heap) (n0 : Nat) (v : Option Value) (h : Heap) (L : List Loc) : Prop := v = some (.long (own_f2_ret x1)) ∧ Fr n0 L ∧ h = h0
set_option maxRecDepth 65536 in
set_option maxHeartbeats 40000000 in
theorem rm2 (l : Launch) (Z : State) (a0 : Array Value) (hw : ∀ d ∈ tables_1, d.before a0 Z = true) (ws : List Jvm.Cond) (x1 : Int64) (h0 : Heap) (n0 : Nat) (Z0 : n0 ≤ h0.size)  :
    Con l (⟨"java/lang/Long", "reverse", "(J)J"⟩ : MethodName) jdk_35_method_53_code 2 (some .long) ws ({ frames := 1, cells := 0, slots := 0, locals := 13 } : Room) #[(.long x1)] Z h0 (Q2 Z x1 h0 n0) ({ frames := 1, cells := 0, slots := 0, locals := 13 } : Room).cells ({ frames := 1, cells := 0, slots := 0, locals := 13 } : Room).slots := by
  refine own_body (by decide +kernel) ?_
  intro p e s m below meth c s₁ hx hby hlk hml hown hnm hrt hZ X0 e0
  have w : ∀ (k : Nat) (d : Jvm.Cond), tables_1[k]? = some d → d.before a0 Z = true := fun k d h => hw d (List.mem_of_getElem? h)
  have N0 := Fr.nil n0
  rw [ef_2]
  generalize hOWE : Owe s _ _ _ = OWE
  refine o_lloadN X0 hx (hb hby d2_0) (pc' := 1) rfl rfl ?_
  refine o_ldcJ X0 hx hZ (6148914691236517205 : Int64) hown (w 9 _ rfl) (hb hby d2_1) (pc' := 4) rfl ?_
  refine o_land X0 hx (hb hby d2_4) (pc' := 5) rfl ?_
  refine o_iconst X0 hx (1 : Int32) (hb hby d2_5) (pc' := 6) rfl (by decide) ?_
  refine o_lshl X0 hx (hb hby d2_6) (pc' := 7) rfl ?_
  refine o_lloadN X0 hx (hb hby d2_7) (pc' := 8) rfl rfl ?_
  refine o_iconst X0 hx (1 : Int32) (hb hby d2_8) (pc' := 9) rfl (by decide) ?_
  refine o_lushr X0 hx (hb hby d2_9) (pc' := 10) rfl ?_
  refine o_ldcJ X0 hx hZ (6148914691236517205 : Int64) hown (w 9 _ rfl) (hb hby d2_10) (pc' := 13) rfl ?_
  refine o_land X0 hx (hb hby d2_13) (pc' := 14) rfl ?_
  refine o_lor X0 hx (hb hby d2_14) (pc' := 15) rfl ?_
  refine o_lstoreN (x := (own_f2_x0 x1)) X0 hx (hb hby d2_15) (pc' := 16) rfl (L' := #[.val (.long (own_f2_x0 x1)), .second]) rfl ?_
  refine o_lloadN X0 hx (hb hby d2_16) (pc' := 17) rfl rfl ?_
  refine o_ldcJ X0 hx hZ (3689348814741910323 : Int64) hown (w 10 _ rfl) (hb hby d2_17) (pc' := 20) rfl ?_
  refine o_land X0 hx (hb hby d2_20) (pc' := 21) rfl ?_
  refine o_iconst X0 hx (2 : Int32) (hb hby d2_21) (pc' := 22) rfl (by decide) ?_
  refine o_lshl X0 hx (hb hby d2_22) (pc' := 23) rfl ?_
  refine o_lloadN X0 hx (hb hby d2_23) (pc' := 24) rfl rfl ?_
  refine o_iconst X0 hx (2 : Int32) (hb hby d2_24) (pc' := 25) rfl (by decide) ?_
  refine o_lushr X0 hx (hb hby d2_25) (pc' := 26) rfl ?_
  refine o_ldcJ X0 hx hZ (3689348814741910323 : Int64) hown (w 10 _ rfl) (hb hby d2_26) (pc' := 29) rfl ?_
  refine o_land X0 hx (hb hby d2_29) (pc' := 30) rfl ?_
  refine o_lor X0 hx (hb hby d2_30) (pc' := 31) rfl ?_
  refine o_lstoreN (x := (own_f2_x1 x1)) X0 hx (hb hby d2_31) (pc' := 32) rfl (L' := #[.val (.long (own_f2_x1 x1)), .second]) rfl ?_
  refine o_lloadN X0 hx (hb hby d2_32) (pc' := 33) rfl rfl ?_
  refine o_ldcJ X0 hx hZ (1085102592571150095 : Int64) hown (w 11 _ rfl) (hb hby d2_33) (pc' := 36) rfl ?_
  refine o_land X0 hx (hb hby d2_36) (pc' := 37) rfl ?_
  refine o_iconst X0 hx (4 : Int32) (hb hby d2_37) (pc' := 38) rfl (by decide) ?_
  refine o_lshl X0 hx (hb hby d2_38) (pc' := 39) rfl ?_
  refine o_lloadN X0 hx (hb hby d2_39) (pc' := 40) rfl rfl ?_
  refine o_iconst X0 hx (4 : Int32) (hb hby d2_40) (pc' := 41) rfl (by decide) ?_
  refine o_lushr X0 hx (hb hby d2_41) (pc' := 42) rfl ?_
  refine o_ldcJ X0 hx hZ (1085102592571150095 : Int64) hown (w 11 _ rfl) (hb hby d2_42) (pc' := 45) rfl ?_
  refine o_land X0 hx (hb hby d2_45) (pc' := 46) rfl ?_
  refine o_lor X0 hx (hb hby d2_46) (pc' := 47) rfl ?_
  refine o_lstoreN (x := (own_f2_x2 x1)) X0 hx (hb hby d2_47) (pc' := 48) rfl (L' := #[.val (.long (own_f2_x2 x1)), .second]) rfl ?_
  refine o_lloadN X0 hx (hb hby d2_48) (pc' := 49) rfl rfl ?_
  refine o_callS X0 hx hZ 0 (argsL := [.long (own_f2_x2 x1)]) (rest := []) hown (w 12 _ rfl) (w 13 _ rfl) (w 7 _ rfl) (w 14 _ rfl) (by decide) (rm3 l Z a0 hw [] (own_f2_x2 x1) h0 n0 Z0 ) (by decide) (by decide) (cells' := 0) rfl (slots' := 0) rfl (by decide) (by decide) e0 (by rw [hml]; rfl) (lenOf pd_0 rfl) rfl rfl (hb hby d2_49) (pc' := 52) rfl ?_
  intro T1 v1 L1 X1 hQ1
  obtain ⟨rfl, Nq1, e1⟩ := hQ1
  have N1 := Fr.app N0 Nq1
  show Go p e below _ (T1.setTop (mkF m 52 _ [.long (own_f3_ret (own_f2_x2 x1))]))
  rw [← hOWE]
  exact o_retJ X1 hx hlk hrt (hb hby d2_52) (by decide) (by decide) (by rw [e1]; exact ⟨(by rw [own_f2_ret]), N1, rfl⟩)
theorem d1_0 : decode prog_37_method_2_code 0 = .ok (.lload_n 0, 1) := by decide +kernel
theorem d1_1 : decode prog_37_method_2_code 1 = .ok (.lconst 0, 1) := by decide +kernel
theorem d1_2 : decode prog_37_method_2_code 2 = .ok (.lcmp, 1) := by decide +kernel
theorem d1_3 : decode prog_37_method_2_code 3 = .ok (.ifCond .ge 17, 3) := by decide +kernel
theorem d1_6 : decode prog_37_method_2_code 6 = .ok (.new 7, 3) := by decide +kernel
theorem d1_9 : decode prog_37_method_2_code 9 = .ok (.dup, 1) := by decide +kernel
theorem d1_10 : decode prog_37_method_2_code 10 = .ok (.lload_n 0, 1) := by decide +kernel
theorem d1_11 : decode prog_37_method_2_code 11 = .ok (.invokedynamic 9, 5) := by decide +kernel
theorem d1_16 : decode prog_37_method_2_code 16 = .ok (.invokespecial 13, 3) := by decide +kernel
theorem d1_19 : decode prog_37_method_2_code 19 = .ok (.athrow, 1) := by decide +kernel
theorem d1_20 : decode prog_37_method_2_code 20 = .ok (.lload_n 0, 1) := by decide +kernel
theorem d1_21 : decode prog_37_method_2_code 21 = .ok (.invokestatic 16, 3) := by decide +kernel
theorem d1_24 : decode prog_37_method_2_code 24 = .ok (.iconst 1, 1) := by decide +kernel
theorem d1_25 : decode prog_37_method_2_code 25 = .ok (.lushr, 1) := by decide +kernel
theorem d1_26 : decode prog_37_method_2_code 26 = .ok (.lreturn, 1) := by decide +kernel
theorem pn_1 : plainName "com/example/seshat/seshat/util/Keys" = true := by first | (simp [plainName, overriddenIn]; done) | decide +kernel
theorem ef_1 (m : MethodId) (x0 : Int64) : entryFrame m #[(.long x0)] 2 = mkF m 0 #[.val (.long x0), .second] [] := by first | (simp [entryFrame, mkF, argsToLocals, Value.category]; done) | rfl
def own_f1_ret (x1 : Int64) : Int64 := (uL (own_f2_ret x1) (1 : Int32))
def Q1 (Z : State) (x1 : Int64) (h0 : Heap) (n0 : Nat) (v : Option Value) (h : Heap) (L : List Loc) : Prop := v = some (.long (own_f1_ret x1)) ∧ Fr n0 L ∧ h = h0
set_option maxRecDepth 65536 in
set_option maxHeartbeats 40000000 in
theorem rm1 (l : Launch) (Z : State) (a0 : Array Value) (hw : ∀ d ∈ tables_1, d.before a0 Z = true) (ws : List Jvm.Cond) (x1 : Int64) (h0 : Heap) (n0 : Nat) (Z0 : n0 ≤ h0.size) (hp : ¬ x1 < (0 : Int64)) :
    Con l (⟨"com/example/seshat/seshat/util/Keys", "bitReversed", "(J)J"⟩ : MethodName) prog_37_method_2_code 2 (some .long) ws ({ frames := 2, cells := 0, slots := 0, locals := 26 } : Room) #[(.long x1)] Z h0 (Q1 Z x1 h0 n0) ({ frames := 2, cells := 0, slots := 0, locals := 26 } : Room).cells ({ frames := 2, cells := 0, slots := 0, locals := 26 } : Room).slots := by
  refine own_body (plainFor_of_name pn_1) ?_
  intro p e s m below meth c s₁ hx hby hlk hml hown hnm hrt hZ X0 e0
  have w : ∀ (k : Nat) (d : Jvm.Cond), tables_1[k]? = some d → d.before a0 Z = true := fun k d h => hw d (List.mem_of_getElem? h)
  have N0 := Fr.nil n0
  rw [ef_1]
  generalize hOWE : Owe s _ _ _ = OWE
  refine o_lloadN X0 hx (hb hby d1_0) (pc' := 1) rfl rfl ?_
  refine o_lconst X0 hx (0 : Int64) (hb hby d1_1) (pc' := 2) rfl (by decide) ?_
  refine o_lcmp X0 hx (hb hby d1_2) (pc' := 3) rfl ?_
  refine o_ifY X0 hx (hb hby d1_3) (fltL (hp : ¬ (x1 < (0 : Int64)))).2.1 (by decide) (pc' := 20) (by decide) ?_
  refine o_lloadN X0 hx (hb hby d1_20) (pc' := 21) rfl rfl ?_
  refine o_callS X0 hx hZ 0 (argsL := [.long x1]) (rest := []) hown (w 5 _ rfl) (w 6 _ rfl) (w 7 _ rfl) (w 8 _ rfl) (by decide) (rm2 l Z a0 hw [] x1 h0 n0 Z0 ) (by decide) (by decide) (cells' := 0) rfl (slots' := 0) rfl (by decide) (by decide) e0 (by rw [hml]; rfl) (lenOf pd_0 rfl) rfl rfl (hb hby d1_21) (pc' := 24) rfl ?_
  intro T1 v1 L1 X1 hQ1
  obtain ⟨rfl, Nq1, e1⟩ := hQ1
  have N1 := Fr.app N0 Nq1
  show Go p e below _ (T1.setTop (mkF m 24 _ [.long (own_f2_ret x1)]))
  refine o_iconst X1 hx (1 : Int32) (hb hby d1_24) (pc' := 25) rfl (by decide) ?_
  refine o_lushr X1 hx (hb hby d1_25) (pc' := 26) rfl ?_
  rw [← hOWE]
  exact o_retJ X1 hx hlk hrt (hb hby d1_26) (by decide) (by decide) (by rw [e1]; exact ⟨(by rw [own_f1_ret]), N1, rfl⟩)
theorem own_nn (q : Int64) : ¬ (q &&& (9223372036854775807 : Int64)) < (0 : Int64) := by
  have h := c_maskL q 9223372036854775807 63 (by decide) (by decide)
  rw [Int64.lt_iff_toInt_lt, h, show (0 : Int64).toInt = 0 from rfl]
  omega
theorem pn_0 : plainName "com/example/seshat/seshat/util/KeysBitReversedPinLaw" = true := by first | (simp [plainName, overriddenIn]; done) | decide +kernel
theorem ef_0 (m : MethodId) (x0 : Int64) (x1 : Int32) : entryFrame m #[(.long x0), (.int x1)] maxLocals = mkF m 0 #[.val (.long x0), .second, .val (.int x1), .unset, .unset, .unset, .unset, .unset, .unset, .unset, .unset, .unset] [] := by first | (simp [entryFrame, mkF, argsToLocals, Value.category, maxLocals]; done) | rfl
def own_law_x0 (q0 : Int64) (q1 : Int32) : Int64 := (q0 &&& (9223372036854775807 : Int64))
def own_law_x1 (q0 : Int64) (q1 : Int32) : Int64 := (own_f1_ret (own_law_x0 q0 q1))
def own_law_x2 (q0 : Int64) (q1 : Int32) : Int32 := ((q1 &&& (2147483647 : Int32)) % (63 : Int32))
def own_law_x3 (q0 : Int64) (q1 : Int32) : Int64 := ((uL (own_law_x1 q0 q1) (own_law_x2 q0 q1)) &&& (1 : Int64))
def own_law_x4 (q0 : Int64) (q1 : Int32) : Int64 := ((uL (own_law_x0 q0 q1) ((62 : Int32) - (own_law_x2 q0 q1))) &&& (1 : Int64))
def own_law_ret (q0 : Int64) (q1 : Int32) : Int32 := (if (own_law_x1 q0 q1) < (0 : Int64) then (0 : Int32) else (if (own_law_x3 q0 q1) = (own_law_x4 q0 q1) then (if (own_f1_ret (own_law_x1 q0 q1)) = (own_law_x0 q0 q1) then (1 : Int32) else (0 : Int32)) else (0 : Int32)))
def Q0 (Z : State) (q0 : Int64) (q1 : Int32) (h0 : Heap) (n0 : Nat) (v : Option Value) (h : Heap) (L : List Loc) : Prop := v = some (.int (own_law_ret q0 q1)) ∧ Fr n0 L
set_option maxRecDepth 65536 in
set_option maxHeartbeats 40000000 in
theorem rm0 (l : Launch) (Z : State) (a0 : Array Value) (hw : ∀ d ∈ tables_1, d.before a0 Z = true) (ws : List Jvm.Cond) (q0 : Int64) (q1 : Int32) (h0 : Heap) (n0 : Nat) (Z0 : n0 ≤ h0.size)  :
    Con l x code maxLocals ret ws room_1 #[(.long q0), (.int q1)] Z h0 (Q0 Z q0 q1 h0 n0) 0 0 := by
  refine own_body (plainFor_of_name pn_0) ?_
  intro p e s m below meth c s₁ hx hby hlk hml hown hnm hrt hZ X0 e0
  have w : ∀ (k : Nat) (d : Jvm.Cond), tables_1[k]? = some d → d.before a0 Z = true := fun k d h => hw d (List.mem_of_getElem? h)
  have N0 := Fr.nil n0
  have hml : c.maxLocals = 12 := hml
  rw [ef_0]
  generalize hOWE : Owe s _ _ _ = OWE
  refine o_lloadN X0 hx (hb hby at_0) (pc' := 1) rfl rfl ?_
  refine o_ldcJ X0 hx hZ (9223372036854775807 : Int64) hown (w 0 _ rfl) (hb hby at_1) (pc' := 4) rfl ?_
  refine o_land X0 hx (hb hby at_4) (pc' := 5) rfl ?_
  refine o_lstoreN (x := (own_law_x0 q0 q1)) X0 hx (hb hby at_5) (pc' := 6) rfl (L' := #[.val (.long q0), .second, .val (.int q1), .val (.long (own_law_x0 q0 q1)), .second, .unset, .unset, .unset, .unset, .unset, .unset, .unset]) rfl ?_
  refine o_lloadN X0 hx (hb hby at_6) (pc' := 7) rfl rfl ?_
  refine o_callS X0 hx hZ 0 (argsL := [.long (own_law_x0 q0 q1)]) (rest := []) hown (w 1 _ rfl) (w 2 _ rfl) (w 3 _ rfl) (w 4 _ rfl) (by decide) (rm1 l Z a0 hw [] (own_law_x0 q0 q1) h0 n0 Z0 (own_nn q0)) (by decide) (by decide) (cells' := 0) rfl (slots' := 0) rfl (by decide) (by decide) e0 (by rw [hml]; rfl) (lenOf pd_0 rfl) rfl rfl (hb hby at_7) (pc' := 10) rfl ?_
  intro T1 v1 L1 X1 hQ1
  obtain ⟨rfl, Nq1, e1⟩ := hQ1
  have N1 := Fr.app N0 Nq1
  show Go p e below _ (T1.setTop (mkF m 10 _ [.long (own_f1_ret (own_law_x0 q0 q1))]))
  refine o_lstore (x := (own_law_x1 q0 q1)) X1 hx (hb hby at_10) (pc' := 12) rfl (L' := #[.val (.long q0), .second, .val (.int q1), .val (.long (own_law_x0 q0 q1)), .second, .val (.long (own_law_x1 q0 q1)), .second, .unset, .unset, .unset, .unset, .unset]) rfl ?_
  refine o_lload X1 hx (hb hby at_12) (pc' := 14) rfl rfl ?_
  refine o_lconst X1 hx (0 : Int64) (hb hby at_14) (pc' := 15) rfl (by decide) ?_
  refine o_lcmp X1 hx (hb hby at_15) (pc' := 16) rfl ?_
  by_cases hc16_2 : (own_law_x1 q0 q1) < (0 : Int64)
  · refine o_ifN X1 hx (hb hby at_16) (tltL hc16_2).2.1 (pc' := 19) rfl ?_
    refine o_iconst X1 hx (0 : Int32) (hb hby at_19) (pc' := 20) rfl (by decide) ?_
    rw [← hOWE]
    exact o_retZ X1 hx rfl hlk hrt (hb hby at_20) (by decide) (by decide) (by rw [e1]; exact ⟨(by rw [own_law_ret, if_pos hc16_2]), N1⟩)
  · refine o_ifY X1 hx (hb hby at_16) (fltL hc16_2).2.1 (by decide) (pc' := 21) (by decide) ?_
    refine o_iloadN X1 hx (hb hby at_21) (pc' := 22) rfl rfl ?_
    refine o_ldcI X1 hx hZ (2147483647 : Int32) hown (w 17 _ rfl) (hb hby at_22) (pc' := 24) rfl ?_
    refine o_iand X1 hx (hb hby at_24) (pc' := 25) rfl ?_
    refine o_bipush X1 hx (63 : Int32) (hb hby at_25) (pc' := 27) rfl (by decide) ?_
    refine o_irem X1 hx (hb hby at_27) (pc' := 28) rfl (by decide) ?_
    refine o_istore (x := (own_law_x2 q0 q1)) X1 hx (hb hby at_28) (pc' := 30) rfl (L' := #[.val (.long q0), .second, .val (.int q1), .val (.long (own_law_x0 q0 q1)), .second, .val (.long (own_law_x1 q0 q1)), .second, .val (.int (own_law_x2 q0 q1)), .unset, .unset, .unset, .unset]) rfl ?_
    refine o_lload X1 hx (hb hby at_30) (pc' := 32) rfl rfl ?_
    refine o_iload X1 hx (hb hby at_32) (pc' := 34) rfl rfl ?_
    refine o_lushr X1 hx (hb hby at_34) (pc' := 35) rfl ?_
    refine o_lconst X1 hx (1 : Int64) (hb hby at_35) (pc' := 36) rfl (by decide) ?_
    refine o_land X1 hx (hb hby at_36) (pc' := 37) rfl ?_
    refine o_lstore (x := (own_law_x3 q0 q1)) X1 hx (hb hby at_37) (pc' := 39) rfl (L' := #[.val (.long q0), .second, .val (.int q1), .val (.long (own_law_x0 q0 q1)), .second, .val (.long (own_law_x1 q0 q1)), .second, .val (.int (own_law_x2 q0 q1)), .val (.long (own_law_x3 q0 q1)), .second, .unset, .unset]) rfl ?_
    refine o_lloadN X1 hx (hb hby at_39) (pc' := 40) rfl rfl ?_
    refine o_bipush X1 hx (62 : Int32) (hb hby at_40) (pc' := 42) rfl (by decide) ?_
    refine o_iload X1 hx (hb hby at_42) (pc' := 44) rfl rfl ?_
    refine o_isub X1 hx (hb hby at_44) (pc' := 45) rfl ?_
    refine o_lushr X1 hx (hb hby at_45) (pc' := 46) rfl ?_
    refine o_lconst X1 hx (1 : Int64) (hb hby at_46) (pc' := 47) rfl (by decide) ?_
    refine o_land X1 hx (hb hby at_47) (pc' := 48) rfl ?_
    refine o_lstore (x := (own_law_x4 q0 q1)) X1 hx (hb hby at_48) (pc' := 50) rfl (L' := #[.val (.long q0), .second, .val (.int q1), .val (.long (own_law_x0 q0 q1)), .second, .val (.long (own_law_x1 q0 q1)), .second, .val (.int (own_law_x2 q0 q1)), .val (.long (own_law_x3 q0 q1)), .second, .val (.long (own_law_x4 q0 q1)), .second]) rfl ?_
    refine o_lload X1 hx (hb hby at_50) (pc' := 52) rfl rfl ?_
    refine o_lload X1 hx (hb hby at_52) (pc' := 54) rfl rfl ?_
    refine o_lcmp X1 hx (hb hby at_54) (pc' := 55) rfl ?_
    by_cases hc55_3 : (own_law_x3 q0 q1) = (own_law_x4 q0 q1)
    · refine o_ifY X1 hx (hb hby at_55) (teqL hc55_3).1 (by decide) (pc' := 60) (by decide) ?_
      refine o_lload X1 hx (hb hby at_60) (pc' := 62) rfl rfl ?_
      refine o_callS X1 hx hZ 0 (argsL := [.long (own_law_x1 q0 q1)]) (rest := []) hown (w 1 _ rfl) (w 2 _ rfl) (w 3 _ rfl) (w 4 _ rfl) (by decide) (rm1 l Z a0 hw [] (own_law_x1 q0 q1) h0 n0 Z0 hc16_2) (by decide) (by decide) (cells' := 0) rfl (slots' := 0) rfl (by decide) (by decide) e1 (by rw [hml]; rfl) (lenOf pd_0 rfl) rfl rfl (hb hby at_62) (pc' := 65) rfl ?_
      intro T4 v4 L4 X4 hQ4
      obtain ⟨rfl, Nq4, e4⟩ := hQ4
      have N4 := Fr.app N1 Nq4
      show Go p e below _ (T4.setTop (mkF m 65 _ [.long (own_f1_ret (own_law_x1 q0 q1))]))
      refine o_lloadN X4 hx (hb hby at_65) (pc' := 66) rfl rfl ?_
      refine o_lcmp X4 hx (hb hby at_66) (pc' := 67) rfl ?_
      by_cases hc67_5 : (own_f1_ret (own_law_x1 q0 q1)) = (own_law_x0 q0 q1)
      · refine o_ifN X4 hx (hb hby at_67) (teqL hc67_5).2 (pc' := 70) rfl ?_
        refine o_iconst X4 hx (1 : Int32) (hb hby at_70) (pc' := 71) rfl (by decide) ?_
        refine o_goto X4 hx (hb hby at_71) (by decide) (pc' := 75) (by decide) ?_
        rw [← hOWE]
        exact o_retZ X4 hx rfl hlk hrt (hb hby at_75) (by decide) (by decide) (by rw [e4]; exact ⟨(by rw [own_law_ret, if_neg hc16_2, if_pos hc55_3, if_pos hc67_5]), N4⟩)
      · refine o_ifY X4 hx (hb hby at_67) (feqL hc67_5).2 (by decide) (pc' := 74) (by decide) ?_
        refine o_iconst X4 hx (0 : Int32) (hb hby at_74) (pc' := 75) rfl (by decide) ?_
        rw [← hOWE]
        exact o_retZ X4 hx rfl hlk hrt (hb hby at_75) (by decide) (by decide) (by rw [e4]; exact ⟨(by rw [own_law_ret, if_neg hc16_2, if_pos hc55_3, if_neg hc67_5]), N4⟩)
    · refine o_ifN X1 hx (hb hby at_55) (feqL hc55_3).1 (pc' := 58) rfl ?_
      refine o_iconst X1 hx (0 : Int32) (hb hby at_58) (pc' := 59) rfl (by decide) ?_
      rw [← hOWE]
      exact o_retZ X1 hx rfl hlk hrt (hb hby at_59) (by decide) (by decide) (by rw [e1]; exact ⟨(by rw [own_law_ret, if_neg hc16_2, if_neg hc55_3]), N1⟩)
theorem own_uLn (x : Int64) (y : Int32) : (uL x y).toBitVec.toNat = x.toBitVec.toNat >>> ((y &&& 0x3f).toInt64.toUInt64.toNat % 64) := UInt64.toNat_shiftRight _ _
theorem own_i64 (x : Int64) : x.toInt = if 2 * x.toBitVec.toNat < 2 ^ 64 then (x.toBitVec.toNat : Int) else (x.toBitVec.toNat : Int) - 2 ^ 64 := BitVec.toInt_eq_toNat_cond _
theorem own_uLb (x : Int64) (y : Int32) (k : Nat) (h : ((y &&& 0x3f).toInt64.toUInt64.toNat % 64) = k) : (uL x y).toBitVec = x.toBitVec >>> k := by
  apply BitVec.eq_of_toNat_eq
  rw [own_uLn, h, BitVec.toNat_ushiftRight]
theorem own_lLb (x : Int64) (y : Int32) (k : Nat) (h : ((y &&& 0x3f).toInt64.toBitVec.smod 64).toNat = k) : (lL x y).toBitVec = x.toBitVec <<< k := by
  subst h; rfl
theorem own_mk1 : ∀ j : Fin 64, ((6148914691236517205 : Int64).toBitVec).getLsbD j.val = decide (j.val / 1 % 2 = 0) := by decide +kernel
theorem own_sw1 (x : Int64) (i : Nat) (hi : i < 64) : ((lL (x &&& (6148914691236517205 : Int64)) (1 : Int32)) ||| ((uL x (1 : Int32)) &&& (6148914691236517205 : Int64))).toBitVec.getLsbD i = x.toBitVec.getLsbD (if i / 1 % 2 = 0 then i + 1 else i - 1) := by
  rw [Int64.toBitVec_or, Int64.toBitVec_and, own_lLb _ (1 : Int32) 1 (by decide), own_uLb _ (1 : Int32) 1 (by decide), Int64.toBitVec_and]
  simp only [BitVec.getLsbD_or, BitVec.getLsbD_shiftLeft, BitVec.getLsbD_and, BitVec.getLsbD_ushiftRight]
  have h1 := own_mk1 ⟨i, hi⟩
  have h2 := own_mk1 ⟨i - 1, by omega⟩
  dsimp only at h1 h2
  rw [h1, h2]
  by_cases h : i / 1 % 2 = 0
  · rw [if_pos h, decide_eq_true h, Nat.add_comm 1 i]
    by_cases g : i < 1
    · simp [g]
    · rw [decide_eq_false (show ¬ (i - 1) / 1 % 2 = 0 by omega)]
      simp
  · rw [if_neg h, decide_eq_false h, decide_eq_true (show (i - 1) / 1 % 2 = 0 by omega)]
    have g : ¬ i < 1 := by omega
    simp [g, hi]
theorem own_mk2 : ∀ j : Fin 64, ((3689348814741910323 : Int64).toBitVec).getLsbD j.val = decide (j.val / 2 % 2 = 0) := by decide +kernel
theorem own_sw2 (x : Int64) (i : Nat) (hi : i < 64) : ((lL (x &&& (3689348814741910323 : Int64)) (2 : Int32)) ||| ((uL x (2 : Int32)) &&& (3689348814741910323 : Int64))).toBitVec.getLsbD i = x.toBitVec.getLsbD (if i / 2 % 2 = 0 then i + 2 else i - 2) := by
  rw [Int64.toBitVec_or, Int64.toBitVec_and, own_lLb _ (2 : Int32) 2 (by decide), own_uLb _ (2 : Int32) 2 (by decide), Int64.toBitVec_and]
  simp only [BitVec.getLsbD_or, BitVec.getLsbD_shiftLeft, BitVec.getLsbD_and, BitVec.getLsbD_ushiftRight]
  have h1 := own_mk2 ⟨i, hi⟩
  have h2 := own_mk2 ⟨i - 2, by omega⟩
  dsimp only at h1 h2
  rw [h1, h2]
  by_cases h : i / 2 % 2 = 0
  · rw [if_pos h, decide_eq_true h, Nat.add_comm 2 i]
    by_cases g : i < 2
    · simp [g]
    · rw [decide_eq_false (show ¬ (i - 2) / 2 % 2 = 0 by omega)]
      simp
  · rw [if_neg h, decide_eq_false h, decide_eq_true (show (i - 2) / 2 % 2 = 0 by omega)]
    have g : ¬ i < 2 := by omega
    simp [g, hi]
theorem own_mk4 : ∀ j : Fin 64, ((1085102592571150095 : Int64).toBitVec).getLsbD j.val = decide (j.val / 4 % 2 = 0) := by decide +kernel
theorem own_sw4 (x : Int64) (i : Nat) (hi : i < 64) : ((lL (x &&& (1085102592571150095 : Int64)) (4 : Int32)) ||| ((uL x (4 : Int32)) &&& (1085102592571150095 : Int64))).toBitVec.getLsbD i = x.toBitVec.getLsbD (if i / 4 % 2 = 0 then i + 4 else i - 4) := by
  rw [Int64.toBitVec_or, Int64.toBitVec_and, own_lLb _ (4 : Int32) 4 (by decide), own_uLb _ (4 : Int32) 4 (by decide), Int64.toBitVec_and]
  simp only [BitVec.getLsbD_or, BitVec.getLsbD_shiftLeft, BitVec.getLsbD_and, BitVec.getLsbD_ushiftRight]
  have h1 := own_mk4 ⟨i, hi⟩
  have h2 := own_mk4 ⟨i - 4, by omega⟩
  dsimp only at h1 h2
  rw [h1, h2]
  by_cases h : i / 4 % 2 = 0
  · rw [if_pos h, decide_eq_true h, Nat.add_comm 4 i]
    by_cases g : i < 4
    · simp [g]
    · rw [decide_eq_false (show ¬ (i - 4) / 4 % 2 = 0 by omega)]
      simp
  · rw [if_neg h, decide_eq_false h, decide_eq_true (show (i - 4) / 4 % 2 = 0 by omega)]
    have g : ¬ i < 4 := by omega
    simp [g, hi]
theorem own_mk8 : ∀ j : Fin 64, ((71777214294589695 : Int64).toBitVec).getLsbD j.val = decide (j.val / 8 % 2 = 0) := by decide +kernel
theorem own_sw8 (x : Int64) (i : Nat) (hi : i < 64) : ((lL (x &&& (71777214294589695 : Int64)) (8 : Int32)) ||| ((uL x (8 : Int32)) &&& (71777214294589695 : Int64))).toBitVec.getLsbD i = x.toBitVec.getLsbD (if i / 8 % 2 = 0 then i + 8 else i - 8) := by
  rw [Int64.toBitVec_or, Int64.toBitVec_and, own_lLb _ (8 : Int32) 8 (by decide), own_uLb _ (8 : Int32) 8 (by decide), Int64.toBitVec_and]
  simp only [BitVec.getLsbD_or, BitVec.getLsbD_shiftLeft, BitVec.getLsbD_and, BitVec.getLsbD_ushiftRight]
  have h1 := own_mk8 ⟨i, hi⟩
  have h2 := own_mk8 ⟨i - 8, by omega⟩
  dsimp only at h1 h2
  rw [h1, h2]
  by_cases h : i / 8 % 2 = 0
  · rw [if_pos h, decide_eq_true h, Nat.add_comm 8 i]
    by_cases g : i < 8
    · simp [g]
    · rw [decide_eq_false (show ¬ (i - 8) / 8 % 2 = 0 by omega)]
      simp
  · rw [if_neg h, decide_eq_false h, decide_eq_true (show (i - 8) / 8 % 2 = 0 by omega)]
    have g : ¬ i < 8 := by omega
    simp [g, hi]
theorem own_mk16 : ∀ j : Fin 64, ((4294901760 : Int64).toBitVec).getLsbD j.val = decide (16 ≤ j.val ∧ j.val < 32) := by decide +kernel
theorem own_by (x : Int64) (i : Nat) (hi : i < 64) : (own_f3_ret x).toBitVec.getLsbD i = (own_f3_x0 x).toBitVec.getLsbD (if i < 16 then i + 48 else if i < 32 then i + 16 else if i < 48 then i - 16 else i - 48) := by
  unfold own_f3_ret
  generalize own_f3_x0 x = y
  rw [Int64.toBitVec_or, Int64.toBitVec_or, Int64.toBitVec_or, Int64.toBitVec_and, own_lLb y (48 : Int32) 48 (by decide), own_lLb _ (16 : Int32) 16 (by decide), own_uLb y (16 : Int32) 16 (by decide), own_uLb y (48 : Int32) 48 (by decide), Int64.toBitVec_and]
  simp only [BitVec.getLsbD_or, BitVec.getLsbD_shiftLeft, BitVec.getLsbD_and, BitVec.getLsbD_ushiftRight]
  have h1 := own_mk16 ⟨i, hi⟩
  have h2 := own_mk16 ⟨i - 16, by omega⟩
  dsimp only at h1 h2
  rw [h1, h2]
  by_cases a : i < 16
  · rw [if_pos a, decide_eq_false (show ¬ (16 ≤ i ∧ i < 32) by omega), decide_eq_false (show ¬ (16 ≤ i - 16 ∧ i - 16 < 32) by omega), Nat.add_comm i 48]
    simp [show i < 48 by omega]
  · rw [if_neg a]
    by_cases b : i < 32
    · rw [if_pos b, decide_eq_true (show 16 ≤ i ∧ i < 32 by omega), decide_eq_false (show ¬ (16 ≤ i - 16 ∧ i - 16 < 32) by omega), Nat.add_comm i 16]
      simp [show i < 48 by omega, BitVec.getLsbD_of_ge y.toBitVec (48 + i) (by omega)]
    · rw [if_neg b, decide_eq_false (show ¬ (16 ≤ i ∧ i < 32) by omega)]
      by_cases d : i < 48
      · rw [if_pos d, decide_eq_true (show 16 ≤ i - 16 ∧ i - 16 < 32 by omega)]
        simp [d, hi, a, BitVec.getLsbD_of_ge y.toBitVec (48 + i) (by omega)]
      · rw [if_neg d, decide_eq_false (show ¬ (16 ≤ i - 16 ∧ i - 16 < 32) by omega)]
        simp [d, hi, BitVec.getLsbD_of_ge y.toBitVec (48 + i) (by omega)]
def own_i16 (i : Nat) : Nat := if i < 16 then i + 48 else if i < 32 then i + 16 else if i < 48 then i - 16 else i - 48
def own_ik (k i : Nat) : Nat := if i / k % 2 = 0 then i + k else i - k
theorem own_all : ∀ i : Fin 64, own_i16 i.val < 64 ∧ own_ik 8 (own_i16 i.val) < 64 ∧ own_ik 4 (own_ik 8 (own_i16 i.val)) < 64 ∧ own_ik 2 (own_ik 4 (own_ik 8 (own_i16 i.val))) < 64 ∧ own_ik 1 (own_ik 2 (own_ik 4 (own_ik 8 (own_i16 i.val)))) = 63 - i.val := by decide +kernel
/-- **reverse**: bit i is bit 63 - i -/
theorem own_rev (x : Int64) (i : Nat) (hi : i < 64) : (own_f2_ret x).toBitVec.getLsbD i = x.toBitVec.getLsbD (63 - i) := by
  obtain ⟨h1, h2, h3, h4, h5⟩ := own_all ⟨i, hi⟩
  dsimp only at h1 h2 h3 h4 h5
  unfold own_f2_ret
  rw [own_by _ i hi]
  have e8 := own_sw8 (own_f2_x2 x) (own_i16 i) h1
  have e4 := own_sw4 (own_f2_x1 x) (own_ik 8 (own_i16 i)) h2
  have e2 := own_sw2 (own_f2_x0 x) (own_ik 4 (own_ik 8 (own_i16 i))) h3
  have e1 := own_sw1 x (own_ik 2 (own_ik 4 (own_ik 8 (own_i16 i)))) h4
  refine Eq.trans e8 (Eq.trans e4 (Eq.trans e2 (Eq.trans e1 ?_)))
  show x.toBitVec.getLsbD (own_ik 1 (own_ik 2 (own_ik 4 (own_ik 8 (own_i16 i))))) = _
  rw [h5]
theorem own_br (x : Int64) (i : Nat) (hi : i < 63) : (own_f1_ret x).toBitVec.getLsbD i = x.toBitVec.getLsbD (62 - i) := by
  unfold own_f1_ret
  rw [own_uLb _ (1 : Int32) 1 (by decide), BitVec.getLsbD_ushiftRight, own_rev x (1 + i) (by omega)]
  congr 1
  omega
theorem own_br63 (x : Int64) : (own_f1_ret x).toBitVec.getLsbD 63 = false := by
  unfold own_f1_ret
  rw [own_uLb _ (1 : Int32) 1 (by decide), BitVec.getLsbD_ushiftRight]
  exact BitVec.getLsbD_of_ge _ _ (by decide)
theorem own_nn63 (x : Int64) (h : x.toBitVec.getLsbD 63 = false) : ¬ x < (0 : Int64) := by
  have a : x.toBitVec.msb = false := by rw [BitVec.msb_eq_getLsbD_last]; exact h
  have b : 0 ≤ x.toInt := BitVec.toInt_nonneg_of_msb_false a
  rw [Int64.lt_iff_toInt_lt, show (0 : Int64).toInt = 0 from rfl]
  omega
theorem own_v63 (q : Int64) : (q &&& (9223372036854775807 : Int64)).toBitVec.getLsbD 63 = false := by
  rw [Int64.toBitVec_and, BitVec.getLsbD_and, show ((9223372036854775807 : Int64).toBitVec).getLsbD 63 = false from by decide, Bool.and_false]
theorem own_cntI (y : Int32) (n : Nat) (h : y.toInt = n) (hn : n < 64) : ((y &&& 0x3f).toInt64.toUInt64.toNat % 64) = n := by
  have a := c_mask y 0x3f 6 (by decide) (by decide)
  have b : (y &&& 0x3f).toInt64.toInt = n := by rw [c_i2l, a, h]; omega
  have c := own_i64 (y &&& 0x3f).toInt64
  have d := (y &&& 0x3f).toInt64.toBitVec.isLt
  show (y &&& 0x3f).toInt64.toBitVec.toNat % 64 = n
  generalize (y &&& 0x3f).toInt64.toBitVec.toNat = N at *
  split at c <;> omega
theorem own_bit (x y : Int64) (a b : Int32) (m n : Nat) (ha : a.toInt = m) (hb : b.toInt = n) (hm : m < 64) (hn : n < 64) (h : x.toBitVec.getLsbD m = y.toBitVec.getLsbD n) : (uL x a) &&& (1 : Int64) = (uL y b) &&& (1 : Int64) := by
  apply Int64.toBitVec_inj.mp
  rw [Int64.toBitVec_and, Int64.toBitVec_and, own_uLb x a m (own_cntI a m ha hm), own_uLb y b n (own_cntI b n hb hn)]
  apply BitVec.eq_of_getLsbD_eq
  intro i hi
  simp only [BitVec.getLsbD_and, BitVec.getLsbD_ushiftRight]
  by_cases g : i = 0
  · subst g
    rw [Nat.add_zero, Nat.add_zero, h]
  · have e : ((1 : Int64).toBitVec).getLsbD i = false := by
      show (1#64).getLsbD i = false
      rw [BitVec.getLsbD_one]
      simp [g]
    rw [e, Bool.and_false, Bool.and_false]
theorem own_back (x : Int64) (h : x.toBitVec.getLsbD 63 = false) : own_f1_ret (own_f1_ret x) = x := by
  apply Int64.toBitVec_inj.mp
  apply BitVec.eq_of_getLsbD_eq
  intro i hi
  by_cases g : i = 63
  · subst g
    rw [own_br63, h]
  · rw [own_br _ i (by omega), own_br _ (62 - i) (by omega)]
    congr 1
    omega
theorem own_main (q0 : Int64) (q1 : Int32) : own_law_ret q0 q1 = 1 := by
  have h1 : ¬ own_law_x1 q0 q1 < (0 : Int64) := own_nn63 _ (own_br63 _)
  have h3 : own_f1_ret (own_law_x1 q0 q1) = own_law_x0 q0 q1 := own_back _ (own_v63 q0)
  have h2 : own_law_x3 q0 q1 = own_law_x4 q0 q1 := by
    have e1 := c_and q1 2147483647 (by decide)
    have e2 := (c_irem (q1 &&& 2147483647) 63 63 (by decide)).1 e1.1
    have e3 : 0 ≤ (own_law_x2 q0 q1).toInt ∧ (own_law_x2 q0 q1).toInt ≤ 62 := by unfold own_law_x2; omega
    obtain ⟨n, hn⟩ : ∃ n : Nat, (own_law_x2 q0 q1).toInt = n := ⟨(own_law_x2 q0 q1).toInt.toNat, by omega⟩
    have e4 := c_isub 62 (own_law_x2 q0 q1)
    have e5 := rng32 (62 - own_law_x2 q0 q1)
    rw [show (62 : Int32).toInt = 62 from by decide] at e4
    have e6 : (62 - own_law_x2 q0 q1).toInt = ((62 - n : Nat) : Int) := by omega
    exact own_bit _ _ _ _ n (62 - n) hn e6 (by omega) (by omega) (own_br _ n (by omega))
  unfold own_law_ret
  rw [if_neg h1, if_pos h2, if_pos h3]
set_option maxRecDepth 65536 in
set_option maxHeartbeats 40000000 in
theorem comes_1 {Post : Tables → Env → Array Value → State → Outcome → State → Prop} (hpost : ∀ tb e args s v u, (limb_1_1.after args s (.returned v) u = true ∧ limb_1_2.after args s (.returned v) u = true ∧ True) → FrameEnd s (.returned v) u (Jvm.fieldLocs frame_1_writes args s ++ Jvm.arrayLocs frame_1_arrays args s ++ Jvm.staticLocs frame_1_statics s) 0 0 → Post tb e args s (.returned v) u) :
    ArmFor flags0 classFile x code maxLocals ret World_1 tables_1 room_1 Calls_1 rest_1 Pre_1 Post := by
  intro l hfl _ _ p e ha hc hk s m args below hf hA hF happ hP
  obtain ⟨hcalls, hrest, hpre⟩ := hP
  obtain ⟨-, -, -, hnamed, -, -, -, hat⟩ := (Spec.applies_iff hf).mp happ
  obtain ⟨hg, hn⟩ := and_e (Cond.before_iff.mp (show (Jvm.Cond.and given_1 narrow_1).before args s = true from hpre))
  obtain ⟨hcnt, r0⟩ := and_e hg
  obtain ⟨a0, r1⟩ := and_e r0
  obtain ⟨w0, w1, rfl⟩ : ∃ w0 w1 : Value, args = #[w0, w1] := by
    have hs : args.size = 2 := by simpa [Cond.value, given_1] using hcnt
    obtain ⟨L⟩ := args
    match L, hs with
    | [w0, w1], _ => exact ⟨w0, w1, rfl⟩
  have hw := fun d (hd : d ∈ tables_1) => atoms_spec (ws := Jvm.Cond.code x code maxLocals ret :: tables_1) hat d (List.mem_cons_of_mem _ hd)
  obtain ⟨q0, y0⟩ := isL_v a0
  obtain rfl : w0 = (.long q0) := Option.some.inj y0
  obtain ⟨q1, y1⟩ := is_v r1
  obtain rfl : w1 = (.int q1) := Option.some.inj y1
  obtain ⟨n, o, h1, h2, h3, _, L, rfl, ⟨rfl, N⟩, hq⟩ := rm0 l s _ hw tables_1 q0 q1 s.heap s.heap.size (Nat.le_refl _) p e ha hc hk s m _ below hf ((Spec.applies_iff_loose hf).mp happ).1 ⟨rfl, State.Warmed39.refl s, rfl⟩ trivial
  refine ⟨n, _, h1, h2, h3, hpost _ _ _ _ _ _ ⟨Cond.after_iff.mpr rfl, Cond.after_iff.mpr (eq_i res_at (Term.int_eval (1)) (congrArg Value.int (own_main q0 q1))), trivial⟩ ⟨hq.1, hq.2.1, (hq.2.2.sift fun y hy => Or.inr (N y hy)).mono (by decide) (by decide)⟩⟩
theorem main_1_1 : Claimed_1_1 := comes_1 fun _ _ _ _ _ _ h hF => ⟨h.1, hF⟩
theorem main_1_2 : Claimed_1_2 := comes_1 fun _ _ _ _ _ _ h hF => ⟨h.2.1, hF⟩
end Jvm.Pilot.@@N@@
namespace Jvm.Pilot.@@N@@
open Jvm Jvm.ClassFile Sem Op Lib Jvm.Free Jvm.Stand Jvm.Pilot.@@N@@.Jvm.D
/-! MADE BY PROGRAM (witnessworld.py) out of the Statement's table words and the real class files: 14 classes; the members and pool entries that the words name. The judged class is class 1, her method 1. -/
namespace start1
open Jvm.ClassFile
def u (s : String) : CpInfo := .utf8 (stringToUtf16 s)
/-- a pool by its gaps: so many unusable entries, then the entry; so many at the end -/
def gap : Nat → List CpInfo → List CpInfo
  | 0, r => r
  | n + 1, r => .unusable :: gap n r
def poolList (es : List (Nat × CpInfo)) (last : Nat) : List CpInfo := es.foldr (fun e r => gap e.1 (e.2 :: r)) (gap last [])
def pool (es : List (Nat × CpInfo)) (last : Nat) : Array CpInfo := ⟨poolList es last⟩
def fileOf (pool : Array CpInfo) (this : Nat) (attrs : Array Attribute := #[]) (ms : Array MethodInfo := #[]) (fl : Nat := 33) (sup : Nat := 0) (ifs : Array Nat := #[]) (fds : Array FieldInfo := #[]) : ClassFile where
  minorVersion := 0
  majorVersion := 65
  constantPool := pool
  accessFlags := fl
  thisClass := this
  superClass := sup
  interfaces := ifs
  fields := fds
  methods := ms
  attributes := attrs
def plain (name : String) (sup : Option ClassId) : Class where
  name := name
  kind := .ordinary
  loader := none
  accessFlags := 33
  super := sup
  interfaces := #[]
  cf := none
  fields := #[]
  methods := #[]
  instanceTypes := #[]
  staticTypes := #[]
  resolved := #[]
  callSites := []
  init := .initialized
  statics := none
  mirror := none

def pool0 : Array CpInfo := pool [(5, u "<init>"), (0, u "()V"), (1, .class_ 10), (1, u "java/lang/Object")] 113

def k0m0 : Method := { name := "<init>", desc := "()V", sig := { parameters := [], returnType := none }, accessFlags := 1, code := none }
/-- java/lang/Object -/
def k0 : Class := { plain "java/lang/Object" none with
  accessFlags := 33
  interfaces := #[]
  cf := some (fileOf pool0 8 #[] #[{ accessFlags := 1, nameIndex := 5, descriptorIndex := 6, attributes := #[] }] 33 0 #[] #[])
  fields := #[]
  methods := #[k0m0]
  instanceTypes := #[]
  staticTypes := #[]
  resolved := Array.replicate 124 none
  statics := none }

def pool1 : Array CpInfo := pool [(2, .class_ 4), (1, u "java/lang/Object"), (0, u "<init>"), (0, u "()V"), (2, .long 9223372036854775807), (1, .methodref 12 13), (0, .class_ 14), (0, .nameAndType 15 16), (0, u "com/example/seshat/seshat/util/Keys"), (0, u "bitReversed"), (0, u "(J)J"), (0, .integer 2147483647), (0, .class_ 19), (0, u "com/example/seshat/seshat/util/KeysBitReversedPinLaw"), (2, u "law"), (0, u "(JI)Z")] 3

def k1m0 : Method := { name := "<init>", desc := "()V", sig := { parameters := [], returnType := none }, accessFlags := 2, code := none }
def k1c1 : Code := { maxStack := 4, maxLocals := 12, code := code, exceptionTable := #[], attributes := #[] }
def k1m1 : Method := { name := "law", desc := "(JI)Z", sig := { parameters := [.long, .int], returnType := some .boolean }, accessFlags := 9, code := some k1c1 }
/-- com/example/seshat/seshat/util/KeysBitReversedPinLaw -/
def k1 : Class := { plain "com/example/seshat/seshat/util/KeysBitReversedPinLaw" (some 0) with
  accessFlags := 49
  interfaces := #[]
  cf := some (fileOf pool1 18 #[] #[{ accessFlags := 2, nameIndex := 5, descriptorIndex := 6, attributes := #[] }, { accessFlags := 9, nameIndex := 22, descriptorIndex := 23, attributes := #[] }] 49 2 #[] #[])
  fields := #[]
  methods := #[k1m0, k1m1]
  instanceTypes := #[]
  staticTypes := #[]
  resolved := Array.replicate 27 none
  statics := none }

def pool2 : Array CpInfo := pool [(2, .class_ 4), (1, u "java/lang/Object"), (0, u "<init>"), (0, u "()V"), (9, .methodref 17 18), (0, .class_ 19), (0, .nameAndType 20 21), (0, u "java/lang/Long"), (0, u "reverse"), (0, u "(J)J"), (28, .class_ 51), (0, u "com/example/seshat/seshat/util/Keys"), (2, u "bitReversed")] 22

def k2m0 : Method := { name := "<init>", desc := "()V", sig := { parameters := [], returnType := none }, accessFlags := 2, code := none }
def k2c1 : Code := { maxStack := 4, maxLocals := 2, code := prog_37_method_2_code, exceptionTable := #[], attributes := #[] }
def k2m1 : Method := { name := "bitReversed", desc := "(J)J", sig := { parameters := [.long], returnType := some .long }, accessFlags := 9, code := some k2c1 }
/-- com/example/seshat/seshat/util/Keys -/
def k2 : Class := { plain "com/example/seshat/seshat/util/Keys" (some 0) with
  accessFlags := 33
  interfaces := #[]
  cf := some (fileOf pool2 50 #[] #[{ accessFlags := 2, nameIndex := 5, descriptorIndex := 6, attributes := #[] }, { accessFlags := 9, nameIndex := 54, descriptorIndex := 21, attributes := #[] }] 33 2 #[] #[])
  fields := #[]
  methods := #[k2m0, k2m1]
  instanceTypes := #[]
  staticTypes := #[]
  resolved := Array.replicate 77 none
  statics := none }

def pool3 : Array CpInfo := pool [(1, .class_ 2), (0, u "java/io/Serializable"), (0, .class_ 4), (0, u "java/lang/Object")] 2

/-- java/io/Serializable -/
def k3 : Class := { plain "java/io/Serializable" (some 0) with
  accessFlags := 1537
  interfaces := #[]
  cf := some (fileOf pool3 1 #[] #[] 1537 3 #[] #[])
  fields := #[]
  methods := #[]
  instanceTypes := #[]
  staticTypes := #[]
  resolved := Array.replicate 7 none
  statics := none }

def pool4 : Array CpInfo := pool [(2, .class_ 4), (1, u "java/lang/Object"), (0, u "<init>"), (0, u "()V"), (1, .class_ 10), (1, u "java/lang/Number"), (2, .class_ 14), (0, u "java/io/Serializable"), (0, u "serialVersionUID"), (0, u "J")] 20

def k4m0 : Method := { name := "<init>", desc := "()V", sig := { parameters := [], returnType := none }, accessFlags := 1, code := none }
/-- java/lang/Number -/
def k4 : Class := { plain "java/lang/Number" (some 0) with
  accessFlags := 1057
  interfaces := #[3]
  cf := some (fileOf pool4 8 #[] #[{ accessFlags := 1, nameIndex := 5, descriptorIndex := 6, attributes := #[] }] 1057 2 #[13] #[{ accessFlags := 26, nameIndex := 15, descriptorIndex := 16, attributes := #[] }])
  fields := #[{ name := "serialVersionUID", type := .long, accessFlags := 26, slot := 0, constantValue := 0 }]
  methods := #[k4m0]
  instanceTypes := #[]
  staticTypes := #[.long]
  resolved := Array.replicate 37 none
  statics := none }

def pool5 : Array CpInfo := pool [(1, .class_ 2), (0, u "java/lang/Comparable"), (0, .class_ 4), (0, u "java/lang/Object")] 7

/-- java/lang/Comparable -/
def k5 : Class := { plain "java/lang/Comparable" (some 0) with
  accessFlags := 1537
  interfaces := #[]
  cf := some (fileOf pool5 1 #[] #[] 1537 3 #[] #[])
  fields := #[]
  methods := #[]
  instanceTypes := #[]
  staticTypes := #[]
  resolved := Array.replicate 12 none
  statics := none }

def pool6 : Array CpInfo := pool [(1, .class_ 2), (0, u "java/lang/constant/Constable"), (0, .class_ 4), (0, u "java/lang/Object")] 6

/-- java/lang/constant/Constable -/
def k6 : Class := { plain "java/lang/constant/Constable" (some 0) with
  accessFlags := 1537
  interfaces := #[]
  cf := some (fileOf pool6 1 #[] #[] 1537 3 #[] #[])
  fields := #[]
  methods := #[]
  instanceTypes := #[]
  staticTypes := #[]
  resolved := Array.replicate 11 none
  statics := none }

def pool7 : Array CpInfo := pool [(1, .class_ 2), (0, u "java/lang/constant/ConstantDesc"), (0, .class_ 4), (0, u "java/lang/Object")] 32

/-- java/lang/constant/ConstantDesc -/
def k7 : Class := { plain "java/lang/constant/ConstantDesc" (some 0) with
  accessFlags := 1537
  interfaces := #[]
  cf := some (fileOf pool7 1 #[] #[] 1537 3 #[] #[])
  fields := #[]
  methods := #[]
  instanceTypes := #[]
  staticTypes := #[]
  resolved := Array.replicate 37 none
  statics := none }

def pool8 : Array CpInfo := pool [(1, .class_ 2), (0, u "java/lang/Long"), (232, .class_ 237), (1, u "java/lang/Long$LongCache"), (33, .class_ 272), (0, u "java/lang/Number"), (2, u "value"), (0, u "J"), (37, .long 6148914691236517205), (1, .long 3689348814741910323), (1, .long 1085102592571150095), (1, .methodref 1 321), (0, .nameAndType 322 323), (0, u "reverseBytes"), (0, u "(J)J"), (3, .long 71777214294589695), (1, .long 4294901760), (31, u "TYPE"), (0, u "Ljava/lang/Class;"), (0, .class_ 364), (0, u "java/lang/Comparable"), (0, .class_ 366), (0, u "java/lang/constant/Constable"), (0, .class_ 368), (0, u "java/lang/constant/ConstantDesc"), (0, u "MIN_VALUE"), (1, u "MAX_VALUE"), (4, u "SIZE"), (0, u "I"), (1, u "BYTES"), (1, u "serialVersionUID"), (99, u "reverse")] 42

def k8c0 : Code := { maxStack := 6, maxLocals := 2, code := jdk_35_method_53_code, exceptionTable := #[], attributes := #[] }
def k8m0 : Method := { name := "reverse", desc := "(J)J", sig := { parameters := [.long], returnType := some .long }, accessFlags := 9, code := some k8c0 }
def k8c1 : Code := { maxStack := 6, maxLocals := 2, code := jdk_35_method_58_code, exceptionTable := #[], attributes := #[] }
def k8m1 : Method := { name := "reverseBytes", desc := "(J)J", sig := { parameters := [.long], returnType := some .long }, accessFlags := 9, code := some k8c1 }
/-- java/lang/Long -/
def k8 : Class := { plain "java/lang/Long" (some 4) with
  accessFlags := 49
  interfaces := #[5, 6, 7]
  cf := some (fileOf pool8 1 #[.nestMembers #[235]] #[{ accessFlags := 9, nameIndex := 481, descriptorIndex := 323, attributes := #[] }, { accessFlags := 9, nameIndex := 322, descriptorIndex := 323, attributes := #[] }] 49 271 #[363, 365, 367] #[{ accessFlags := 25, nameIndex := 369, descriptorIndex := 276, attributes := #[] }, { accessFlags := 25, nameIndex := 371, descriptorIndex := 276, attributes := #[] }, { accessFlags := 25, nameIndex := 361, descriptorIndex := 362, attributes := #[] }, { accessFlags := 18, nameIndex := 275, descriptorIndex := 276, attributes := #[] }, { accessFlags := 25, nameIndex := 376, descriptorIndex := 377, attributes := #[] }, { accessFlags := 25, nameIndex := 379, descriptorIndex := 377, attributes := #[] }, { accessFlags := 26, nameIndex := 381, descriptorIndex := 276, attributes := #[] }])
  fields := #[{ name := "MIN_VALUE", type := .long, accessFlags := 25, slot := 0, constantValue := 0 }, { name := "MAX_VALUE", type := .long, accessFlags := 25, slot := 1, constantValue := 0 }, { name := "TYPE", type := (.object "java/lang/Class"), accessFlags := 25, slot := 2, constantValue := 0 }, { name := "value", type := .long, accessFlags := 18, slot := 0, constantValue := 0 }, { name := "SIZE", type := .int, accessFlags := 25, slot := 3, constantValue := 0 }, { name := "BYTES", type := .int, accessFlags := 25, slot := 4, constantValue := 0 }, { name := "serialVersionUID", type := .long, accessFlags := 26, slot := 5, constantValue := 0 }]
  methods := #[k8m0, k8m1]
  instanceTypes := #[.long]
  staticTypes := #[.long, .long, (.object "java/lang/Class"), .int, .int, .long]
  resolved := Array.replicate 524 none
  statics := none }

def pool9 : Array CpInfo := pool [(1, u "java/lang/Cloneable"), (0, .class_ 1), (0, u "java/lang/Object"), (0, .class_ 3)] 3

/-- java/lang/Cloneable -/
def k9 : Class := { plain "java/lang/Cloneable" (some 0) with
  accessFlags := 1537
  interfaces := #[]
  cf := some (fileOf pool9 2 #[] #[] 1537 4 #[] #[])
  fields := #[]
  methods := #[]
  instanceTypes := #[]
  staticTypes := #[]
  resolved := Array.replicate 8 none
  statics := none }

/-- the primitive byte -/
def k10 : Class := { plain "byte" none with kind := .primitive 'B', accessFlags := 0x411 }
/-- [B -/
def k11 : Class := { plain "[B" (some 0) with kind := .array 10 .byte, interfaces := #[9, 3], accessFlags := 1041 }

/-- the primitive int -/
def k12 : Class := { plain "int" none with kind := .primitive 'I', accessFlags := 0x411 }
/-- [I -/
def k13 : Class := { plain "[I" (some 0) with kind := .array 12 .int, interfaces := #[9, 3], accessFlags := 1041 }

def heap : Heap := #[]
def classes : Array Class := #[k0, k1, k2, k3, k4, k5, k6, k7, k8, k9, k10, k11, k12, k13]
def interned : List (Array UInt16 × Addr) := []
def slotsUsed : Nat := 0
def theMethod : MethodId := ⟨1, 1⟩
def args0 : Array Value := #[.long 5, .int 7]
def aboutOver (below : List Frame) : State where
  vm := { classes := classes, interned := interned.toArray }
  heap := heap
  slotsUsed := slotsUsed
  threads := #[{ frames := .invoking theMethod args0 :: below }]
def below0 : List Frame := [.native { method := ⟨0, 0⟩, args := #[] }]
def about1 : State := aboutOver below0
def p0 : Program := .bare "" "" ""
def e0 : Env := launch0.env 0 0 0
theorem w_frames : about1.frames = Frame.invoking theMethod args0 :: below0 := rfl
set_option maxRecDepth 65536 in
theorem w_args : argsFit about1.vm theMethod args0 = true := by decide +kernel
set_option maxRecDepth 65536 in
theorem w_heap : heapFits about1 = true := by decide +kernel
set_option maxRecDepth 65536 in
theorem w_runnable : about1.curStatus? = some .runnable := by decide +kernel
set_option maxRecDepth 65536 in
theorem w_alone : about1.alone = true := by decide +kernel
set_option maxRecDepth 65536 in
theorem w_named : about1.methodNamed? x = some theMethod := by decide +kernel
set_option maxRecDepth 65536 in
theorem w_hears : about1.hears theMethod below0 = true := by decide +kernel
set_option maxRecDepth 65536 in
theorem w_ripe : about1.ripe theMethod args0 below0 = true := by decide +kernel
theorem w_running : about1.status = .running := rfl
set_option maxRecDepth 65536 in
theorem w_room : about1.hasRoom e0.platform room_1 = true :=
  launch0.hasRoom_least _ room_1 (by decide +kernel) (by decide +kernel) (by decide +kernel) (by decide +kernel) (by decide +kernel) (by decide +kernel)
theorem allAtoms_all (ts : List Jvm.Cond) (a : Array Jvm.Value) (st : Jvm.State) : (allAtoms ts).before a st = ts.all (fun c => c.before a st) := by
  induction ts with
  | nil => rfl
  | cons c t ih =>
    show (Jvm.Cond.and c (allAtoms t)).before a st = _
    rw [Jvm.Cond.before_and, ih, List.all_cons]
def words1 : List Jvm.Cond := Jvm.Cond.code x code maxLocals ret :: tables_1
/-- a 'code' word, met by the world's own term for the bytes: nothing is compared byte by byte -/
theorem code_word {y : MethodName} {bytes : ByteArray} {mx : Nat} {rt : Option FieldType} {a : Array Value} {s : State} {m : MethodId} {meth : Method} {c : Code} (h1 : s.methodNamed? y = some m) (h2 : s.vm.method? m = some meth) (h3 : meth.code = some c) (h4 : c.code = bytes)
    (h5 : (c.maxLocals == mx && c.exceptionTable.isEmpty && decide (c.maxStack ≤ mostOperands) && decide (meth.sig.returnType = rt) && !meth.locks && decide (parseMethodDescriptor y.desc = some meth.sig)) = true) : (Jvm.Cond.code y bytes mx rt).before a s = true := by
  simp only [Bool.and_eq_true, beq_iff_eq, Bool.not_eq_true', decide_eq_true_eq] at h5
  obtain ⟨⟨⟨⟨⟨g1, g2⟩, g3⟩, g4⟩, g5⟩, g6⟩ := h5
  simp [Cond.before, Cond.holds, Cond.value, h1, h2, h3, h4, g1, g2, g3, g4, g5, g6]
def isCode : Jvm.Cond → Bool
  | .code _ _ _ _ => true
  | _ => false
theorem all_split {L : List Jvm.Cond} {P : Jvm.Cond → Bool} (h1 : L.all (fun c => isCode c || P c) = true) (h2 : ∀ c ∈ L.filter isCode, P c = true) : L.all P = true := by
  refine List.all_eq_true.mpr fun c hc => ?_
  have h := List.all_eq_true.mp h1 c hc
  rcases Bool.eq_false_or_eq_true (isCode c) with hi | hi
  · exact h2 c (List.mem_filter.mpr ⟨hc, hi⟩)
  · simpa [hi] using h
set_option maxRecDepth 65536 in
theorem w_c0 : (Jvm.Cond.code x code maxLocals ret).before args0 about1 = true := code_word (m := ⟨1, 1⟩) (meth := k1m1) (c := k1c1) (by decide +kernel) rfl rfl rfl (by decide +kernel)
set_option maxRecDepth 65536 in
theorem w_c1 : (Jvm.Cond.code ({ cls := "com/example/seshat/seshat/util/Keys", name := "bitReversed", desc := "(J)J" } : Jvm.MethodName) prog_37_method_2_code (2 : Nat) (Option.some Jvm.ClassFile.FieldType.long)).before args0 about1 = true := code_word (m := ⟨2, 1⟩) (meth := k2m1) (c := k2c1) (by decide +kernel) rfl rfl rfl (by decide +kernel)
set_option maxRecDepth 65536 in
theorem w_c2 : (Jvm.Cond.code ({ cls := "java/lang/Long", name := "reverse", desc := "(J)J" } : Jvm.MethodName) jdk_35_method_53_code (2 : Nat) (Option.some Jvm.ClassFile.FieldType.long)).before args0 about1 = true := code_word (m := ⟨8, 0⟩) (meth := k8m0) (c := k8c0) (by decide +kernel) rfl rfl rfl (by decide +kernel)
set_option maxRecDepth 65536 in
theorem w_c3 : (Jvm.Cond.code ({ cls := "java/lang/Long", name := "reverseBytes", desc := "(J)J" } : Jvm.MethodName) jdk_35_method_58_code (2 : Nat) (Option.some Jvm.ClassFile.FieldType.long)).before args0 about1 = true := code_word (m := ⟨8, 1⟩) (meth := k8m1) (c := k8c1) (by decide +kernel) rfl rfl rfl (by decide +kernel)
def codes1 : List Jvm.Cond := [Jvm.Cond.code x code maxLocals ret, Jvm.Cond.code ({ cls := "com/example/seshat/seshat/util/Keys", name := "bitReversed", desc := "(J)J" } : Jvm.MethodName) prog_37_method_2_code (2 : Nat) (Option.some Jvm.ClassFile.FieldType.long), Jvm.Cond.code ({ cls := "java/lang/Long", name := "reverse", desc := "(J)J" } : Jvm.MethodName) jdk_35_method_53_code (2 : Nat) (Option.some Jvm.ClassFile.FieldType.long), Jvm.Cond.code ({ cls := "java/lang/Long", name := "reverseBytes", desc := "(J)J" } : Jvm.MethodName) jdk_35_method_58_code (2 : Nat) (Option.some Jvm.ClassFile.FieldType.long)]
set_option maxRecDepth 65536 in
theorem codes_eq : words1.filter isCode = codes1 := rfl
theorem w_codes : ∀ c ∈ words1.filter isCode, c.before args0 about1 = true := by
  rw [codes_eq]
  intro c hc
  simp only [codes1, List.mem_cons, List.not_mem_nil, or_false] at hc
  rcases hc with rfl | rfl | rfl | rfl
  · exact w_c0
  · exact w_c1
  · exact w_c2
  · exact w_c3
set_option maxRecDepth 65536 in
theorem w_t1 : words1.all (fun c => isCode c || c.before args0 about1) = true := by decide +kernel
theorem w_tables : (allAtoms (Jvm.Cond.code x code maxLocals ret :: tables_1)).before args0 about1 = true := by
  rw [allAtoms_all]
  show words1.all (fun c => c.before args0 about1) = true
  refine all_split ?_ w_codes
  rw [w_t1]
set_option maxRecDepth 65536 in
theorem w_case : (Jvm.Cond.and given_1 narrow_1).before args0 about1 = true := by decide +kernel
theorem w_applies : (headSpec (Jvm.Cond.code x code maxLocals ret :: tables_1) room_1).applies x e0.platform about1 = true :=
  (Spec.applies_iff w_frames).mpr ⟨w_running, w_runnable, w_alone, w_named, w_hears, w_ripe, w_room, w_tables⟩
theorem atStart : AtStart classFile x code maxLocals ret World_1 tables_1 room_1 Calls_1 rest_1 Pre_1 launch0 p0 e0 about1 theMethod args0 below0 :=
  ⟨lists_1, trivial, launch0.admits_env _ _ _, launch0.least_env, fairChoices_fair.cas, fairChoices_fair.clock, w_frames, w_args, w_heap, w_applies, trivial, trivial, w_case⟩
end start1
theorem witness_1 : WitnessClaimed_1 := ⟨start1.p0, start1.e0, start1.about1, start1.theMethod, start1.args0, start1.below0, start1.atStart⟩
end Jvm.Pilot.@@N@@
