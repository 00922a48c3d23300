import JvmDerived
import JvmDerived.Pilot.@@N@@Statement
import JvmDerived.Pilot.@@N@@Code
set_option linter.unusedVariables false
set_option linter.unusedSimpArgs false
namespace Jvm.Pilot.@@N@@
open Jvm Jvm.ClassFile Sem Op Lib Jvm.Free Jvm.Stand Jvm.LawKit Jvm.RoadKit Bundle Jvm.Pilot.@@N@@.Jvm.D
/-- the body's goal from a state on -/
def Go (p : Program) (e : Env) (below : List Frame) (P : Outcome → State → Prop) (U : State) : Prop :=
  ∃ s₂ o, Steps p.tables e below U s₂ ∧ s₂.status = .running ∧ Ended s₂ below o ∧ P o s₂
/-- the unsigned shifts, the remainders -/
def uI (x y : Int32) : Int32 := (x.toUInt32 >>> (y &&& 31).toUInt32).toInt32
def uL (x : Int64) (y : Int32) : Int64 := (x.toUInt64 >>> (y &&& 0x3f).toInt64.toUInt64).toInt64
def sL (x : Int64) (y : Int32) : Int64 := x >>> (y &&& 0x3f).toInt64
def lL (x : Int64) (y : Int32) : Int64 := x <<< (y &&& 0x3f).toInt64
section Own
variable {p : Program} {l : Launch} {e : Env} {R : Room} {s : State} {m : MethodId} {args : Array Value} {below : List Frame} {meth : Method} {c : Code} {T : State} {locs : List Loc} {cells slots : Nat} {P : Outcome → State → Prop} {pc pc' : Nat} {L L' : Array Slot} {S : List Value} {Z : State} {a0 : Array Value} {h : Heap}
theorem Go.via {U U' : State} (q : ∀ t, Steps p.tables e below U' t → Steps p.tables e below U t) (k : Go p e below P U') : Go p e below P U := by
  obtain ⟨s₂, o, h1, h2⟩ := k
  exact ⟨s₂, o, q _ h1, h2⟩
theorem Go.tr {U U' : State} (q : Steps p.tables e below U U') (k : Go p e below P U') : Go p e below P U := k.via fun _ h => q.trans h
theorem o_iload (X : Stand p l e R s m args below meth c T locs cells slots) (hx : p.tables.exec = Jvm.exec) {k : Nat} {v : Int32} (hd : decode c.code pc = .ok (.iload k, 2)) (hp : pc + 2 = pc') (hl : L[k]? = some (.val (.int v))) (K : Go p e below P (T.setTop (mkF m pc' L (.int v :: S)))) : Go p e below P (T.setTop (mkF m pc L (S))) := by
  subst hp; exact K.via fun t k => XS.iload X.here hx rfl hd hl k
theorem o_iloadN (X : Stand p l e R s m args below meth c T locs cells slots) (hx : p.tables.exec = Jvm.exec) {k : Fin 4} {v : Int32} (hd : decode c.code pc = .ok (.iload_n k, 1)) (hp : pc + 1 = pc') (hl : L[k.val]? = some (.val (.int v))) (K : Go p e below P (T.setTop (mkF m pc' L (.int v :: S)))) : Go p e below P (T.setTop (mkF m pc L (S))) := by
  subst hp; exact K.via fun t k => XS.iloadN X.here hx rfl hd hl k
theorem o_lloadN (X : Stand p l e R s m args below meth c T locs cells slots) (hx : p.tables.exec = Jvm.exec) {k : Fin 4} {v : Int64} (hd : decode c.code pc = .ok (.lload_n k, 1)) (hp : pc + 1 = pc') (hl : L[k.val]? = some (.val (.long v))) (K : Go p e below P (T.setTop (mkF m pc' L (.long v :: S)))) : Go p e below P (T.setTop (mkF m pc L (S))) := by
  subst hp; exact K.via fun t k => XS.lloadN X.here hx rfl hd hl k
theorem o_aloadN (X : Stand p l e R s m args below meth c T locs cells slots) (hx : p.tables.exec = Jvm.exec) {k : Fin 4} {v : Value} (hd : decode c.code pc = .ok (.aload_n k, 1)) (hp : pc + 1 = pc') (hl : L[k.val]? = some (.val v)) (hv : v.isRef = true) (K : Go p e below P (T.setTop (mkF m pc' L (v :: S)))) : Go p e below P (T.setTop (mkF m pc L (S))) := by
  subst hp; exact K.via fun t k => XS.aloadN X.here hx rfl hd hl hv k
theorem o_istore (X : Stand p l e R s m args below meth c T locs cells slots) (hx : p.tables.exec = Jvm.exec) {k : Nat} {x : Int32} (hd : decode c.code pc = .ok (.istore k, 2)) (hp : pc + 2 = pc') (hl : storeLocals L k (.int x) = some L') (K : Go p e below P (T.setTop (mkF m pc' L' (S)))) : Go p e below P (T.setTop (mkF m pc L (.int x :: S))) := by
  subst hp; exact K.via fun t k => XS.istore X.here hx rfl hd rfl hl k
theorem o_istoreN (X : Stand p l e R s m args below meth c T locs cells slots) (hx : p.tables.exec = Jvm.exec) {k : Fin 4} {x : Int32} (hd : decode c.code pc = .ok (.istore_n k, 1)) (hp : pc + 1 = pc') (hl : storeLocals L k.val (.int x) = some L') (K : Go p e below P (T.setTop (mkF m pc' L' (S)))) : Go p e below P (T.setTop (mkF m pc L (.int x :: S))) := by
  subst hp; exact K.via fun t k => XS.istoreN X.here hx rfl hd rfl hl k
theorem o_lstoreN (X : Stand p l e R s m args below meth c T locs cells slots) (hx : p.tables.exec = Jvm.exec) {k : Fin 4} {x : Int64} (hd : decode c.code pc = .ok (.lstore_n k, 1)) (hp : pc + 1 = pc') (hl : storeLocals L k.val (.long x) = some L') (K : Go p e below P (T.setTop (mkF m pc' L' (S)))) : Go p e below P (T.setTop (mkF m pc L (.long x :: S))) := by
  subst hp; exact K.via fun t k => XS.lstoreN X.here hx rfl hd rfl hl k
theorem o_astoreN (X : Stand p l e R s m args below meth c T locs cells slots) (hx : p.tables.exec = Jvm.exec) {k : Fin 4} {x : Value} (hd : decode c.code pc = .ok (.astore_n k, 1)) (hp : pc + 1 = pc') (hv : x.isRef = true) (hl : storeLocals L k.val x = some L') (K : Go p e below P (T.setTop (mkF m pc' L' (S)))) : Go p e below P (T.setTop (mkF m pc L (x :: S))) := by
  subst hp; exact K.via fun t k => XS.astoreN X.here hx rfl hd rfl hv hl k
theorem o_iconst (X : Stand p l e R s m args below meth c T locs cells slots) (hx : p.tables.exec = Jvm.exec) {i : Int} (v : Int32) (hd : decode c.code pc = .ok (.iconst i, 1)) (hp : pc + 1 = pc') (hv : Int32.ofInt i = v) (K : Go p e below P (T.setTop (mkF m pc' L (.int v :: S)))) : Go p e below P (T.setTop (mkF m pc L (S))) := by
  subst hp; exact K.via fun t k => XS.iconst X.here hx rfl hd (hv ▸ k)
theorem o_bipush (X : Stand p l e R s m args below meth c T locs cells slots) (hx : p.tables.exec = Jvm.exec) {i : Int} (v : Int32) (hd : decode c.code pc = .ok (.bipush i, 2)) (hp : pc + 2 = pc') (hv : (Int8.ofInt i).toInt32 = v) (K : Go p e below P (T.setTop (mkF m pc' L (.int v :: S)))) : Go p e below P (T.setTop (mkF m pc L (S))) := by
  subst hp; exact K.via fun t k => XS.bipush X.here hx rfl hd (hv ▸ k)
theorem o_sipush (X : Stand p l e R s m args below meth c T locs cells slots) (hx : p.tables.exec = Jvm.exec) {i : Int} (v : Int32) (hd : decode c.code pc = .ok (.sipush i, 3)) (hp : pc + 3 = pc') (hv : (Int16.ofInt i).toInt32 = v) (K : Go p e below P (T.setTop (mkF m pc' L (.int v :: S)))) : Go p e below P (T.setTop (mkF m pc L (S))) := by
  subst hp; exact K.via fun t k => XS.sipush X.here hx rfl hd (hv ▸ k)
theorem o_lconst (X : Stand p l e R s m args below meth c T locs cells slots) (hx : p.tables.exec = Jvm.exec) {i : Fin 2} (v : Int64) (hd : decode c.code pc = .ok (.lconst i, 1)) (hp : pc + 1 = pc') (hv : Int64.ofNat i = v) (K : Go p e below P (T.setTop (mkF m pc' L (.long v :: S)))) : Go p e below P (T.setTop (mkF m pc L (S))) := by
  subst hp; exact K.via fun t k => XS.lconst X.here hx rfl hd (hv ▸ k)
theorem o_iand (X : Stand p l e R s m args below meth c T locs cells slots) (hx : p.tables.exec = Jvm.exec) {x y : Int32} (hd : decode c.code pc = .ok (.iand, 1)) (hp : pc + 1 = pc')  (K : Go p e below P (T.setTop (mkF m pc' L (.int (x &&& y) :: S)))) : Go p e below P (T.setTop (mkF m pc L (.int y :: .int x :: S))) := by
  subst hp; exact K.via fun t k => XS.iand X.here hx rfl hd rfl k
theorem o_land (X : Stand p l e R s m args below meth c T locs cells slots) (hx : p.tables.exec = Jvm.exec) {x y : Int64} (hd : decode c.code pc = .ok (.land, 1)) (hp : pc + 1 = pc')  (K : Go p e below P (T.setTop (mkF m pc' L (.long (x &&& y) :: S)))) : Go p e below P (T.setTop (mkF m pc L (.long y :: .long x :: S))) := by
  subst hp; exact K.via fun t k => XS.land X.here hx rfl hd rfl k
theorem o_lushr (X : Stand p l e R s m args below meth c T locs cells slots) (hx : p.tables.exec = Jvm.exec) {x : Int64} {y : Int32} (hd : decode c.code pc = .ok (.lushr, 1)) (hp : pc + 1 = pc')  (K : Go p e below P (T.setTop (mkF m pc' L (.long (uL x y) :: S)))) : Go p e below P (T.setTop (mkF m pc L (.int y :: .long x :: S))) := by
  subst hp; exact K.via fun t k => XS.lushr X.here hx rfl hd rfl k
theorem o_dup (X : Stand p l e R s m args below meth c T locs cells slots) (hx : p.tables.exec = Jvm.exec) {x : Value} (hd : decode c.code pc = .ok (.dup, 1)) (hp : pc + 1 = pc') (hc : x.category = 1) (K : Go p e below P (T.setTop (mkF m pc' L (x :: x :: S)))) : Go p e below P (T.setTop (mkF m pc L (x :: S))) := by
  subst hp; exact K.via fun t k => XS.dup X.here hx rfl hd rfl hc k
theorem o_goto (X : Stand p l e R s m args below meth c T locs cells slots) (hx : p.tables.exec = Jvm.exec) {o : Int} (hd : decode c.code pc = .ok (.goto o, 3)) (ho : 0 ≤ (pc : Int) + o) (hp : ((pc : Int) + o).toNat = pc') (K : Go p e below P (T.setTop (mkF m pc' L S))) : Go p e below P (T.setTop (mkF m pc L S)) :=
  K.via fun t k => XS.goto X.here hx rfl rfl hd ho hp k
theorem o_ifY (X : Stand p l e R s m args below meth c T locs cells slots) (hx : p.tables.exec = Jvm.exec) {cd : ClassFile.Cond} {x : Int32} {o : Int} (hd : decode c.code pc = .ok (.ifCond cd o, 3)) (hc : if_icmp.holds cd x 0 = true) (ho : 0 ≤ (pc : Int) + o) (hp : ((pc : Int) + o).toNat = pc') (K : Go p e below P (T.setTop (mkF m pc' L S))) : Go p e below P (T.setTop (mkF m pc L (.int x :: S))) :=
  K.via fun t k => XS.ifYes X.here hx rfl rfl hd rfl ((if0 _ _).trans hc) ho hp k
theorem o_ifN (X : Stand p l e R s m args below meth c T locs cells slots) (hx : p.tables.exec = Jvm.exec) {cd : ClassFile.Cond} {x : Int32} {o : Int} (hd : decode c.code pc = .ok (.ifCond cd o, 3)) (hc : if_icmp.holds cd x 0 = false) (hp : pc + 3 = pc') (K : Go p e below P (T.setTop (mkF m pc' L S))) : Go p e below P (T.setTop (mkF m pc L (.int x :: S))) := by
  subst hp; exact K.via fun t k => XS.ifNo X.here hx rfl hd rfl ((if0 _ _).trans hc) k
theorem o_cmpY (X : Stand p l e R s m args below meth c T locs cells slots) (hx : p.tables.exec = Jvm.exec) {cd : ClassFile.Cond} {x y : Int32} {o : Int} (hd : decode c.code pc = .ok (.if_icmp cd o, 3)) (hc : if_icmp.holds cd x y = true) (ho : 0 ≤ (pc : Int) + o) (hp : ((pc : Int) + o).toNat = pc') (K : Go p e below P (T.setTop (mkF m pc' L S))) : Go p e below P (T.setTop (mkF m pc L (.int y :: .int x :: S))) :=
  K.via fun t k => XS.icmpYes X.here hx rfl rfl hd rfl hc ho hp k
theorem o_cmpN (X : Stand p l e R s m args below meth c T locs cells slots) (hx : p.tables.exec = Jvm.exec) {cd : ClassFile.Cond} {x y : Int32} {o : Int} (hd : decode c.code pc = .ok (.if_icmp cd o, 3)) (hc : if_icmp.holds cd x y = false) (hp : pc + 3 = pc') (K : Go p e below P (T.setTop (mkF m pc' L S))) : Go p e below P (T.setTop (mkF m pc L (.int y :: .int x :: S))) := by
  subst hp; exact K.via fun t k => XS.icmpNo X.here hx rfl hd rfl hc k
theorem o_lcmp (X : Stand p l e R s m args below meth c T locs cells slots) (hx : p.tables.exec = Jvm.exec) {x y : Int64} (hd : decode c.code pc = .ok (.lcmp, 1)) (hp : pc + 1 = pc') (K : Go p e below P (T.setTop (mkF m pc' L (.int (lcmpW x y) :: S)))) : Go p e below P (T.setTop (mkF m pc L (.long y :: .long x :: S))) := by
  subst hp; exact K.via fun t k => XS.lcmp X.here hx rfl hd rfl k
theorem tltL {x y : Int64} (q : x < y) : if_icmp.holds .lt (lcmpW x y) 0 = true ∧ if_icmp.holds .ge (lcmpW x y) 0 = false ∧ if_icmp.holds .gt (lcmpW y x) 0 = true ∧ if_icmp.holds .le (lcmpW y x) 0 = false :=
  ⟨(tlt ((lw_lt x y).mpr q)).1, (tlt ((lw_lt x y).mpr q)).2.1, (tlt ((lw_gt y x).mpr q)).2.2.1, (tlt ((lw_gt y x).mpr q)).2.2.2⟩
theorem fltL {x y : Int64} (q : ¬ x < y) : if_icmp.holds .lt (lcmpW x y) 0 = false ∧ if_icmp.holds .ge (lcmpW x y) 0 = true ∧ if_icmp.holds .gt (lcmpW y x) 0 = false ∧ if_icmp.holds .le (lcmpW y x) 0 = true :=
  ⟨(flt (mt (lw_lt x y).mp q)).1, (flt (mt (lw_lt x y).mp q)).2.1, (flt (mt (lw_gt y x).mp q)).2.2.1, (flt (mt (lw_gt y x).mp q)).2.2.2⟩
theorem teqL {x y : Int64} (q : x = y) : if_icmp.holds .eq (lcmpW x y) 0 = true ∧ if_icmp.holds .ne (lcmpW x y) 0 = false := teq ((lw_eq x y).mpr q)
theorem feqL {x y : Int64} (q : ¬ x = y) : if_icmp.holds .eq (lcmpW x y) 0 = false ∧ if_icmp.holds .ne (lcmpW x y) 0 = true := feq (mt (lw_eq x y).mp q)
theorem o_ldcJ (X : Stand p l e R s m args below meth c T locs cells slots) (hx : p.tables.exec = Jvm.exec) (hZ : Z.Warmed39 s.vm) {own : String} {index : Nat} (v : Int64) (hown : s.vm.findClass own = some m.cls) (w : (Cond.constantLong own index v).before a0 Z = true) (hd : decode c.code pc = .ok (.ldc2_w index, 3)) (hp : pc + 3 = pc') (K : Go p e below P (T.setTop (mkF m pc' L (.long v :: S)))) : Go p e below P (T.setTop (mkF m pc L S)) := by
  subst hp; exact K.via (X.ldc2Long hx hown (mvT hZ w) (g := mkF m pc L S) rfl hd)
/-- what a body's end owes -/
abbrev Owe (s : State) (Q : Option Value → Heap → List Loc → Prop) (C D : Nat) : Outcome → State → Prop := fun o U' => ∃ v L, o = .returned v ∧ Q v U'.heap L ∧ FrameEnd s o U' L C D
/-- a body's contract -/
abbrev Con (l : Launch) (y : MethodName) (bytes : ByteArray) (ml : Nat) (ret : Option FieldType) (ws : List Jvm.Cond) (rm : Room) (as' : Array Value) (Z : State) (h0 : Heap) (Q : Option Value → Heap → List Loc → Prop) (C D : Nat) : Prop :=
  MetFree l y (head1 (Jvm.Cond.code y bytes ml ret :: ws) rm) (fun b U => b = as' ∧ Z.Warmed39 U.vm ∧ U.heap = h0) (fun _ _ _ _ _ => True) (fun _ U o U' => ∃ v L, o = .returned v ∧ Q v U'.heap L ∧ FrameEnd U o U' L C D)
theorem own_body {y : MethodName} {bytes : ByteArray} {ml : Nat} {ret : Option FieldType} {ws : List Jvm.Cond} {rm : Room} {as' : Array Value} {h0 : Heap} {Q : Option Value → Heap → List Loc → Prop} {C D : Nat} (hpl : plainFor y = true)
    (K : ∀ (p : Program) (e : Env) (s : State) (m : MethodId) (below : List Frame) (meth : Method) (c : Code) (s₁ : State), p.tables.exec = Jvm.exec → c.code = bytes → meth.locks = false → c.maxLocals = ml → s.vm.findClass y.cls = some m.cls → meth.name = y.name → meth.sig.returnType = ret → Z.Warmed39 s.vm →
      Stand p l e rm s m as' below meth c s₁ [] 0 0 → s₁.heap = h0 → Go p e below (Owe s Q C D) (s₁.setTop (entryFrame m as' ml))) : Con l y bytes ml ret ws rm as' Z h0 Q C D := by
  refine MetFree.of_bodySF hpl hisR ?_
  intro p e s m args below meth c s₁ Bd hml0 hP hK
  obtain ⟨rfl, hZ, hh⟩ := hP
  exact K p e s m below meth c s₁ Bd.exec Bd.bytes (BodyLoose.notSynchronized Bd) hml0 (findClass_of_methodNamed Bd.named) (name_of_methodNamed Bd.named Bd.method).1 Bd.returns hZ (Stand.of_body Bd) (by rw [← hh, Bd.state]; rfl)
theorem o_ret (X : Stand p l e R s m args below meth c T locs cells slots) (hx : p.tables.exec = Jvm.exec) {Q : Option Value → Heap → List Loc → Prop} {C D : Nat} {w : Value} {t : FieldType} {i : Instr} (hlocks : meth.locks = false) (hret : meth.sig.returnType = some t) (hn : narrow t w = w)
    (hi : (i = .ireturn ∧ (t = .int ∨ t = .boolean ∨ t = .byte ∨ t = .char ∨ t = .short) ∧ ∃ z, w = .int z) ∨ (i = .lreturn ∧ t = .long ∧ ∃ z, w = .long z) ∨ (i = .dreturn ∧ t = .double ∧ ∃ z, w = .double z) ∨ (i = .freturn ∧ t = .float ∧ ∃ z, w = .float z) ∨ (i = .areturn ∧ t.isReference = true ∧ w.isRef = true))
    (hd : decode c.code pc = .ok (i, 1)) (hc : cells ≤ C) (hs : slots ≤ D) (hq : Q (some w) T.heap locs) : Go p e below (Owe s Q C D) (T.setTop (mkF m pc L (w :: S))) := by
  obtain ⟨fs, hr, hrun, hended, hW, hsame⟩ := X.leave (v := some w) (fun h => by rw [hret] at h; cases h) hlocks
  exact ⟨_, _, retOut X hx hret hn hi hd hr, hrun, hended, _, _, rfl, hq, ⟨_, rfl⟩, hW, hsame.mono hc hs⟩
theorem o_retZ (X : Stand p l e R s m args below meth c T locs cells slots) (hx : p.tables.exec = Jvm.exec) {Q : Option Value → Heap → List Loc → Prop} {C D : Nat} {z : Int32} (hz : narrow .boolean (.int z) = .int z) (hlocks : meth.locks = false) (hret : meth.sig.returnType = some .boolean) (hd : decode c.code pc = .ok (.ireturn, 1)) (hc : cells ≤ C) (hs : slots ≤ D) (hq : Q (some (.int z)) T.heap locs) : Go p e below (Owe s Q C D) (T.setTop (mkF m pc L (.int z :: S))) :=
  o_ret X hx hlocks hret hz (Or.inl ⟨rfl, Or.inr (Or.inl rfl), z, rfl⟩) hd hc hs hq
theorem o_callS (X : Stand p l e R s m args below meth c T locs cells slots) (hx : p.tables.exec = Jvm.exec) (hZ : Z.Warmed39 s.vm) {own : String} {index : Nat} {y : MethodName} {bytes : ByteArray} {maxL : Nat} {ret : Option FieldType} {rm : Room} (W : Nat) {argsL rest : List Value} {Q : Option Value → Heap → List Loc → Prop} {cells' slots' : Nat}
    (hown : s.vm.findClass own = some m.cls) (w1 : (Cond.methodLink own index y).before a0 Z = true) (w2 : (Cond.static y).before a0 Z = true) (w3 : (Cond.initialized y.cls).before a0 Z = true) (w4 : (Cond.code y bytes maxL ret).before a0 Z = true) (hy : y.cls ≠ "java/lang/invoke/MethodHandle" ∧ y.cls ≠ "java/lang/invoke/VarHandle")
    (hM : MetFree l y (head1 [Cond.code y bytes maxL ret] rm) (fun a U => a = argsL.toArray ∧ Z.Warmed39 U.vm ∧ U.heap = h) (fun _ _ _ _ _ => True) (fun _ U o U' => ∃ v L, o = .returned v ∧ Q v U'.heap L ∧ FrameEnd U o U' L rm.cells rm.slots))
    (hf : rm.frames + 1 ≤ R.frames) (hl : W + (maxL + 11) + rm.locals ≤ R.locals) (hcc : cells + rm.cells = cells') (hss : slots + rm.slots = slots') (hc : cells' ≤ R.cells) (hs : slots' ≤ R.slots) (eT : T.heap = h) (hsize : L.size = c.maxLocals) (hlen : ∀ sig, parseMethodDescriptor y.desc = some sig → argsL.length = sig.parameters.length) (hstk : S = argsL.reverse ++ rest)
    (hW : (rest.map fun v => v.category).sum = W) (hd : decode c.code pc = .ok (.invokestatic index, 3)) (hp : pc + 3 = pc') (K : ∀ T' v Lc, Stand p l e R s m args below meth c T' (locs ++ Lc) cells' slots' → Q v T'.heap Lc → Go p e below P (T'.setTop (mkF m pc' L (v.toList ++ rest)))) : Go p e below P (T.setTop (mkF m pc L S)) := by
  subst hp hcc hss
  obtain ⟨v, _, ⟨T', L', k', n'⟩, -, X', ⟨Lc, hQ, l', y', z'⟩, st⟩ := Jvm.LawKit.callS X hx hown (mvT hZ w1) (mvT hZ w2) (mvT hZ w3) (mvT hZ w4) hy (backOf (W := W) hM hZ w4 w3 hf hl) (g := mkF m pc L S) rfl hsize (argsL := argsL) (rest := rest) hlen hstk (by show 2 * 0 + _ ≤ _; rw [hW]; exact Nat.le_of_eq (by simp)) hd (fun _ _ => ⟨rfl, eT, hc, hs⟩)
  dsimp only [Pt.U, Pt.locs, Pt.cells, Pt.slots] at X' l' y' z' st hQ
  subst l' y' z'
  exact (K T' v Lc X' hQ).via st
theorem o_newP (X : Stand p l e R s m args below meth c T locs cells slots) (hx : p.tables.exec = Jvm.exec) (hZ : Z.Warmed39 s.vm) {aty : ArrayType} {n : Int32} {cells' slots' : Nat} (cap : Nat) (w : (Cond.arrayClass (newarray.typeOf aty)).before a0 Z = true) (eT : T.heap = h) (hd : decode c.code pc = .ok (.newarray aty, 2)) (hp : pc + 2 = pc') (hn : ¬ n < 0) (hcap : n.toNatClampNeg ≤ cap) (hb : cap * 8 ≤ 536870912) (hcc : cells + 1 = cells') (hss : slots + cap = slots') (hc : cells' ≤ R.cells) (hs : slots' ≤ R.slots)
    (K : ∀ T' h' a k, a = h.size → Stand p l e R s m args below meth c T' locs cells' slots' → T'.heap = h' → Ext h h' → Arv Z h' a k (newarray.typeOf aty) n [] (defaultValue (newarray.typeOf aty)) → Go p e below P (T'.setTop (mkF m pc' L (.ref a :: S)))) : Go p e below P (T.setTop (mkF m pc L (.int n :: S))) := by
  subst hp hcc hss
  obtain ⟨T', h', cA, X', e', E', A', st⟩ := newP X hx hZ w eT (g := mkF m pc L (.int n :: S)) rfl hd rfl hn hcap hb hc hs
  exact (K T' h' h.size cA rfl X' e' E' (Arv.new A' hn)).via st
theorem own_inb {Zx : State} {hh : Heap} {a : Addr} {k : ClassId} {ty : FieldType} {n j : Int32} {vs : List Value} {d : Value} (hj : ¬ j < 0 ∧ j < n) (V : Arv Zx hh a k ty n vs d) : ∃ cl : Cell, Arr Zx hh a cl ty ∧ cl.cls = k ∧ cl.slots.size = n.toNatClampNeg ∧ ¬ n < 0 ∧ Has cl vs d ∧ (∀ i, i < cl.slots.size → fits ty (vs.getD i d) = true) ∧ ¬ (j < 0 ∨ cl.slots.size ≤ j.toNatClampNeg) ∧ cl.slots[j.toNatClampNeg]? = some (vs.getD j.toNatClampNeg d) := by
  obtain ⟨cl, h1, h2, h3, h4, h5, h6⟩ := V
  have hin := inb_of h3 hj
  exact ⟨cl, h1, h2, h3, h4, h5, h6, hin, h5.at hin rfl⟩
theorem o_iaload (X : Stand p l e R s m args below meth c T locs cells slots) (hx : p.tables.exec = Jvm.exec) (hZ : Z.Warmed39 s.vm) {a : Addr} {k : ClassId} {n j : Int32} {vs : List Value} {d : Value} (v : Value) (eT : T.heap = h) (V : Arv Z h a k .int n vs d) (hj : ¬ j < 0 ∧ j < n) (hv : vs.getD j.toNatClampNeg d = v) (hd : decode c.code pc = .ok (.iaload, 1)) (hp : pc + 1 = pc') (K : Go p e below P (T.setTop (mkF m pc' L (v :: S)))) : Go p e below P (T.setTop (mkF m pc L (.int j :: .ref a :: S))) := by
  subst hp hv
  obtain ⟨cl, A, -, -, -, -, -, hin, hat⟩ := own_inb hj V
  exact K.via fun t k => X.iaload hx (j := j) (by rw [eT]; exact A.1) (State.isArrayOf_alike hZ.alike A.2.1) A.2.2 hin hat (g := mkF m pc L (.int j :: .ref a :: S)) rfl rfl hd t k
theorem o_iastore (X : Stand p l e R s m args below meth c T locs cells slots) (hx : p.tables.exec = Jvm.exec) (hZ : Z.Warmed39 s.vm) {a : Addr} {k : ClassId} {n j : Int32} {x : Int32} {vs vs' : List Value} {d : Value} (i : Nat) (eT : T.heap = h) (V : Arv Z h a k .int n vs d) (hj : ¬ j < 0 ∧ j < n) (hji : j.toNatClampNeg = i) (hi : i < vs.length) (hvs : vs.set i (.int x) = vs') (hd : decode c.code pc = .ok (.iastore, 1)) (hp : pc + 1 = pc')
    (K : ∀ T' h', Stand p l e R s m args below meth c T' (locs ++ [⟨a, i⟩]) cells slots → T'.heap = h' → Wr h h' a i (.int x) → Arv Z h' a k .int n vs' d → Go p e below P (T'.setTop (mkF m pc' L S))) : Go p e below P (T.setTop (mkF m pc L (.int x :: .int j :: .ref a :: S))) := by
  subst hp hvs hji
  obtain ⟨cl, A, q1, q2, q3, q4, q5, hin, hat⟩ := own_inb hj V
  obtain ⟨T', h', X', e', W', st⟩ := stI X hx hZ eT A hin (g := mkF m pc L (.int x :: .int j :: .ref a :: S)) rfl rfl hd
  exact (K T' h' X' e' W' (Arv.set A q1 q2 q3 q4 q5 rfl W' _ rfl hi)).via st
/-- a longer list said of an array: the rest holds its first value -/
theorem own_fill {Zx : State} {hh : Heap} {a : Addr} {k : ClassId} {ty : FieldType} {n : Int32} {d : Value} (i : Nat) (V : Arv Zx hh a k ty n [] d) : Arv Zx hh a k ty n (List.replicate i d) d := V.pad (pad_rep [] d i)
end Own
theorem pd_0 : parseMethodDescriptor "(I)Z" = some ⟨[.int], some .boolean⟩ := by decide +kernel
theorem d1_0 : decode prog_135_method_6_code 0 = .ok (.iload_n 0, 1) := by decide +kernel
theorem d1_1 : decode prog_135_method_6_code 1 = .ok (.bipush 32, 2) := by decide +kernel
theorem d1_3 : decode prog_135_method_6_code 3 = .ok (.if_icmp .eq 21, 3) := by decide +kernel
theorem d1_6 : decode prog_135_method_6_code 6 = .ok (.iload_n 0, 1) := by decide +kernel
theorem d1_7 : decode prog_135_method_6_code 7 = .ok (.bipush 9, 2) := by decide +kernel
theorem d1_9 : decode prog_135_method_6_code 9 = .ok (.if_icmp .eq 15, 3) := by decide +kernel
theorem d1_12 : decode prog_135_method_6_code 12 = .ok (.iload_n 0, 1) := by decide +kernel
theorem d1_13 : decode prog_135_method_6_code 13 = .ok (.bipush 10, 2) := by decide +kernel
theorem d1_15 : decode prog_135_method_6_code 15 = .ok (.if_icmp .eq 9, 3) := by decide +kernel
theorem d1_18 : decode prog_135_method_6_code 18 = .ok (.iload_n 0, 1) := by decide +kernel
theorem d1_19 : decode prog_135_method_6_code 19 = .ok (.bipush 13, 2) := by decide +kernel
theorem d1_21 : decode prog_135_method_6_code 21 = .ok (.if_icmp .ne 7, 3) := by decide +kernel
theorem d1_24 : decode prog_135_method_6_code 24 = .ok (.iconst 1, 1) := by decide +kernel
theorem d1_25 : decode prog_135_method_6_code 25 = .ok (.goto 4, 3) := by decide +kernel
theorem d1_28 : decode prog_135_method_6_code 28 = .ok (.iconst 0, 1) := by decide +kernel
theorem d1_29 : decode prog_135_method_6_code 29 = .ok (.ireturn, 1) := by decide +kernel
theorem pn_1 : plainName "com/example/canopyguard/canopyguard/xml/XmlNames" = true := by first | (simp [plainName, overriddenIn]; done) | decide +kernel
theorem ef_1 (m : MethodId) (x0 : Int32) : entryFrame m #[(.int x0)] 1 = mkF m 0 #[.val (.int x0)] [] := by first | (simp [entryFrame, mkF, argsToLocals, Value.category]; done) | rfl
def own_f1_ret (x1 : Int32) : Int32 := (if x1 = (32 : Int32) then (1 : Int32) else (if x1 = (9 : Int32) then (1 : Int32) else (if x1 = (10 : Int32) then (1 : Int32) else (if x1 = (13 : Int32) then (1 : Int32) else (0 : Int32)))))
theorem own_f1_ret_01 (x1 : Int32) : (own_f1_ret x1) = 0 ∨ (own_f1_ret x1) = 1 := by
  unfold own_f1_ret
  repeat' split
  all_goals first | exact Or.inl rfl | exact Or.inr rfl
def Q1 (Z : State) (x1 : Int32) (h0 : Heap) (n0 : Nat) (v : Option Value) (h : Heap) (L : List Loc) : Prop := v = some (.int (own_f1_ret x1)) ∧ Fr n0 L ∧ h = h0
set_option maxRecDepth 65536 in
set_option maxHeartbeats 40000000 in
theorem rm1 (l : Launch) (Z : State) (a0 : Array Value) (hw : ∀ d ∈ tables_1, d.before a0 Z = true) (ws : List Jvm.Cond) (x1 : Int32) (h0 : Heap) (n0 : Nat) (Z0 : n0 ≤ h0.size)  :
    Con l (⟨"com/example/canopyguard/canopyguard/xml/XmlNames", "isSpace", "(I)Z"⟩ : MethodName) prog_135_method_6_code 1 (some .boolean) ws ({ frames := 0, cells := 0, slots := 0, locals := 0 } : Room) #[(.int x1)] Z h0 (Q1 Z x1 h0 n0) ({ frames := 0, cells := 0, slots := 0, locals := 0 } : Room).cells ({ frames := 0, cells := 0, slots := 0, locals := 0 } : Room).slots := by
  refine own_body (plainFor_of_name pn_1) ?_
  intro p e s m below meth c s₁ hx hby hlk hml hown hnm hrt hZ X0 e0
  have w : ∀ (k : Nat) (d : Jvm.Cond), tables_1[k]? = some d → d.before a0 Z = true := fun k d h => hw d (List.mem_of_getElem? h)
  have N0 := Fr.nil n0
  rw [ef_1]
  generalize hOWE : Owe s _ _ _ = OWE
  refine o_iloadN X0 hx (hb hby d1_0) (pc' := 1) rfl rfl ?_
  refine o_bipush X0 hx (32 : Int32) (hb hby d1_1) (pc' := 3) rfl (by decide) ?_
  by_cases hc3_1 : x1 = (32 : Int32)
  · refine o_cmpY X0 hx (hb hby d1_3) (teq hc3_1).1 (by decide) (pc' := 24) (by decide) ?_
    refine o_iconst X0 hx (1 : Int32) (hb hby d1_24) (pc' := 25) rfl (by decide) ?_
    refine o_goto X0 hx (hb hby d1_25) (by decide) (pc' := 29) (by decide) ?_
    rw [← hOWE]
    exact o_retZ X0 hx rfl hlk hrt (hb hby d1_29) (by decide) (by decide) (by rw [e0]; exact ⟨(by rw [own_f1_ret, if_pos hc3_1]), N0, rfl⟩)
  · refine o_cmpN X0 hx (hb hby d1_3) (feq hc3_1).1 (pc' := 6) rfl ?_
    refine o_iloadN X0 hx (hb hby d1_6) (pc' := 7) rfl rfl ?_
    refine o_bipush X0 hx (9 : Int32) (hb hby d1_7) (pc' := 9) rfl (by decide) ?_
    by_cases hc9_2 : x1 = (9 : Int32)
    · refine o_cmpY X0 hx (hb hby d1_9) (teq hc9_2).1 (by decide) (pc' := 24) (by decide) ?_
      refine o_iconst X0 hx (1 : Int32) (hb hby d1_24) (pc' := 25) rfl (by decide) ?_
      refine o_goto X0 hx (hb hby d1_25) (by decide) (pc' := 29) (by decide) ?_
      rw [← hOWE]
      exact o_retZ X0 hx rfl hlk hrt (hb hby d1_29) (by decide) (by decide) (by rw [e0]; exact ⟨(by rw [own_f1_ret, if_neg hc3_1, if_pos hc9_2]), N0, rfl⟩)
    · refine o_cmpN X0 hx (hb hby d1_9) (feq hc9_2).1 (pc' := 12) rfl ?_
      refine o_iloadN X0 hx (hb hby d1_12) (pc' := 13) rfl rfl ?_
      refine o_bipush X0 hx (10 : Int32) (hb hby d1_13) (pc' := 15) rfl (by decide) ?_
      by_cases hc15_3 : x1 = (10 : Int32)
      · refine o_cmpY X0 hx (hb hby d1_15) (teq hc15_3).1 (by decide) (pc' := 24) (by decide) ?_
        refine o_iconst X0 hx (1 : Int32) (hb hby d1_24) (pc' := 25) rfl (by decide) ?_
        refine o_goto X0 hx (hb hby d1_25) (by decide) (pc' := 29) (by decide) ?_
        rw [← hOWE]
        exact o_retZ X0 hx rfl hlk hrt (hb hby d1_29) (by decide) (by decide) (by rw [e0]; exact ⟨(by rw [own_f1_ret, if_neg hc3_1, if_neg hc9_2, if_pos hc15_3]), N0, rfl⟩)
      · refine o_cmpN X0 hx (hb hby d1_15) (feq hc15_3).1 (pc' := 18) rfl ?_
        refine o_iloadN X0 hx (hb hby d1_18) (pc' := 19) rfl rfl ?_
        refine o_bipush X0 hx (13 : Int32) (hb hby d1_19) (pc' := 21) rfl (by decide) ?_
        by_cases hc21_4 : x1 = (13 : Int32)
        · refine o_cmpN X0 hx (hb hby d1_21) (teq hc21_4).2 (pc' := 24) rfl ?_
          refine o_iconst X0 hx (1 : Int32) (hb hby d1_24) (pc' := 25) rfl (by decide) ?_
          refine o_goto X0 hx (hb hby d1_25) (by decide) (pc' := 29) (by decide) ?_
          rw [← hOWE]
          exact o_retZ X0 hx rfl hlk hrt (hb hby d1_29) (by decide) (by decide) (by rw [e0]; exact ⟨(by rw [own_f1_ret, if_neg hc3_1, if_neg hc9_2, if_neg hc15_3, if_pos hc21_4]), N0, rfl⟩)
        · refine o_cmpY X0 hx (hb hby d1_21) (feq hc21_4).2 (by decide) (pc' := 28) (by decide) ?_
          refine o_iconst X0 hx (0 : Int32) (hb hby d1_28) (pc' := 29) rfl (by decide) ?_
          rw [← hOWE]
          exact o_retZ X0 hx rfl hlk hrt (hb hby d1_29) (by decide) (by decide) (by rw [e0]; exact ⟨(by rw [own_f1_ret, if_neg hc3_1, if_neg hc9_2, if_neg hc15_3, if_neg hc21_4]), N0, rfl⟩)
theorem d2_0 : decode method_2_code 0 = .ok (.ldc2_w 7, 3) := by decide +kernel
theorem d2_3 : decode method_2_code 3 = .ok (.lstore_n 1, 1) := by decide +kernel
theorem d2_4 : decode method_2_code 4 = .ok (.iload_n 0, 1) := by decide +kernel
theorem d2_5 : decode method_2_code 5 = .ok (.ifCond .lt 23, 3) := by decide +kernel
theorem d2_8 : decode method_2_code 8 = .ok (.iload_n 0, 1) := by decide +kernel
theorem d2_9 : decode method_2_code 9 = .ok (.bipush 64, 2) := by decide +kernel
theorem d2_11 : decode method_2_code 11 = .ok (.if_icmp .ge 17, 3) := by decide +kernel
theorem d2_14 : decode method_2_code 14 = .ok (.lload_n 1, 1) := by decide +kernel
theorem d2_15 : decode method_2_code 15 = .ok (.iload_n 0, 1) := by decide +kernel
theorem d2_16 : decode method_2_code 16 = .ok (.lushr, 1) := by decide +kernel
theorem d2_17 : decode method_2_code 17 = .ok (.lconst 1, 1) := by decide +kernel
theorem d2_18 : decode method_2_code 18 = .ok (.land, 1) := by decide +kernel
theorem d2_19 : decode method_2_code 19 = .ok (.lconst 0, 1) := by decide +kernel
theorem d2_20 : decode method_2_code 20 = .ok (.lcmp, 1) := by decide +kernel
theorem d2_21 : decode method_2_code 21 = .ok (.ifCond .eq 7, 3) := by decide +kernel
theorem d2_24 : decode method_2_code 24 = .ok (.iconst 1, 1) := by decide +kernel
theorem d2_25 : decode method_2_code 25 = .ok (.goto 4, 3) := by decide +kernel
theorem d2_28 : decode method_2_code 28 = .ok (.iconst 0, 1) := by decide +kernel
theorem d2_29 : decode method_2_code 29 = .ok (.ireturn, 1) := by decide +kernel
theorem pn_2 : plainName "com/example/canopyguard/canopyguard/xml/XmlNamesIsSpacePinLaw" = true := by first | (simp [plainName, overriddenIn]; done) | decide +kernel
theorem ef_2 (m : MethodId) (x0 : Int32) : entryFrame m #[(.int x0)] 3 = mkF m 0 #[.val (.int x0), .unset, .unset] [] := by first | (simp [entryFrame, mkF, argsToLocals, Value.category]; done) | rfl
def own_f2_ret (x1 : Int32) : Int32 := (if x1 < (0 : Int32) then (0 : Int32) else (if x1 < (64 : Int32) then (if ((uL (4294977024 : Int64) x1) &&& (1 : Int64)) = (0 : Int64) then (0 : Int32) else (1 : Int32)) else (0 : Int32)))
theorem own_f2_ret_01 (x1 : Int32) : (own_f2_ret x1) = 0 ∨ (own_f2_ret x1) = 1 := by
  unfold own_f2_ret
  repeat' split
  all_goals first | exact Or.inl rfl | exact Or.inr rfl
def Q2 (Z : State) (x1 : Int32) (h0 : Heap) (n0 : Nat) (v : Option Value) (h : Heap) (L : List Loc) : Prop := v = some (.int (own_f2_ret x1)) ∧ Fr n0 L ∧ h = h0
set_option maxRecDepth 65536 in
set_option maxHeartbeats 40000000 in
theorem rm2 (l : Launch) (Z : State) (a0 : Array Value) (hw : ∀ d ∈ tables_1, d.before a0 Z = true) (ws : List Jvm.Cond) (x1 : Int32) (h0 : Heap) (n0 : Nat) (Z0 : n0 ≤ h0.size)  :
    Con l (⟨"com/example/canopyguard/canopyguard/xml/XmlNamesIsSpacePinLaw", "ref", "(I)Z"⟩ : MethodName) method_2_code 3 (some .boolean) ws ({ frames := 0, cells := 0, slots := 0, locals := 0 } : Room) #[(.int x1)] Z h0 (Q2 Z x1 h0 n0) ({ frames := 0, cells := 0, slots := 0, locals := 0 } : Room).cells ({ frames := 0, cells := 0, slots := 0, locals := 0 } : Room).slots := by
  refine own_body (plainFor_of_name pn_2) ?_
  intro p e s m below meth c s₁ hx hby hlk hml hown hnm hrt hZ X0 e0
  have w : ∀ (k : Nat) (d : Jvm.Cond), tables_1[k]? = some d → d.before a0 Z = true := fun k d h => hw d (List.mem_of_getElem? h)
  have N0 := Fr.nil n0
  rw [ef_2]
  generalize hOWE : Owe s _ _ _ = OWE
  refine o_ldcJ X0 hx hZ (4294977024 : Int64) hown (w 9 _ rfl) (hb hby d2_0) (pc' := 3) rfl ?_
  refine o_lstoreN X0 hx (hb hby d2_3) (pc' := 4) rfl (L' := #[.val (.int x1), .val (.long (4294977024 : Int64)), .second]) rfl ?_
  refine o_iloadN X0 hx (hb hby d2_4) (pc' := 5) rfl rfl ?_
  by_cases hc5_1 : x1 < (0 : Int32)
  · refine o_ifY X0 hx (hb hby d2_5) (tlt hc5_1).1 (by decide) (pc' := 28) (by decide) ?_
    refine o_iconst X0 hx (0 : Int32) (hb hby d2_28) (pc' := 29) rfl (by decide) ?_
    rw [← hOWE]
    exact o_retZ X0 hx rfl hlk hrt (hb hby d2_29) (by decide) (by decide) (by rw [e0]; exact ⟨(by rw [own_f2_ret, if_pos hc5_1]), N0, rfl⟩)
  · refine o_ifN X0 hx (hb hby d2_5) (flt hc5_1).1 (pc' := 8) rfl ?_
    refine o_iloadN X0 hx (hb hby d2_8) (pc' := 9) rfl rfl ?_
    refine o_bipush X0 hx (64 : Int32) (hb hby d2_9) (pc' := 11) rfl (by decide) ?_
    by_cases hc11_2 : x1 < (64 : Int32)
    · refine o_cmpN X0 hx (hb hby d2_11) (tlt hc11_2).2.1 (pc' := 14) rfl ?_
      refine o_lloadN X0 hx (hb hby d2_14) (pc' := 15) rfl rfl ?_
      refine o_iloadN X0 hx (hb hby d2_15) (pc' := 16) rfl rfl ?_
      refine o_lushr X0 hx (hb hby d2_16) (pc' := 17) rfl ?_
      refine o_lconst X0 hx (1 : Int64) (hb hby d2_17) (pc' := 18) rfl (by decide) ?_
      refine o_land X0 hx (hb hby d2_18) (pc' := 19) rfl ?_
      refine o_lconst X0 hx (0 : Int64) (hb hby d2_19) (pc' := 20) rfl (by decide) ?_
      refine o_lcmp X0 hx (hb hby d2_20) (pc' := 21) rfl ?_
      by_cases hc21_3 : ((uL (4294977024 : Int64) x1) &&& (1 : Int64)) = (0 : Int64)
      · refine o_ifY X0 hx (hb hby d2_21) (teqL hc21_3).1 (by decide) (pc' := 28) (by decide) ?_
        refine o_iconst X0 hx (0 : Int32) (hb hby d2_28) (pc' := 29) rfl (by decide) ?_
        rw [← hOWE]
        exact o_retZ X0 hx rfl hlk hrt (hb hby d2_29) (by decide) (by decide) (by rw [e0]; exact ⟨(by rw [own_f2_ret, if_neg hc5_1, if_pos hc11_2, if_pos hc21_3]), N0, rfl⟩)
      · refine o_ifN X0 hx (hb hby d2_21) (feqL hc21_3).1 (pc' := 24) rfl ?_
        refine o_iconst X0 hx (1 : Int32) (hb hby d2_24) (pc' := 25) rfl (by decide) ?_
        refine o_goto X0 hx (hb hby d2_25) (by decide) (pc' := 29) (by decide) ?_
        rw [← hOWE]
        exact o_retZ X0 hx rfl hlk hrt (hb hby d2_29) (by decide) (by decide) (by rw [e0]; exact ⟨(by rw [own_f2_ret, if_neg hc5_1, if_pos hc11_2, if_neg hc21_3]), N0, rfl⟩)
    · refine o_cmpY X0 hx (hb hby d2_11) (flt hc11_2).2.1 (by decide) (pc' := 28) (by decide) ?_
      refine o_iconst X0 hx (0 : Int32) (hb hby d2_28) (pc' := 29) rfl (by decide) ?_
      rw [← hOWE]
      exact o_retZ X0 hx rfl hlk hrt (hb hby d2_29) (by decide) (by decide) (by rw [e0]; exact ⟨(by rw [own_f2_ret, if_neg hc5_1, if_neg hc11_2]), N0, rfl⟩)
theorem own_k15 (k : Int32) : ¬ (k &&& (15 : Int32)) < 0 ∧ (k &&& (15 : Int32)) < (16 : Int32) := by
  have h := c_and k 15 (by decide)
  rw [show (15 : Int32).toInt = 15 from rfl] at h
  rw [Int32.lt_iff_toInt_lt, Int32.lt_iff_toInt_lt, show (0 : Int32).toInt = 0 from rfl, show (16 : Int32).toInt = 16 from rfl]
  omega
def own_pick (k : Int32) : Int32 := ([(9 : Int32), (10 : Int32), (13 : Int32), (32 : Int32), (8 : Int32), (11 : Int32), (12 : Int32), (14 : Int32), (31 : Int32), (33 : Int32), (0 : Int32), (-1 : Int32), (133 : Int32), (160 : Int32), (8232 : Int32), (12288 : Int32)] : List Int32).getD (k &&& (15 : Int32)).toNatClampNeg 0
theorem own_pick_at (k : Int32) : ([.int (9 : Int32), .int (10 : Int32), .int (13 : Int32), .int (32 : Int32), .int (8 : Int32), .int (11 : Int32), .int (12 : Int32), .int (14 : Int32), .int (31 : Int32), .int (33 : Int32), .int (0 : Int32), .int (-1 : Int32), .int (133 : Int32), .int (160 : Int32), .int (8232 : Int32), .int (12288 : Int32)] : List Value).getD (k &&& (15 : Int32)).toNatClampNeg (.int (0 : Int32)) = .int (own_pick k) := by
  unfold own_pick
  generalize (k &&& (15 : Int32)).toNatClampNeg = i
  show (List.map Value.int [(9 : Int32), (10 : Int32), (13 : Int32), (32 : Int32), (8 : Int32), (11 : Int32), (12 : Int32), (14 : Int32), (31 : Int32), (33 : Int32), (0 : Int32), (-1 : Int32), (133 : Int32), (160 : Int32), (8232 : Int32), (12288 : Int32)]).getD i (Value.int 0) = _
  rw [List.getD_eq_getElem?_getD, List.getD_eq_getElem?_getD, List.getElem?_map]
  cases ([(9 : Int32), (10 : Int32), (13 : Int32), (32 : Int32), (8 : Int32), (11 : Int32), (12 : Int32), (14 : Int32), (31 : Int32), (33 : Int32), (0 : Int32), (-1 : Int32), (133 : Int32), (160 : Int32), (8232 : Int32), (12288 : Int32)] : List Int32)[i]? <;> rfl
theorem ef_0 (m : MethodId) (x0 : Int32) (x1 : Int32) : entryFrame m #[(.int x0), (.int x1)] maxLocals = mkF m 0 #[.val (.int x0), .val (.int x1), .unset, .unset, .unset, .unset] [] := by first | (simp [entryFrame, mkF, argsToLocals, Value.category, maxLocals]; done) | rfl
def own_law_v120_1_S0 (q0 : Int32) (q1 : Int32) : Int32 := (if (own_f1_ret q0) = (own_f2_ret q0) then (1 : Int32) else (0 : Int32))
theorem own_law_v120_1_S0_01 (q0 : Int32) (q1 : Int32) : (own_law_v120_1_S0 q0 q1) = 0 ∨ (own_law_v120_1_S0 q0 q1) = 1 := by
  unfold own_law_v120_1_S0
  repeat' split
  all_goals first | exact Or.inl rfl | exact Or.inr rfl
def own_law_v138_2_S0 (q0 : Int32) (q1 : Int32) : Int32 := (if (own_f1_ret (own_pick q1)) = (own_f2_ret (own_pick q1)) then (1 : Int32) else (0 : Int32))
theorem own_law_v138_2_S0_01 (q0 : Int32) (q1 : Int32) : (own_law_v138_2_S0 q0 q1) = 0 ∨ (own_law_v138_2_S0 q0 q1) = 1 := by
  unfold own_law_v138_2_S0
  repeat' split
  all_goals first | exact Or.inl rfl | exact Or.inr rfl
def own_law_ret_j138_2 (q0 : Int32) (q1 : Int32) : Int32 := (if (own_law_v120_1_S0 q0 q1) = (0 : Int32) then (0 : Int32) else (if (own_law_v138_2_S0 q0 q1) = (0 : Int32) then (0 : Int32) else (1 : Int32)))
def own_law_ret_j120_1 (q0 : Int32) (q1 : Int32) : Int32 := (own_law_ret_j138_2 q0 q1)
def own_law_ret (q0 : Int32) (q1 : Int32) : Int32 := (own_law_ret_j120_1 q0 q1)
def Q0 (Z : State) (q0 : Int32) (q1 : Int32) (h0 : Heap) (n0 : Nat) (v : Option Value) (h : Heap) (L : List Loc) : Prop := v = some (.int (own_law_ret q0 q1)) ∧ Fr n0 L
set_option maxRecDepth 65536 in
set_option maxHeartbeats 40000000 in
theorem rm0 (l : Launch) (Z : State) (a0 : Array Value) (hw : ∀ d ∈ tables_1, d.before a0 Z = true) (ws : List Jvm.Cond) (q0 : Int32) (q1 : Int32) (h0 : Heap) (n0 : Nat) (Z0 : n0 ≤ h0.size)  :
    Con l x code maxLocals ret ws room_1 #[(.int q0), (.int q1)] Z h0 (Q0 Z q0 q1 h0 n0) 1 16 := by
  refine own_body (plainFor_of_name pn_2) ?_
  intro p e s m below meth c s₁ hx hby hlk hml hown hnm hrt hZ X0 e0
  have w : ∀ (k : Nat) (d : Jvm.Cond), tables_1[k]? = some d → d.before a0 Z = true := fun k d h => hw d (List.mem_of_getElem? h)
  have N0 := Fr.nil n0
  have hml : c.maxLocals = 6 := hml
  rw [ef_0]
  generalize hOWE : Owe s _ _ _ = OWE
  refine o_bipush X0 hx (16 : Int32) (hb hby at_0) (pc' := 2) rfl (by decide) ?_
  refine o_newP X0 hx hZ 16 (w 0 _ rfl) e0 (hb hby at_2) (pc' := 4) rfl (by decide) (by decide) (by decide) (cells' := 1) rfl (slots' := 16) rfl (by decide) (by decide) ?_
  intro T1 h1 b1 k1 qa1 X1 e1 Ex1 A1
  have g_b1 : n0 ≤ b1 := by rw [qa1]; exact Z0
  have Z1 : n0 ≤ h1.size := Nat.le_trans Z0 Ex1.1
  have V1_ : Arv Z h1 b1 k1 .int (16 : Int32) [.int (0 : Int32), .int (0 : Int32), .int (0 : Int32), .int (0 : Int32), .int (0 : Int32), .int (0 : Int32), .int (0 : Int32), .int (0 : Int32), .int (0 : Int32), .int (0 : Int32), .int (0 : Int32), .int (0 : Int32), .int (0 : Int32), .int (0 : Int32), .int (0 : Int32), .int (0 : Int32)] (.int (0 : Int32)) := own_fill 16 A1
  refine o_dup X1 hx (hb hby at_4) (pc' := 5) rfl rfl ?_
  refine o_iconst X1 hx (0 : Int32) (hb hby at_5) (pc' := 6) rfl (by decide) ?_
  refine o_bipush X1 hx (9 : Int32) (hb hby at_6) (pc' := 8) rfl (by decide) ?_
  refine o_iastore X1 hx hZ 0 e1 V1_ (by decide) (by decide) (by exact (by decide : 0 < 16)) (vs' := [.int (9 : Int32), .int (0 : Int32), .int (0 : Int32), .int (0 : Int32), .int (0 : Int32), .int (0 : Int32), .int (0 : Int32), .int (0 : Int32), .int (0 : Int32), .int (0 : Int32), .int (0 : Int32), .int (0 : Int32), .int (0 : Int32), .int (0 : Int32), .int (0 : Int32), .int (0 : Int32)]) rfl (hb hby at_8) (pc' := 9) rfl ?_
  intro T3 h3 X3 e3 W3 V3_
  have N3 := Fr.snoc X3 N0 g_b1
  have Z3 : n0 ≤ h3.size := by rw [W3.size]; exact Z1
  refine o_dup X3 hx (hb hby at_9) (pc' := 10) rfl rfl ?_
  refine o_iconst X3 hx (1 : Int32) (hb hby at_10) (pc' := 11) rfl (by decide) ?_
  refine o_bipush X3 hx (10 : Int32) (hb hby at_11) (pc' := 13) rfl (by decide) ?_
  refine o_iastore X3 hx hZ 1 e3 V3_ (by decide) (by decide) (by exact (by decide : 1 < 16)) (vs' := [.int (9 : Int32), .int (10 : Int32), .int (0 : Int32), .int (0 : Int32), .int (0 : Int32), .int (0 : Int32), .int (0 : Int32), .int (0 : Int32), .int (0 : Int32), .int (0 : Int32), .int (0 : Int32), .int (0 : Int32), .int (0 : Int32), .int (0 : Int32), .int (0 : Int32), .int (0 : Int32)]) rfl (hb hby at_13) (pc' := 14) rfl ?_
  intro T5 h5 X5 e5 W5 V5_
  have N5 := Fr.snoc X5 N3 g_b1
  have Z5 : n0 ≤ h5.size := by rw [W5.size]; exact Z3
  refine o_dup X5 hx (hb hby at_14) (pc' := 15) rfl rfl ?_
  refine o_iconst X5 hx (2 : Int32) (hb hby at_15) (pc' := 16) rfl (by decide) ?_
  refine o_bipush X5 hx (13 : Int32) (hb hby at_16) (pc' := 18) rfl (by decide) ?_
  refine o_iastore X5 hx hZ 2 e5 V5_ (by decide) (by decide) (by exact (by decide : 2 < 16)) (vs' := [.int (9 : Int32), .int (10 : Int32), .int (13 : Int32), .int (0 : Int32), .int (0 : Int32), .int (0 : Int32), .int (0 : Int32), .int (0 : Int32), .int (0 : Int32), .int (0 : Int32), .int (0 : Int32), .int (0 : Int32), .int (0 : Int32), .int (0 : Int32), .int (0 : Int32), .int (0 : Int32)]) rfl (hb hby at_18) (pc' := 19) rfl ?_
  intro T7 h7 X7 e7 W7 V7_
  have N7 := Fr.snoc X7 N5 g_b1
  have Z7 : n0 ≤ h7.size := by rw [W7.size]; exact Z5
  refine o_dup X7 hx (hb hby at_19) (pc' := 20) rfl rfl ?_
  refine o_iconst X7 hx (3 : Int32) (hb hby at_20) (pc' := 21) rfl (by decide) ?_
  refine o_bipush X7 hx (32 : Int32) (hb hby at_21) (pc' := 23) rfl (by decide) ?_
  refine o_iastore X7 hx hZ 3 e7 V7_ (by decide) (by decide) (by exact (by decide : 3 < 16)) (vs' := [.int (9 : Int32), .int (10 : Int32), .int (13 : Int32), .int (32 : Int32), .int (0 : Int32), .int (0 : Int32), .int (0 : Int32), .int (0 : Int32), .int (0 : Int32), .int (0 : Int32), .int (0 : Int32), .int (0 : Int32), .int (0 : Int32), .int (0 : Int32), .int (0 : Int32), .int (0 : Int32)]) rfl (hb hby at_23) (pc' := 24) rfl ?_
  intro T9 h9 X9 e9 W9 V9_
  have N9 := Fr.snoc X9 N7 g_b1
  have Z9 : n0 ≤ h9.size := by rw [W9.size]; exact Z7
  refine o_dup X9 hx (hb hby at_24) (pc' := 25) rfl rfl ?_
  refine o_iconst X9 hx (4 : Int32) (hb hby at_25) (pc' := 26) rfl (by decide) ?_
  refine o_bipush X9 hx (8 : Int32) (hb hby at_26) (pc' := 28) rfl (by decide) ?_
  refine o_iastore X9 hx hZ 4 e9 V9_ (by decide) (by decide) (by exact (by decide : 4 < 16)) (vs' := [.int (9 : Int32), .int (10 : Int32), .int (13 : Int32), .int (32 : Int32), .int (8 : Int32), .int (0 : Int32), .int (0 : Int32), .int (0 : Int32), .int (0 : Int32), .int (0 : Int32), .int (0 : Int32), .int (0 : Int32), .int (0 : Int32), .int (0 : Int32), .int (0 : Int32), .int (0 : Int32)]) rfl (hb hby at_28) (pc' := 29) rfl ?_
  intro T11 h11 X11 e11 W11 V11_
  have N11 := Fr.snoc X11 N9 g_b1
  have Z11 : n0 ≤ h11.size := by rw [W11.size]; exact Z9
  refine o_dup X11 hx (hb hby at_29) (pc' := 30) rfl rfl ?_
  refine o_iconst X11 hx (5 : Int32) (hb hby at_30) (pc' := 31) rfl (by decide) ?_
  refine o_bipush X11 hx (11 : Int32) (hb hby at_31) (pc' := 33) rfl (by decide) ?_
  refine o_iastore X11 hx hZ 5 e11 V11_ (by decide) (by decide) (by exact (by decide : 5 < 16)) (vs' := [.int (9 : Int32), .int (10 : Int32), .int (13 : Int32), .int (32 : Int32), .int (8 : Int32), .int (11 : Int32), .int (0 : Int32), .int (0 : Int32), .int (0 : Int32), .int (0 : Int32), .int (0 : Int32), .int (0 : Int32), .int (0 : Int32), .int (0 : Int32), .int (0 : Int32), .int (0 : Int32)]) rfl (hb hby at_33) (pc' := 34) rfl ?_
  intro T13 h13 X13 e13 W13 V13_
  have N13 := Fr.snoc X13 N11 g_b1
  have Z13 : n0 ≤ h13.size := by rw [W13.size]; exact Z11
  refine o_dup X13 hx (hb hby at_34) (pc' := 35) rfl rfl ?_
  refine o_bipush X13 hx (6 : Int32) (hb hby at_35) (pc' := 37) rfl (by decide) ?_
  refine o_bipush X13 hx (12 : Int32) (hb hby at_37) (pc' := 39) rfl (by decide) ?_
  refine o_iastore X13 hx hZ 6 e13 V13_ (by decide) (by decide) (by exact (by decide : 6 < 16)) (vs' := [.int (9 : Int32), .int (10 : Int32), .int (13 : Int32), .int (32 : Int32), .int (8 : Int32), .int (11 : Int32), .int (12 : Int32), .int (0 : Int32), .int (0 : Int32), .int (0 : Int32), .int (0 : Int32), .int (0 : Int32), .int (0 : Int32), .int (0 : Int32), .int (0 : Int32), .int (0 : Int32)]) rfl (hb hby at_39) (pc' := 40) rfl ?_
  intro T15 h15 X15 e15 W15 V15_
  have N15 := Fr.snoc X15 N13 g_b1
  have Z15 : n0 ≤ h15.size := by rw [W15.size]; exact Z13
  refine o_dup X15 hx (hb hby at_40) (pc' := 41) rfl rfl ?_
  refine o_bipush X15 hx (7 : Int32) (hb hby at_41) (pc' := 43) rfl (by decide) ?_
  refine o_bipush X15 hx (14 : Int32) (hb hby at_43) (pc' := 45) rfl (by decide) ?_
  refine o_iastore X15 hx hZ 7 e15 V15_ (by decide) (by decide) (by exact (by decide : 7 < 16)) (vs' := [.int (9 : Int32), .int (10 : Int32), .int (13 : Int32), .int (32 : Int32), .int (8 : Int32), .int (11 : Int32), .int (12 : Int32), .int (14 : Int32), .int (0 : Int32), .int (0 : Int32), .int (0 : Int32), .int (0 : Int32), .int (0 : Int32), .int (0 : Int32), .int (0 : Int32), .int (0 : Int32)]) rfl (hb hby at_45) (pc' := 46) rfl ?_
  intro T17 h17 X17 e17 W17 V17_
  have N17 := Fr.snoc X17 N15 g_b1
  have Z17 : n0 ≤ h17.size := by rw [W17.size]; exact Z15
  refine o_dup X17 hx (hb hby at_46) (pc' := 47) rfl rfl ?_
  refine o_bipush X17 hx (8 : Int32) (hb hby at_47) (pc' := 49) rfl (by decide) ?_
  refine o_bipush X17 hx (31 : Int32) (hb hby at_49) (pc' := 51) rfl (by decide) ?_
  refine o_iastore X17 hx hZ 8 e17 V17_ (by decide) (by decide) (by exact (by decide : 8 < 16)) (vs' := [.int (9 : Int32), .int (10 : Int32), .int (13 : Int32), .int (32 : Int32), .int (8 : Int32), .int (11 : Int32), .int (12 : Int32), .int (14 : Int32), .int (31 : Int32), .int (0 : Int32), .int (0 : Int32), .int (0 : Int32), .int (0 : Int32), .int (0 : Int32), .int (0 : Int32), .int (0 : Int32)]) rfl (hb hby at_51) (pc' := 52) rfl ?_
  intro T19 h19 X19 e19 W19 V19_
  have N19 := Fr.snoc X19 N17 g_b1
  have Z19 : n0 ≤ h19.size := by rw [W19.size]; exact Z17
  refine o_dup X19 hx (hb hby at_52) (pc' := 53) rfl rfl ?_
  refine o_bipush X19 hx (9 : Int32) (hb hby at_53) (pc' := 55) rfl (by decide) ?_
  refine o_bipush X19 hx (33 : Int32) (hb hby at_55) (pc' := 57) rfl (by decide) ?_
  refine o_iastore X19 hx hZ 9 e19 V19_ (by decide) (by decide) (by exact (by decide : 9 < 16)) (vs' := [.int (9 : Int32), .int (10 : Int32), .int (13 : Int32), .int (32 : Int32), .int (8 : Int32), .int (11 : Int32), .int (12 : Int32), .int (14 : Int32), .int (31 : Int32), .int (33 : Int32), .int (0 : Int32), .int (0 : Int32), .int (0 : Int32), .int (0 : Int32), .int (0 : Int32), .int (0 : Int32)]) rfl (hb hby at_57) (pc' := 58) rfl ?_
  intro T21 h21 X21 e21 W21 V21_
  have N21 := Fr.snoc X21 N19 g_b1
  have Z21 : n0 ≤ h21.size := by rw [W21.size]; exact Z19
  refine o_dup X21 hx (hb hby at_58) (pc' := 59) rfl rfl ?_
  refine o_bipush X21 hx (10 : Int32) (hb hby at_59) (pc' := 61) rfl (by decide) ?_
  refine o_iconst X21 hx (0 : Int32) (hb hby at_61) (pc' := 62) rfl (by decide) ?_
  refine o_iastore X21 hx hZ 10 e21 V21_ (by decide) (by decide) (by exact (by decide : 10 < 16)) (vs' := [.int (9 : Int32), .int (10 : Int32), .int (13 : Int32), .int (32 : Int32), .int (8 : Int32), .int (11 : Int32), .int (12 : Int32), .int (14 : Int32), .int (31 : Int32), .int (33 : Int32), .int (0 : Int32), .int (0 : Int32), .int (0 : Int32), .int (0 : Int32), .int (0 : Int32), .int (0 : Int32)]) rfl (hb hby at_62) (pc' := 63) rfl ?_
  intro T23 h23 X23 e23 W23 V23_
  have N23 := Fr.snoc X23 N21 g_b1
  have Z23 : n0 ≤ h23.size := by rw [W23.size]; exact Z21
  refine o_dup X23 hx (hb hby at_63) (pc' := 64) rfl rfl ?_
  refine o_bipush X23 hx (11 : Int32) (hb hby at_64) (pc' := 66) rfl (by decide) ?_
  refine o_iconst X23 hx (-1 : Int32) (hb hby at_66) (pc' := 67) rfl (by decide) ?_
  refine o_iastore X23 hx hZ 11 e23 V23_ (by decide) (by decide) (by exact (by decide : 11 < 16)) (vs' := [.int (9 : Int32), .int (10 : Int32), .int (13 : Int32), .int (32 : Int32), .int (8 : Int32), .int (11 : Int32), .int (12 : Int32), .int (14 : Int32), .int (31 : Int32), .int (33 : Int32), .int (0 : Int32), .int (-1 : Int32), .int (0 : Int32), .int (0 : Int32), .int (0 : Int32), .int (0 : Int32)]) rfl (hb hby at_67) (pc' := 68) rfl ?_
  intro T25 h25 X25 e25 W25 V25_
  have N25 := Fr.snoc X25 N23 g_b1
  have Z25 : n0 ≤ h25.size := by rw [W25.size]; exact Z23
  refine o_dup X25 hx (hb hby at_68) (pc' := 69) rfl rfl ?_
  refine o_bipush X25 hx (12 : Int32) (hb hby at_69) (pc' := 71) rfl (by decide) ?_
  refine o_sipush X25 hx (133 : Int32) (hb hby at_71) (pc' := 74) rfl (by decide) ?_
  refine o_iastore X25 hx hZ 12 e25 V25_ (by decide) (by decide) (by exact (by decide : 12 < 16)) (vs' := [.int (9 : Int32), .int (10 : Int32), .int (13 : Int32), .int (32 : Int32), .int (8 : Int32), .int (11 : Int32), .int (12 : Int32), .int (14 : Int32), .int (31 : Int32), .int (33 : Int32), .int (0 : Int32), .int (-1 : Int32), .int (133 : Int32), .int (0 : Int32), .int (0 : Int32), .int (0 : Int32)]) rfl (hb hby at_74) (pc' := 75) rfl ?_
  intro T27 h27 X27 e27 W27 V27_
  have N27 := Fr.snoc X27 N25 g_b1
  have Z27 : n0 ≤ h27.size := by rw [W27.size]; exact Z25
  refine o_dup X27 hx (hb hby at_75) (pc' := 76) rfl rfl ?_
  refine o_bipush X27 hx (13 : Int32) (hb hby at_76) (pc' := 78) rfl (by decide) ?_
  refine o_sipush X27 hx (160 : Int32) (hb hby at_78) (pc' := 81) rfl (by decide) ?_
  refine o_iastore X27 hx hZ 13 e27 V27_ (by decide) (by decide) (by exact (by decide : 13 < 16)) (vs' := [.int (9 : Int32), .int (10 : Int32), .int (13 : Int32), .int (32 : Int32), .int (8 : Int32), .int (11 : Int32), .int (12 : Int32), .int (14 : Int32), .int (31 : Int32), .int (33 : Int32), .int (0 : Int32), .int (-1 : Int32), .int (133 : Int32), .int (160 : Int32), .int (0 : Int32), .int (0 : Int32)]) rfl (hb hby at_81) (pc' := 82) rfl ?_
  intro T29 h29 X29 e29 W29 V29_
  have N29 := Fr.snoc X29 N27 g_b1
  have Z29 : n0 ≤ h29.size := by rw [W29.size]; exact Z27
  refine o_dup X29 hx (hb hby at_82) (pc' := 83) rfl rfl ?_
  refine o_bipush X29 hx (14 : Int32) (hb hby at_83) (pc' := 85) rfl (by decide) ?_
  refine o_sipush X29 hx (8232 : Int32) (hb hby at_85) (pc' := 88) rfl (by decide) ?_
  refine o_iastore X29 hx hZ 14 e29 V29_ (by decide) (by decide) (by exact (by decide : 14 < 16)) (vs' := [.int (9 : Int32), .int (10 : Int32), .int (13 : Int32), .int (32 : Int32), .int (8 : Int32), .int (11 : Int32), .int (12 : Int32), .int (14 : Int32), .int (31 : Int32), .int (33 : Int32), .int (0 : Int32), .int (-1 : Int32), .int (133 : Int32), .int (160 : Int32), .int (8232 : Int32), .int (0 : Int32)]) rfl (hb hby at_88) (pc' := 89) rfl ?_
  intro T31 h31 X31 e31 W31 V31_
  have N31 := Fr.snoc X31 N29 g_b1
  have Z31 : n0 ≤ h31.size := by rw [W31.size]; exact Z29
  refine o_dup X31 hx (hb hby at_89) (pc' := 90) rfl rfl ?_
  refine o_bipush X31 hx (15 : Int32) (hb hby at_90) (pc' := 92) rfl (by decide) ?_
  refine o_sipush X31 hx (12288 : Int32) (hb hby at_92) (pc' := 95) rfl (by decide) ?_
  refine o_iastore X31 hx hZ 15 e31 V31_ (by decide) (by decide) (by exact (by decide : 15 < 16)) (vs' := [.int (9 : Int32), .int (10 : Int32), .int (13 : Int32), .int (32 : Int32), .int (8 : Int32), .int (11 : Int32), .int (12 : Int32), .int (14 : Int32), .int (31 : Int32), .int (33 : Int32), .int (0 : Int32), .int (-1 : Int32), .int (133 : Int32), .int (160 : Int32), .int (8232 : Int32), .int (12288 : Int32)]) rfl (hb hby at_95) (pc' := 96) rfl ?_
  intro T33 h33 X33 e33 W33 V33_
  have N33 := Fr.snoc X33 N31 g_b1
  have Z33 : n0 ≤ h33.size := by rw [W33.size]; exact Z31
  refine o_astoreN X33 hx (hb hby at_96) (pc' := 97) rfl (L' := #[.val (.int q0), .val (.int q1), .val (.ref b1), .unset, .unset, .unset]) rfl rfl ?_
  refine o_aloadN X33 hx (hb hby at_97) (pc' := 98) rfl rfl rfl ?_
  refine o_iloadN X33 hx (hb hby at_98) (pc' := 99) rfl rfl ?_
  refine o_bipush X33 hx (15 : Int32) (hb hby at_99) (pc' := 101) rfl (by decide) ?_
  refine o_iand X33 hx (hb hby at_101) (pc' := 102) rfl ?_
  refine o_iaload X33 hx hZ (.int (own_pick q1)) e33 V33_ (own_k15 q1) (own_pick_at q1) (hb hby at_102) (pc' := 103) rfl ?_
  refine o_istoreN X33 hx (hb hby at_103) (pc' := 104) rfl (L' := #[.val (.int q0), .val (.int q1), .val (.ref b1), .val (.int (own_pick q1)), .unset, .unset]) rfl ?_
  refine o_iloadN X33 hx (hb hby at_104) (pc' := 105) rfl rfl ?_
  refine o_callS X33 hx hZ 0 (argsL := [.int q0]) (rest := []) hown (w 1 _ rfl) (w 2 _ rfl) (w 3 _ rfl) (w 4 _ rfl) (by decide) (rm1 l Z a0 hw [] q0 h33 n0 Z33 ) (by decide) (by decide) (cells' := 1) rfl (slots' := 16) rfl (by decide) (by decide) e33 (by rw [hml]; rfl) (lenOf pd_0 rfl) rfl rfl (hb hby at_105) (pc' := 108) rfl ?_
  intro T35 v35 L35 X35 hQ35
  obtain ⟨rfl, Nq35, e35⟩ := hQ35
  have N35 := Fr.app N33 Nq35
  show Go p e below _ (T35.setTop (mkF m 108 _ [.int (own_f1_ret q0)]))
  refine o_iloadN X35 hx (hb hby at_108) (pc' := 109) rfl rfl ?_
  refine o_callS X35 hx hZ 1 (argsL := [.int q0]) (rest := [.int (own_f1_ret q0)]) hown (w 5 _ rfl) (w 6 _ rfl) (w 7 _ rfl) (w 8 _ rfl) (by decide) (rm2 l Z a0 hw [] q0 h33 n0 Z33 ) (by decide) (by decide) (cells' := 1) rfl (slots' := 16) rfl (by decide) (by decide) e35 (by rw [hml]; rfl) (lenOf pd_0 rfl) rfl rfl (hb hby at_109) (pc' := 112) rfl ?_
  intro T36 v36 L36 X36 hQ36
  obtain ⟨rfl, Nq36, e36⟩ := hQ36
  have N36 := Fr.app N35 Nq36
  show Go p e below _ (T36.setTop (mkF m 112 _ [.int (own_f2_ret q0), .int (own_f1_ret q0)]))
  have J120_1 : ∀ (z0 : Int32), z0 = (own_law_v120_1_S0 q0 q1) → Go p e below OWE (T36.setTop (mkF m 120 #[.val (.int q0), .val (.int q1), .val (.ref b1), .val (.int (own_pick q1)), .unset, .unset] [.int z0])) := by
    intro z0 yy0
    subst yy0
    refine o_istore X36 hx (hb hby at_120) (pc' := 122) rfl (L' := #[.val (.int q0), .val (.int q1), .val (.ref b1), .val (.int (own_pick q1)), .val (.int (own_law_v120_1_S0 q0 q1)), .unset]) rfl ?_
    refine o_iloadN X36 hx (hb hby at_122) (pc' := 123) rfl rfl ?_
    refine o_callS X36 hx hZ 0 (argsL := [.int (own_pick q1)]) (rest := []) hown (w 1 _ rfl) (w 2 _ rfl) (w 3 _ rfl) (w 4 _ rfl) (by decide) (rm1 l Z a0 hw [] (own_pick q1) h33 n0 Z33 ) (by decide) (by decide) (cells' := 1) rfl (slots' := 16) rfl (by decide) (by decide) e36 (by rw [hml]; rfl) (lenOf pd_0 rfl) rfl rfl (hb hby at_123) (pc' := 126) rfl ?_
    intro T38 v38 L38 X38 hQ38
    obtain ⟨rfl, Nq38, e38⟩ := hQ38
    have N38 := Fr.app N36 Nq38
    show Go p e below _ (T38.setTop (mkF m 126 _ [.int (own_f1_ret (own_pick q1))]))
    refine o_iloadN X38 hx (hb hby at_126) (pc' := 127) rfl rfl ?_
    refine o_callS X38 hx hZ 1 (argsL := [.int (own_pick q1)]) (rest := [.int (own_f1_ret (own_pick q1))]) hown (w 5 _ rfl) (w 6 _ rfl) (w 7 _ rfl) (w 8 _ rfl) (by decide) (rm2 l Z a0 hw [] (own_pick q1) h33 n0 Z33 ) (by decide) (by decide) (cells' := 1) rfl (slots' := 16) rfl (by decide) (by decide) e38 (by rw [hml]; rfl) (lenOf pd_0 rfl) rfl rfl (hb hby at_127) (pc' := 130) rfl ?_
    intro T39 v39 L39 X39 hQ39
    obtain ⟨rfl, Nq39, e39⟩ := hQ39
    have N39 := Fr.app N38 Nq39
    show Go p e below _ (T39.setTop (mkF m 130 _ [.int (own_f2_ret (own_pick q1)), .int (own_f1_ret (own_pick q1))]))
    have J138_2 : ∀ (z0 : Int32), z0 = (own_law_v138_2_S0 q0 q1) → Go p e below OWE (T39.setTop (mkF m 138 #[.val (.int q0), .val (.int q1), .val (.ref b1), .val (.int (own_pick q1)), .val (.int (own_law_v120_1_S0 q0 q1)), .unset] [.int z0])) := by
      intro z0 yy0
      subst yy0
      refine o_istore X39 hx (hb hby at_138) (pc' := 140) rfl (L' := #[.val (.int q0), .val (.int q1), .val (.ref b1), .val (.int (own_pick q1)), .val (.int (own_law_v120_1_S0 q0 q1)), .val (.int (own_law_v138_2_S0 q0 q1))]) rfl ?_
      refine o_iload X39 hx (hb hby at_140) (pc' := 142) rfl rfl ?_
      by_cases hc142_41 : (own_law_v120_1_S0 q0 q1) = (0 : Int32)
      · refine o_ifY X39 hx (hb hby at_142) (teq hc142_41).1 (by decide) (pc' := 154) (by decide) ?_
        refine o_iconst X39 hx (0 : Int32) (hb hby at_154) (pc' := 155) rfl (by decide) ?_
        rw [← hOWE]
        exact o_retZ X39 hx rfl hlk hrt (hb hby at_155) (by decide) (by decide) (by rw [e39]; exact ⟨(by rw [own_law_ret, own_law_ret_j120_1, own_law_ret_j138_2, if_pos hc142_41]), N39⟩)
      · refine o_ifN X39 hx (hb hby at_142) (feq hc142_41).1 (pc' := 145) rfl ?_
        refine o_iload X39 hx (hb hby at_145) (pc' := 147) rfl rfl ?_
        by_cases hc147_42 : (own_law_v138_2_S0 q0 q1) = (0 : Int32)
        · refine o_ifY X39 hx (hb hby at_147) (teq hc147_42).1 (by decide) (pc' := 154) (by decide) ?_
          refine o_iconst X39 hx (0 : Int32) (hb hby at_154) (pc' := 155) rfl (by decide) ?_
          rw [← hOWE]
          exact o_retZ X39 hx rfl hlk hrt (hb hby at_155) (by decide) (by decide) (by rw [e39]; exact ⟨(by rw [own_law_ret, own_law_ret_j120_1, own_law_ret_j138_2, if_neg hc142_41, if_pos hc147_42]), N39⟩)
        · refine o_ifN X39 hx (hb hby at_147) (feq hc147_42).1 (pc' := 150) rfl ?_
          refine o_iconst X39 hx (1 : Int32) (hb hby at_150) (pc' := 151) rfl (by decide) ?_
          refine o_goto X39 hx (hb hby at_151) (by decide) (pc' := 155) (by decide) ?_
          rw [← hOWE]
          exact o_retZ X39 hx rfl hlk hrt (hb hby at_155) (by decide) (by decide) (by rw [e39]; exact ⟨(by rw [own_law_ret, own_law_ret_j120_1, own_law_ret_j138_2, if_neg hc142_41, if_neg hc147_42]), N39⟩)
    by_cases hc130_40 : (own_f1_ret (own_pick q1)) = (own_f2_ret (own_pick q1))
    · refine o_cmpN X39 hx (hb hby at_130) (teq hc130_40).2 (pc' := 133) rfl ?_
      refine o_iconst X39 hx (1 : Int32) (hb hby at_133) (pc' := 134) rfl (by decide) ?_
      refine o_goto X39 hx (hb hby at_134) (by decide) (pc' := 138) (by decide) ?_
      exact J138_2 ((1 : Int32)) (by rw [own_law_v138_2_S0, if_pos hc130_40])
    · refine o_cmpY X39 hx (hb hby at_130) (feq hc130_40).2 (by decide) (pc' := 137) (by decide) ?_
      refine o_iconst X39 hx (0 : Int32) (hb hby at_137) (pc' := 138) rfl (by decide) ?_
      exact J138_2 ((0 : Int32)) (by rw [own_law_v138_2_S0, if_neg hc130_40])
  by_cases hc112_37 : (own_f1_ret q0) = (own_f2_ret q0)
  · refine o_cmpN X36 hx (hb hby at_112) (teq hc112_37).2 (pc' := 115) rfl ?_
    refine o_iconst X36 hx (1 : Int32) (hb hby at_115) (pc' := 116) rfl (by decide) ?_
    refine o_goto X36 hx (hb hby at_116) (by decide) (pc' := 120) (by decide) ?_
    exact J120_1 ((1 : Int32)) (by rw [own_law_v120_1_S0, if_pos hc112_37])
  · refine o_cmpY X36 hx (hb hby at_112) (feq hc112_37).2 (by decide) (pc' := 119) (by decide) ?_
    refine o_iconst X36 hx (0 : Int32) (hb hby at_119) (pc' := 120) rfl (by decide) ?_
    exact J120_1 ((0 : Int32)) (by rw [own_law_v120_1_S0, if_neg hc112_37])
theorem own_fin : ∀ n : Fin 64, own_f1_ret (Int32.ofNat n.val) = own_f2_ret (Int32.ofNat n.val) := by decide +kernel
theorem own_sp (x : Int32) : own_f1_ret x = own_f2_ret x := by
  by_cases h : ¬ x < 0 ∧ x < 64
  · have hx : x = Int32.ofNat x.toNatClampNeg := ((back32 h.1).1).symm
    have hn : x.toNatClampNeg < 64 := by
      have h1 := nat_of h.1
      have h2 := h.2
      rw [Int32.lt_iff_toInt_lt, show (64 : Int32).toInt = 64 from rfl] at h2
      omega
    have := own_fin ⟨x.toNatClampNeg, hn⟩
    rw [← hx] at this
    exact this
  · have n1 : ¬ x = 32 := fun q => h (by rw [q]; decide)
    have n2 : ¬ x = 9 := fun q => h (by rw [q]; decide)
    have n3 : ¬ x = 10 := fun q => h (by rw [q]; decide)
    have n4 : ¬ x = 13 := fun q => h (by rw [q]; decide)
    unfold own_f1_ret own_f2_ret
    rw [if_neg n1, if_neg n2, if_neg n3, if_neg n4]
    by_cases h1 : x < 0
    · rw [if_pos h1]
    · have h2 : ¬ x < 64 := fun q => h ⟨h1, q⟩
      rw [if_neg h1, if_neg h2]
theorem own_main (q0 q1 : Int32) : own_law_ret q0 q1 = 1 := by
  simp +decide [own_law_v120_1_S0, own_law_v138_2_S0, own_law_ret_j138_2, own_law_ret_j120_1, own_law_ret, own_sp]
set_option maxRecDepth 65536 in
set_option maxHeartbeats 40000000 in
theorem comes_1 {Post : Tables → Env → Array Value → State → Outcome → State → Prop} (hpost : ∀ tb e args s v u, (limb_1_1.after args s (.returned v) u = true ∧ limb_1_2.after args s (.returned v) u = true ∧ True) → FrameEnd s (.returned v) u (Jvm.fieldLocs frame_1_writes args s ++ Jvm.arrayLocs frame_1_arrays args s ++ Jvm.staticLocs frame_1_statics s) 16 128 → Post tb e args s (.returned v) u) :
    ArmFor flags0 classFile x code maxLocals ret World_1 tables_1 room_1 Calls_1 rest_1 Pre_1 Post := by
  intro l hfl _ _ p e ha hc hk s m args below hf hA hF happ hP
  obtain ⟨hcalls, hrest, hpre⟩ := hP
  obtain ⟨-, -, -, hnamed, -, -, -, hat⟩ := (Spec.applies_iff hf).mp happ
  obtain ⟨hg, hn⟩ := and_e (Cond.before_iff.mp (show (Jvm.Cond.and given_1 narrow_1).before args s = true from hpre))
  obtain ⟨hcnt, r0⟩ := and_e hg
  obtain ⟨a0, r1⟩ := and_e r0
  obtain ⟨w0, w1, rfl⟩ : ∃ w0 w1 : Value, args = #[w0, w1] := by
    have hs : args.size = 2 := by simpa [Cond.value, given_1] using hcnt
    obtain ⟨L⟩ := args
    match L, hs with
    | [w0, w1], _ => exact ⟨w0, w1, rfl⟩
  have hw := fun d (hd : d ∈ tables_1) => atoms_spec (ws := Jvm.Cond.code x code maxLocals ret :: tables_1) hat d (List.mem_cons_of_mem _ hd)
  obtain ⟨q0, y0⟩ := is_v a0
  obtain rfl : w0 = (.int q0) := Option.some.inj y0
  obtain ⟨q1, y1⟩ := is_v r1
  obtain rfl : w1 = (.int q1) := Option.some.inj y1
  obtain ⟨n, o, h1, h2, h3, _, L, rfl, ⟨rfl, N⟩, hq⟩ := rm0 l s _ hw tables_1 q0 q1 s.heap s.heap.size (Nat.le_refl _) p e ha hc hk s m _ below hf ((Spec.applies_iff_loose hf).mp happ).1 ⟨rfl, State.Warmed39.refl s, rfl⟩ trivial
  refine ⟨n, _, h1, h2, h3, hpost _ _ _ _ _ _ ⟨Cond.after_iff.mpr rfl, Cond.after_iff.mpr (eq_i res_at (Term.int_eval (1)) (congrArg Value.int (own_main q0 q1))), trivial⟩ ⟨hq.1, hq.2.1, (hq.2.2.sift fun y hy => Or.inr (N y hy)).mono (by decide) (by decide)⟩⟩
theorem main_1_1 : Claimed_1_1 := comes_1 fun _ _ _ _ _ _ h hF => ⟨h.1, hF⟩
theorem main_1_2 : Claimed_1_2 := comes_1 fun _ _ _ _ _ _ h hF => ⟨h.2.1, hF⟩
end Jvm.Pilot.@@N@@
namespace Jvm.Pilot.@@N@@
open Jvm Jvm.ClassFile Sem Op Lib Jvm.Free Jvm.Stand Jvm.Pilot.@@N@@.Jvm.D
/-! MADE BY PROGRAM (witnessworld.py) out of the Statement's table words and the real class files: 9 classes; the members and pool entries that the words name. The judged class is class 1, her method 2. -/
namespace start1
open Jvm.ClassFile
def u (s : String) : CpInfo := .utf8 (stringToUtf16 s)
/-- a pool by its gaps: so many unusable entries, then the entry; so many at the end -/
def gap : Nat → List CpInfo → List CpInfo
  | 0, r => r
  | n + 1, r => .unusable :: gap n r
def poolList (es : List (Nat × CpInfo)) (last : Nat) : List CpInfo := es.foldr (fun e r => gap e.1 (e.2 :: r)) (gap last [])
def pool (es : List (Nat × CpInfo)) (last : Nat) : Array CpInfo := ⟨poolList es last⟩
def fileOf (pool : Array CpInfo) (this : Nat) (attrs : Array Attribute := #[]) (ms : Array MethodInfo := #[]) (fl : Nat := 33) (sup : Nat := 0) (ifs : Array Nat := #[]) (fds : Array FieldInfo := #[]) : ClassFile where
  minorVersion := 0
  majorVersion := 65
  constantPool := pool
  accessFlags := fl
  thisClass := this
  superClass := sup
  interfaces := ifs
  fields := fds
  methods := ms
  attributes := attrs
def plain (name : String) (sup : Option ClassId) : Class where
  name := name
  kind := .ordinary
  loader := none
  accessFlags := 33
  super := sup
  interfaces := #[]
  cf := none
  fields := #[]
  methods := #[]
  instanceTypes := #[]
  staticTypes := #[]
  resolved := #[]
  callSites := []
  init := .initialized
  statics := none
  mirror := none

def pool0 : Array CpInfo := pool [(5, u "<init>"), (0, u "()V"), (1, .class_ 10), (1, u "java/lang/Object")] 113

def k0m0 : Method := { name := "<init>", desc := "()V", sig := { parameters := [], returnType := none }, accessFlags := 1, code := none }
/-- java/lang/Object -/
def k0 : Class := { plain "java/lang/Object" none with
  accessFlags := 33
  interfaces := #[]
  cf := some (fileOf pool0 8 #[] #[{ accessFlags := 1, nameIndex := 5, descriptorIndex := 6, attributes := #[] }] 33 0 #[] #[])
  fields := #[]
  methods := #[k0m0]
  instanceTypes := #[]
  staticTypes := #[]
  resolved := Array.replicate 124 none
  statics := none }

def pool1 : Array CpInfo := pool [(2, .class_ 4), (1, u "java/lang/Object"), (0, u "<init>"), (0, u "()V"), (0, .long 4294977024), (1, .methodref 10 11), (0, .class_ 12), (0, .nameAndType 13 14), (0, u "com/example/canopyguard/canopyguard/xml/XmlNames"), (0, u "isSpace"), (0, u "(I)Z"), (0, .methodref 16 17), (0, .class_ 18), (0, .nameAndType 19 14), (0, u "com/example/canopyguard/canopyguard/xml/XmlNamesIsSpacePinLaw"), (0, u "ref"), (3, u "law"), (0, u "(II)Z")] 4

def k1m0 : Method := { name := "<init>", desc := "()V", sig := { parameters := [], returnType := none }, accessFlags := 2, code := none }
def k1c1 : Code := { maxStack := 4, maxLocals := 3, code := method_2_code, exceptionTable := #[], attributes := #[] }
def k1m1 : Method := { name := "ref", desc := "(I)Z", sig := { parameters := [.int], returnType := some .boolean }, accessFlags := 10, code := some k1c1 }
def k1c2 : Code := { maxStack := 4, maxLocals := 6, code := code, exceptionTable := #[], attributes := #[] }
def k1m2 : Method := { name := "law", desc := "(II)Z", sig := { parameters := [.int, .int], returnType := some .boolean }, accessFlags := 9, code := some k1c2 }
/-- com/example/canopyguard/canopyguard/xml/XmlNamesIsSpacePinLaw -/
def k1 : Class := { plain "com/example/canopyguard/canopyguard/xml/XmlNamesIsSpacePinLaw" (some 0) with
  accessFlags := 49
  interfaces := #[]
  cf := some (fileOf pool1 16 #[] #[{ accessFlags := 2, nameIndex := 5, descriptorIndex := 6, attributes := #[] }, { accessFlags := 10, nameIndex := 19, descriptorIndex := 14, attributes := #[] }, { accessFlags := 9, nameIndex := 23, descriptorIndex := 24, attributes := #[] }] 49 2 #[] #[])
  fields := #[]
  methods := #[k1m0, k1m1, k1m2]
  instanceTypes := #[]
  staticTypes := #[]
  resolved := Array.replicate 29 none
  statics := none }

def pool2 : Array CpInfo := pool [(2, .class_ 4), (1, u "java/lang/Object"), (0, u "<init>"), (0, u "()V"), (7, .class_ 16), (1, u "com/example/canopyguard/canopyguard/xml/XmlNames"), (13, u "(I)Z"), (33, u "isSpace")] 19

def k2m0 : Method := { name := "<init>", desc := "()V", sig := { parameters := [], returnType := none }, accessFlags := 2, code := none }
def k2c1 : Code := { maxStack := 2, maxLocals := 1, code := prog_135_method_6_code, exceptionTable := #[], attributes := #[] }
def k2m1 : Method := { name := "isSpace", desc := "(I)Z", sig := { parameters := [.int], returnType := some .boolean }, accessFlags := 9, code := some k2c1 }
/-- com/example/canopyguard/canopyguard/xml/XmlNames -/
def k2 : Class := { plain "com/example/canopyguard/canopyguard/xml/XmlNames" (some 0) with
  accessFlags := 49
  interfaces := #[]
  cf := some (fileOf pool2 14 #[] #[{ accessFlags := 2, nameIndex := 5, descriptorIndex := 6, attributes := #[] }, { accessFlags := 9, nameIndex := 64, descriptorIndex := 30, attributes := #[] }] 49 2 #[] #[])
  fields := #[]
  methods := #[k2m0, k2m1]
  instanceTypes := #[]
  staticTypes := #[]
  resolved := Array.replicate 84 none
  statics := none }

def pool3 : Array CpInfo := pool [(1, u "java/lang/Cloneable"), (0, .class_ 1), (0, u "java/lang/Object"), (0, .class_ 3)] 3

/-- java/lang/Cloneable -/
def k3 : Class := { plain "java/lang/Cloneable" (some 0) with
  accessFlags := 1537
  interfaces := #[]
  cf := some (fileOf pool3 2 #[] #[] 1537 4 #[] #[])
  fields := #[]
  methods := #[]
  instanceTypes := #[]
  staticTypes := #[]
  resolved := Array.replicate 8 none
  statics := none }

def pool4 : Array CpInfo := pool [(1, u "java/io/Serializable"), (0, .class_ 1), (0, u "java/lang/Object"), (0, .class_ 3)] 3

/-- java/io/Serializable -/
def k4 : Class := { plain "java/io/Serializable" (some 0) with
  accessFlags := 1537
  interfaces := #[]
  cf := some (fileOf pool4 2 #[] #[] 1537 4 #[] #[])
  fields := #[]
  methods := #[]
  instanceTypes := #[]
  staticTypes := #[]
  resolved := Array.replicate 8 none
  statics := none }

/-- the primitive byte -/
def k5 : Class := { plain "byte" none with kind := .primitive 'B', accessFlags := 0x411 }
/-- [B -/
def k6 : Class := { plain "[B" (some 0) with kind := .array 5 .byte, interfaces := #[3, 4], accessFlags := 1041 }

/-- the primitive int -/
def k7 : Class := { plain "int" none with kind := .primitive 'I', accessFlags := 0x411 }
/-- [I -/
def k8 : Class := { plain "[I" (some 0) with kind := .array 7 .int, interfaces := #[3, 4], accessFlags := 1041 }

def heap : Heap := #[]
def classes : Array Class := #[k0, k1, k2, k3, k4, k5, k6, k7, k8]
def interned : List (Array UInt16 × Addr) := []
def slotsUsed : Nat := 0
def theMethod : MethodId := ⟨1, 2⟩
def args0 : Array Value := #[.int 5, .int 7]
def aboutOver (below : List Frame) : State where
  vm := { classes := classes, interned := interned.toArray }
  heap := heap
  slotsUsed := slotsUsed
  threads := #[{ frames := .invoking theMethod args0 :: below }]
def below0 : List Frame := [.native { method := ⟨0, 0⟩, args := #[] }]
def about1 : State := aboutOver below0
def p0 : Program := .bare "" "" ""
def e0 : Env := launch0.env 0 0 0
theorem w_frames : about1.frames = Frame.invoking theMethod args0 :: below0 := rfl
set_option maxRecDepth 65536 in
theorem w_args : argsFit about1.vm theMethod args0 = true := by decide +kernel
set_option maxRecDepth 65536 in
theorem w_heap : heapFits about1 = true := by decide +kernel
set_option maxRecDepth 65536 in
theorem w_runnable : about1.curStatus? = some .runnable := by decide +kernel
set_option maxRecDepth 65536 in
theorem w_alone : about1.alone = true := by decide +kernel
set_option maxRecDepth 65536 in
theorem w_named : about1.methodNamed? x = some theMethod := by decide +kernel
set_option maxRecDepth 65536 in
theorem w_hears : about1.hears theMethod below0 = true := by decide +kernel
set_option maxRecDepth 65536 in
theorem w_ripe : about1.ripe theMethod args0 below0 = true := by decide +kernel
theorem w_running : about1.status = .running := rfl
set_option maxRecDepth 65536 in
theorem w_room : about1.hasRoom e0.platform room_1 = true :=
  launch0.hasRoom_least _ room_1 (by decide +kernel) (by decide +kernel) (by decide +kernel) (by decide +kernel) (by decide +kernel) (by decide +kernel)
theorem allAtoms_all (ts : List Jvm.Cond) (a : Array Jvm.Value) (st : Jvm.State) : (allAtoms ts).before a st = ts.all (fun c => c.before a st) := by
  induction ts with
  | nil => rfl
  | cons c t ih =>
    show (Jvm.Cond.and c (allAtoms t)).before a st = _
    rw [Jvm.Cond.before_and, ih, List.all_cons]
def words1 : List Jvm.Cond := Jvm.Cond.code x code maxLocals ret :: tables_1
/-- a 'code' word, met by the world's own term for the bytes: nothing is compared byte by byte -/
theorem code_word {y : MethodName} {bytes : ByteArray} {mx : Nat} {rt : Option FieldType} {a : Array Value} {s : State} {m : MethodId} {meth : Method} {c : Code} (h1 : s.methodNamed? y = some m) (h2 : s.vm.method? m = some meth) (h3 : meth.code = some c) (h4 : c.code = bytes)
    (h5 : (c.maxLocals == mx && c.exceptionTable.isEmpty && decide (c.maxStack ≤ mostOperands) && decide (meth.sig.returnType = rt) && !meth.locks && decide (parseMethodDescriptor y.desc = some meth.sig)) = true) : (Jvm.Cond.code y bytes mx rt).before a s = true := by
  simp only [Bool.and_eq_true, beq_iff_eq, Bool.not_eq_true', decide_eq_true_eq] at h5
  obtain ⟨⟨⟨⟨⟨g1, g2⟩, g3⟩, g4⟩, g5⟩, g6⟩ := h5
  simp [Cond.before, Cond.holds, Cond.value, h1, h2, h3, h4, g1, g2, g3, g4, g5, g6]
def isCode : Jvm.Cond → Bool
  | .code _ _ _ _ => true
  | _ => false
theorem all_split {L : List Jvm.Cond} {P : Jvm.Cond → Bool} (h1 : L.all (fun c => isCode c || P c) = true) (h2 : ∀ c ∈ L.filter isCode, P c = true) : L.all P = true := by
  refine List.all_eq_true.mpr fun c hc => ?_
  have h := List.all_eq_true.mp h1 c hc
  rcases Bool.eq_false_or_eq_true (isCode c) with hi | hi
  · exact h2 c (List.mem_filter.mpr ⟨hc, hi⟩)
  · simpa [hi] using h
set_option maxRecDepth 65536 in
theorem w_c0 : (Jvm.Cond.code x code maxLocals ret).before args0 about1 = true := code_word (m := ⟨1, 2⟩) (meth := k1m2) (c := k1c2) (by decide +kernel) rfl rfl rfl (by decide +kernel)
set_option maxRecDepth 65536 in
theorem w_c1 : (Jvm.Cond.code ({ cls := "com/example/canopyguard/canopyguard/xml/XmlNames", name := "isSpace", desc := "(I)Z" } : Jvm.MethodName) prog_135_method_6_code (1 : Nat) (Option.some Jvm.ClassFile.FieldType.boolean)).before args0 about1 = true := code_word (m := ⟨2, 1⟩) (meth := k2m1) (c := k2c1) (by decide +kernel) rfl rfl rfl (by decide +kernel)
set_option maxRecDepth 65536 in
theorem w_c2 : (Jvm.Cond.code ({ cls := "com/example/canopyguard/canopyguard/xml/XmlNamesIsSpacePinLaw", name := "ref", desc := "(I)Z" } : Jvm.MethodName) method_2_code (3 : Nat) (Option.some Jvm.ClassFile.FieldType.boolean)).before args0 about1 = true := code_word (m := ⟨1, 1⟩) (meth := k1m1) (c := k1c1) (by decide +kernel) rfl rfl rfl (by decide +kernel)
def codes1 : List Jvm.Cond := [Jvm.Cond.code x code maxLocals ret, Jvm.Cond.code ({ cls := "com/example/canopyguard/canopyguard/xml/XmlNames", name := "isSpace", desc := "(I)Z" } : Jvm.MethodName) prog_135_method_6_code (1 : Nat) (Option.some Jvm.ClassFile.FieldType.boolean), Jvm.Cond.code ({ cls := "com/example/canopyguard/canopyguard/xml/XmlNamesIsSpacePinLaw", name := "ref", desc := "(I)Z" } : Jvm.MethodName) method_2_code (3 : Nat) (Option.some Jvm.ClassFile.FieldType.boolean)]
set_option maxRecDepth 65536 in
theorem codes_eq : words1.filter isCode = codes1 := rfl
theorem w_codes : ∀ c ∈ words1.filter isCode, c.before args0 about1 = true := by
  rw [codes_eq]
  intro c hc
  simp only [codes1, List.mem_cons, List.not_mem_nil, or_false] at hc
  rcases hc with rfl | rfl | rfl
  · exact w_c0
  · exact w_c1
  · exact w_c2
set_option maxRecDepth 65536 in
theorem w_t1 : words1.all (fun c => isCode c || c.before args0 about1) = true := by decide +kernel
theorem w_tables : (allAtoms (Jvm.Cond.code x code maxLocals ret :: tables_1)).before args0 about1 = true := by
  rw [allAtoms_all]
  show words1.all (fun c => c.before args0 about1) = true
  refine all_split ?_ w_codes
  rw [w_t1]
set_option maxRecDepth 65536 in
theorem w_case : (Jvm.Cond.and given_1 narrow_1).before args0 about1 = true := by decide +kernel
theorem w_applies : (headSpec (Jvm.Cond.code x code maxLocals ret :: tables_1) room_1).applies x e0.platform about1 = true :=
  (Spec.applies_iff w_frames).mpr ⟨w_running, w_runnable, w_alone, w_named, w_hears, w_ripe, w_room, w_tables⟩
theorem atStart : AtStart classFile x code maxLocals ret World_1 tables_1 room_1 Calls_1 rest_1 Pre_1 launch0 p0 e0 about1 theMethod args0 below0 :=
  ⟨lists_1, trivial, launch0.admits_env _ _ _, launch0.least_env, fairChoices_fair.cas, fairChoices_fair.clock, w_frames, w_args, w_heap, w_applies, trivial, trivial, w_case⟩
end start1
theorem witness_1 : WitnessClaimed_1 := ⟨start1.p0, start1.e0, start1.about1, start1.theMethod, start1.args0, start1.below0, start1.atStart⟩
end Jvm.Pilot.@@N@@
