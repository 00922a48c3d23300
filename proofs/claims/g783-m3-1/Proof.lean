import JvmDerived
import JvmDerived.Pilot.@@N@@Statement
import JvmDerived.Pilot.@@N@@Code
set_option linter.unusedVariables false
set_option linter.unusedSimpArgs false
namespace Jvm.Pilot.@@N@@
open Jvm Jvm.ClassFile Sem Op Lib Jvm.Free Jvm.Stand Jvm.LawKit Jvm.RoadKit Bundle Jvm.Pilot.@@N@@.Jvm.D
/-- the body's goal from a state on -/
def Go (p : Program) (e : Env) (below : List Frame) (P : Outcome → State → Prop) (U : State) : Prop :=
  ∃ s₂ o, Steps p.tables e below U s₂ ∧ s₂.status = .running ∧ Ended s₂ below o ∧ P o s₂
/-- the unsigned shifts, the remainders -/
def uI (x y : Int32) : Int32 := (x.toUInt32 >>> (y &&& 31).toUInt32).toInt32
def uL (x : Int64) (y : Int32) : Int64 := (x.toUInt64 >>> (y &&& 0x3f).toInt64.toUInt64).toInt64
def sL (x : Int64) (y : Int32) : Int64 := x >>> (y &&& 0x3f).toInt64
def lL (x : Int64) (y : Int32) : Int64 := x <<< (y &&& 0x3f).toInt64
section Own
variable {p : Program} {l : Launch} {e : Env} {R : Room} {s : State} {m : MethodId} {args : Array Value} {below : List Frame} {meth : Method} {c : Code} {T : State} {locs : List Loc} {cells slots : Nat} {P : Outcome → State → Prop} {pc pc' : Nat} {L L' : Array Slot} {S : List Value} {Z : State} {a0 : Array Value} {h : Heap}
theorem Go.via {U U' : State} (q : ∀ t, Steps p.tables e below U' t → Steps p.tables e below U t) (k : Go p e below P U') : Go p e below P U := by
  obtain ⟨s₂, o, h1, h2⟩ := k
  exact ⟨s₂, o, q _ h1, h2⟩
theorem Go.tr {U U' : State} (q : Steps p.tables e below U U') (k : Go p e below P U') : Go p e below P U := k.via fun _ h => q.trans h
theorem o_iload (X : Stand p l e R s m args below meth c T locs cells slots) (hx : p.tables.exec = Jvm.exec) {k : Nat} {v : Int32} (hd : decode c.code pc = .ok (.iload k, 2)) (hp : pc + 2 = pc') (hl : L[k]? = some (.val (.int v))) (K : Go p e below P (T.setTop (mkF m pc' L (.int v :: S)))) : Go p e below P (T.setTop (mkF m pc L (S))) := by
  subst hp; exact K.via fun t k => XS.iload X.here hx rfl hd hl k
theorem o_lload (X : Stand p l e R s m args below meth c T locs cells slots) (hx : p.tables.exec = Jvm.exec) {k : Nat} {v : Int64} (hd : decode c.code pc = .ok (.lload k, 2)) (hp : pc + 2 = pc') (hl : L[k]? = some (.val (.long v))) (K : Go p e below P (T.setTop (mkF m pc' L (.long v :: S)))) : Go p e below P (T.setTop (mkF m pc L (S))) := by
  subst hp; exact K.via fun t k => XS.lload X.here hx rfl hd hl k
theorem o_lloadN (X : Stand p l e R s m args below meth c T locs cells slots) (hx : p.tables.exec = Jvm.exec) {k : Fin 4} {v : Int64} (hd : decode c.code pc = .ok (.lload_n k, 1)) (hp : pc + 1 = pc') (hl : L[k.val]? = some (.val (.long v))) (K : Go p e below P (T.setTop (mkF m pc' L (.long v :: S)))) : Go p e below P (T.setTop (mkF m pc L (S))) := by
  subst hp; exact K.via fun t k => XS.lloadN X.here hx rfl hd hl k
theorem o_aload (X : Stand p l e R s m args below meth c T locs cells slots) (hx : p.tables.exec = Jvm.exec) {k : Nat} {v : Value} (hd : decode c.code pc = .ok (.aload k, 2)) (hp : pc + 2 = pc') (hl : L[k]? = some (.val v)) (hv : v.isRef = true) (K : Go p e below P (T.setTop (mkF m pc' L (v :: S)))) : Go p e below P (T.setTop (mkF m pc L (S))) := by
  subst hp; exact K.via fun t k => XS.aload X.here hx rfl hd hl hv k
theorem o_aloadN (X : Stand p l e R s m args below meth c T locs cells slots) (hx : p.tables.exec = Jvm.exec) {k : Fin 4} {v : Value} (hd : decode c.code pc = .ok (.aload_n k, 1)) (hp : pc + 1 = pc') (hl : L[k.val]? = some (.val v)) (hv : v.isRef = true) (K : Go p e below P (T.setTop (mkF m pc' L (v :: S)))) : Go p e below P (T.setTop (mkF m pc L (S))) := by
  subst hp; exact K.via fun t k => XS.aloadN X.here hx rfl hd hl hv k
theorem o_istore (X : Stand p l e R s m args below meth c T locs cells slots) (hx : p.tables.exec = Jvm.exec) {k : Nat} {x : Int32} (hd : decode c.code pc = .ok (.istore k, 2)) (hp : pc + 2 = pc') (hl : storeLocals L k (.int x) = some L') (K : Go p e below P (T.setTop (mkF m pc' L' (S)))) : Go p e below P (T.setTop (mkF m pc L (.int x :: S))) := by
  subst hp; exact K.via fun t k => XS.istore X.here hx rfl hd rfl hl k
theorem o_lstore (X : Stand p l e R s m args below meth c T locs cells slots) (hx : p.tables.exec = Jvm.exec) {k : Nat} {x : Int64} (hd : decode c.code pc = .ok (.lstore k, 2)) (hp : pc + 2 = pc') (hl : storeLocals L k (.long x) = some L') (K : Go p e below P (T.setTop (mkF m pc' L' (S)))) : Go p e below P (T.setTop (mkF m pc L (.long x :: S))) := by
  subst hp; exact K.via fun t k => XS.lstore X.here hx rfl hd rfl hl k
theorem o_lstoreN (X : Stand p l e R s m args below meth c T locs cells slots) (hx : p.tables.exec = Jvm.exec) {k : Fin 4} {x : Int64} (hd : decode c.code pc = .ok (.lstore_n k, 1)) (hp : pc + 1 = pc') (hl : storeLocals L k.val (.long x) = some L') (K : Go p e below P (T.setTop (mkF m pc' L' (S)))) : Go p e below P (T.setTop (mkF m pc L (.long x :: S))) := by
  subst hp; exact K.via fun t k => XS.lstoreN X.here hx rfl hd rfl hl k
theorem o_astore (X : Stand p l e R s m args below meth c T locs cells slots) (hx : p.tables.exec = Jvm.exec) {k : Nat} {x : Value} (hd : decode c.code pc = .ok (.astore k, 2)) (hp : pc + 2 = pc') (hv : x.isRef = true) (hl : storeLocals L k x = some L') (K : Go p e below P (T.setTop (mkF m pc' L' (S)))) : Go p e below P (T.setTop (mkF m pc L (x :: S))) := by
  subst hp; exact K.via fun t k => XS.astore X.here hx rfl hd rfl hv hl k
theorem o_iconst (X : Stand p l e R s m args below meth c T locs cells slots) (hx : p.tables.exec = Jvm.exec) {i : Int} (v : Int32) (hd : decode c.code pc = .ok (.iconst i, 1)) (hp : pc + 1 = pc') (hv : Int32.ofInt i = v) (K : Go p e below P (T.setTop (mkF m pc' L (.int v :: S)))) : Go p e below P (T.setTop (mkF m pc L (S))) := by
  subst hp; exact K.via fun t k => XS.iconst X.here hx rfl hd (hv ▸ k)
theorem o_bipush (X : Stand p l e R s m args below meth c T locs cells slots) (hx : p.tables.exec = Jvm.exec) {i : Int} (v : Int32) (hd : decode c.code pc = .ok (.bipush i, 2)) (hp : pc + 2 = pc') (hv : (Int8.ofInt i).toInt32 = v) (K : Go p e below P (T.setTop (mkF m pc' L (.int v :: S)))) : Go p e below P (T.setTop (mkF m pc L (S))) := by
  subst hp; exact K.via fun t k => XS.bipush X.here hx rfl hd (hv ▸ k)
theorem o_lconst (X : Stand p l e R s m args below meth c T locs cells slots) (hx : p.tables.exec = Jvm.exec) {i : Fin 2} (v : Int64) (hd : decode c.code pc = .ok (.lconst i, 1)) (hp : pc + 1 = pc') (hv : Int64.ofNat i = v) (K : Go p e below P (T.setTop (mkF m pc' L (.long v :: S)))) : Go p e below P (T.setTop (mkF m pc L (S))) := by
  subst hp; exact K.via fun t k => XS.lconst X.here hx rfl hd (hv ▸ k)
theorem o_iand (X : Stand p l e R s m args below meth c T locs cells slots) (hx : p.tables.exec = Jvm.exec) {x y : Int32} (hd : decode c.code pc = .ok (.iand, 1)) (hp : pc + 1 = pc')  (K : Go p e below P (T.setTop (mkF m pc' L (.int (x &&& y) :: S)))) : Go p e below P (T.setTop (mkF m pc L (.int y :: .int x :: S))) := by
  subst hp; exact K.via fun t k => XS.iand X.here hx rfl hd rfl k
theorem o_ladd (X : Stand p l e R s m args below meth c T locs cells slots) (hx : p.tables.exec = Jvm.exec) {x y : Int64} (hd : decode c.code pc = .ok (.ladd, 1)) (hp : pc + 1 = pc')  (K : Go p e below P (T.setTop (mkF m pc' L (.long (x + y) :: S)))) : Go p e below P (T.setTop (mkF m pc L (.long y :: .long x :: S))) := by
  subst hp; exact K.via fun t k => XS.ladd X.here hx rfl hd rfl k
theorem o_lsub (X : Stand p l e R s m args below meth c T locs cells slots) (hx : p.tables.exec = Jvm.exec) {x y : Int64} (hd : decode c.code pc = .ok (.lsub, 1)) (hp : pc + 1 = pc')  (K : Go p e below P (T.setTop (mkF m pc' L (.long (x - y) :: S)))) : Go p e below P (T.setTop (mkF m pc L (.long y :: .long x :: S))) := by
  subst hp; exact K.via fun t k => XS.lsub X.here hx rfl hd rfl k
theorem o_lmul (X : Stand p l e R s m args below meth c T locs cells slots) (hx : p.tables.exec = Jvm.exec) {x y : Int64} (hd : decode c.code pc = .ok (.lmul, 1)) (hp : pc + 1 = pc')  (K : Go p e below P (T.setTop (mkF m pc' L (.long (x * y) :: S)))) : Go p e below P (T.setTop (mkF m pc L (.long y :: .long x :: S))) := by
  subst hp; exact K.via fun t k => XS.lmul X.here hx rfl hd rfl k
theorem o_lxor (X : Stand p l e R s m args below meth c T locs cells slots) (hx : p.tables.exec = Jvm.exec) {x y : Int64} (hd : decode c.code pc = .ok (.lxor, 1)) (hp : pc + 1 = pc')  (K : Go p e below P (T.setTop (mkF m pc' L (.long (x ^^^ y) :: S)))) : Go p e below P (T.setTop (mkF m pc L (.long y :: .long x :: S))) := by
  subst hp; exact K.via fun t k => XS.lxor X.here hx rfl hd rfl k
theorem o_lushr (X : Stand p l e R s m args below meth c T locs cells slots) (hx : p.tables.exec = Jvm.exec) {x : Int64} {y : Int32} (hd : decode c.code pc = .ok (.lushr, 1)) (hp : pc + 1 = pc')  (K : Go p e below P (T.setTop (mkF m pc' L (.long (uL x y) :: S)))) : Go p e below P (T.setTop (mkF m pc L (.int y :: .long x :: S))) := by
  subst hp; exact K.via fun t k => XS.lushr X.here hx rfl hd rfl k
theorem o_irem (X : Stand p l e R s m args below meth c T locs cells slots) (hx : p.tables.exec = Jvm.exec) {x y : Int32} (hd : decode c.code pc = .ok (.irem, 1)) (hp : pc + 1 = pc') (hy : y ≠ 0) (K : Go p e below P (T.setTop (mkF m pc' L (.int (x % y) :: S)))) : Go p e below P (T.setTop (mkF m pc L (.int y :: .int x :: S))) := by
  subst hp; exact K.via fun t k => Jvm.RoadKit.iremM (g := mkF m pc L (.int y :: .int x :: S)) X hx rfl hd rfl hy k
theorem o_dup (X : Stand p l e R s m args below meth c T locs cells slots) (hx : p.tables.exec = Jvm.exec) {x : Value} (hd : decode c.code pc = .ok (.dup, 1)) (hp : pc + 1 = pc') (hc : x.category = 1) (K : Go p e below P (T.setTop (mkF m pc' L (x :: x :: S)))) : Go p e below P (T.setTop (mkF m pc L (x :: S))) := by
  subst hp; exact K.via fun t k => XS.dup X.here hx rfl hd rfl hc k
theorem o_iinc (X : Stand p l e R s m args below meth c T locs cells slots) (hx : p.tables.exec = Jvm.exec) {k : Nat} {i : Int} {v v' : Int32} (hd : decode c.code pc = .ok (.iinc k i, 3)) (hp : pc + 3 = pc') (hl : L[k]? = some (.val (.int v))) (hv : v + Int32.ofInt i = v') (hs : storeLocals L k (.int v') = some L') (K : Go p e below P (T.setTop (mkF m pc' L' S))) : Go p e below P (T.setTop (mkF m pc L S)) := by
  subst hp hv; exact K.via fun t k => XS.iinc X.here hx rfl hd hl hs k
theorem o_goto (X : Stand p l e R s m args below meth c T locs cells slots) (hx : p.tables.exec = Jvm.exec) {o : Int} (hd : decode c.code pc = .ok (.goto o, 3)) (ho : 0 ≤ (pc : Int) + o) (hp : ((pc : Int) + o).toNat = pc') (K : Go p e below P (T.setTop (mkF m pc' L S))) : Go p e below P (T.setTop (mkF m pc L S)) :=
  K.via fun t k => XS.goto X.here hx rfl rfl hd ho hp k
theorem o_ifY (X : Stand p l e R s m args below meth c T locs cells slots) (hx : p.tables.exec = Jvm.exec) {cd : ClassFile.Cond} {x : Int32} {o : Int} (hd : decode c.code pc = .ok (.ifCond cd o, 3)) (hc : if_icmp.holds cd x 0 = true) (ho : 0 ≤ (pc : Int) + o) (hp : ((pc : Int) + o).toNat = pc') (K : Go p e below P (T.setTop (mkF m pc' L S))) : Go p e below P (T.setTop (mkF m pc L (.int x :: S))) :=
  K.via fun t k => XS.ifYes X.here hx rfl rfl hd rfl ((if0 _ _).trans hc) ho hp k
theorem o_ifN (X : Stand p l e R s m args below meth c T locs cells slots) (hx : p.tables.exec = Jvm.exec) {cd : ClassFile.Cond} {x : Int32} {o : Int} (hd : decode c.code pc = .ok (.ifCond cd o, 3)) (hc : if_icmp.holds cd x 0 = false) (hp : pc + 3 = pc') (K : Go p e below P (T.setTop (mkF m pc' L S))) : Go p e below P (T.setTop (mkF m pc L (.int x :: S))) := by
  subst hp; exact K.via fun t k => XS.ifNo X.here hx rfl hd rfl ((if0 _ _).trans hc) k
theorem o_cmpY (X : Stand p l e R s m args below meth c T locs cells slots) (hx : p.tables.exec = Jvm.exec) {cd : ClassFile.Cond} {x y : Int32} {o : Int} (hd : decode c.code pc = .ok (.if_icmp cd o, 3)) (hc : if_icmp.holds cd x y = true) (ho : 0 ≤ (pc : Int) + o) (hp : ((pc : Int) + o).toNat = pc') (K : Go p e below P (T.setTop (mkF m pc' L S))) : Go p e below P (T.setTop (mkF m pc L (.int y :: .int x :: S))) :=
  K.via fun t k => XS.icmpYes X.here hx rfl rfl hd rfl hc ho hp k
theorem o_cmpN (X : Stand p l e R s m args below meth c T locs cells slots) (hx : p.tables.exec = Jvm.exec) {cd : ClassFile.Cond} {x y : Int32} {o : Int} (hd : decode c.code pc = .ok (.if_icmp cd o, 3)) (hc : if_icmp.holds cd x y = false) (hp : pc + 3 = pc') (K : Go p e below P (T.setTop (mkF m pc' L S))) : Go p e below P (T.setTop (mkF m pc L (.int y :: .int x :: S))) := by
  subst hp; exact K.via fun t k => XS.icmpNo X.here hx rfl hd rfl hc k
theorem o_lcmp (X : Stand p l e R s m args below meth c T locs cells slots) (hx : p.tables.exec = Jvm.exec) {x y : Int64} (hd : decode c.code pc = .ok (.lcmp, 1)) (hp : pc + 1 = pc') (K : Go p e below P (T.setTop (mkF m pc' L (.int (lcmpW x y) :: S)))) : Go p e below P (T.setTop (mkF m pc L (.long y :: .long x :: S))) := by
  subst hp; exact K.via fun t k => XS.lcmp X.here hx rfl hd rfl k
theorem tltL {x y : Int64} (q : x < y) : if_icmp.holds .lt (lcmpW x y) 0 = true ∧ if_icmp.holds .ge (lcmpW x y) 0 = false ∧ if_icmp.holds .gt (lcmpW y x) 0 = true ∧ if_icmp.holds .le (lcmpW y x) 0 = false :=
  ⟨(tlt ((lw_lt x y).mpr q)).1, (tlt ((lw_lt x y).mpr q)).2.1, (tlt ((lw_gt y x).mpr q)).2.2.1, (tlt ((lw_gt y x).mpr q)).2.2.2⟩
theorem fltL {x y : Int64} (q : ¬ x < y) : if_icmp.holds .lt (lcmpW x y) 0 = false ∧ if_icmp.holds .ge (lcmpW x y) 0 = true ∧ if_icmp.holds .gt (lcmpW y x) 0 = false ∧ if_icmp.holds .le (lcmpW y x) 0 = true :=
  ⟨(flt (mt (lw_lt x y).mp q)).1, (flt (mt (lw_lt x y).mp q)).2.1, (flt (mt (lw_gt y x).mp q)).2.2.1, (flt (mt (lw_gt y x).mp q)).2.2.2⟩
theorem teqL {x y : Int64} (q : x = y) : if_icmp.holds .eq (lcmpW x y) 0 = true ∧ if_icmp.holds .ne (lcmpW x y) 0 = false := teq ((lw_eq x y).mpr q)
theorem feqL {x y : Int64} (q : ¬ x = y) : if_icmp.holds .eq (lcmpW x y) 0 = false ∧ if_icmp.holds .ne (lcmpW x y) 0 = true := feq (mt (lw_eq x y).mp q)
theorem o_ldcI (X : Stand p l e R s m args below meth c T locs cells slots) (hx : p.tables.exec = Jvm.exec) (hZ : Z.Warmed39 s.vm) {own : String} {index : Nat} (v : Int32) (hown : s.vm.findClass own = some m.cls) (w : (Cond.constant own index v).before a0 Z = true) (hd : decode c.code pc = .ok (.ldc index, 2)) (hp : pc + 2 = pc') (K : Go p e below P (T.setTop (mkF m pc' L (.int v :: S)))) : Go p e below P (T.setTop (mkF m pc L S)) := by
  subst hp; exact K.via (X.ldcInt hx hown (mvT hZ w) (g := mkF m pc L S) rfl hd)
theorem o_ldcJ (X : Stand p l e R s m args below meth c T locs cells slots) (hx : p.tables.exec = Jvm.exec) (hZ : Z.Warmed39 s.vm) {own : String} {index : Nat} (v : Int64) (hown : s.vm.findClass own = some m.cls) (w : (Cond.constantLong own index v).before a0 Z = true) (hd : decode c.code pc = .ok (.ldc2_w index, 3)) (hp : pc + 3 = pc') (K : Go p e below P (T.setTop (mkF m pc' L (.long v :: S)))) : Go p e below P (T.setTop (mkF m pc L S)) := by
  subst hp; exact K.via (X.ldc2Long hx hown (mvT hZ w) (g := mkF m pc L S) rfl hd)
/-- what a body's end owes -/
abbrev Owe (s : State) (Q : Option Value → Heap → List Loc → Prop) (C D : Nat) : Outcome → State → Prop := fun o U' => ∃ v L, o = .returned v ∧ Q v U'.heap L ∧ FrameEnd s o U' L C D
/-- a body's contract -/
abbrev Con (l : Launch) (y : MethodName) (bytes : ByteArray) (ml : Nat) (ret : Option FieldType) (ws : List Jvm.Cond) (rm : Room) (as' : Array Value) (Z : State) (h0 : Heap) (Q : Option Value → Heap → List Loc → Prop) (C D : Nat) : Prop :=
  MetFree l y (head1 (Jvm.Cond.code y bytes ml ret :: ws) rm) (fun b U => b = as' ∧ Z.Warmed39 U.vm ∧ U.heap = h0) (fun _ _ _ _ _ => True) (fun _ U o U' => ∃ v L, o = .returned v ∧ Q v U'.heap L ∧ FrameEnd U o U' L C D)
theorem own_body {y : MethodName} {bytes : ByteArray} {ml : Nat} {ret : Option FieldType} {ws : List Jvm.Cond} {rm : Room} {as' : Array Value} {h0 : Heap} {Q : Option Value → Heap → List Loc → Prop} {C D : Nat} (hpl : plainFor y = true)
    (K : ∀ (p : Program) (e : Env) (s : State) (m : MethodId) (below : List Frame) (meth : Method) (c : Code) (s₁ : State), p.tables.exec = Jvm.exec → c.code = bytes → meth.locks = false → c.maxLocals = ml → s.vm.findClass y.cls = some m.cls → meth.name = y.name → meth.sig.returnType = ret → Z.Warmed39 s.vm →
      Stand p l e rm s m as' below meth c s₁ [] 0 0 → s₁.heap = h0 → Go p e below (Owe s Q C D) (s₁.setTop (entryFrame m as' ml))) : Con l y bytes ml ret ws rm as' Z h0 Q C D := by
  refine MetFree.of_bodySF hpl hisR ?_
  intro p e s m args below meth c s₁ Bd hml0 hP hK
  obtain ⟨rfl, hZ, hh⟩ := hP
  exact K p e s m below meth c s₁ Bd.exec Bd.bytes (BodyLoose.notSynchronized Bd) hml0 (findClass_of_methodNamed Bd.named) (name_of_methodNamed Bd.named Bd.method).1 Bd.returns hZ (Stand.of_body Bd) (by rw [← hh, Bd.state]; rfl)
theorem o_ret (X : Stand p l e R s m args below meth c T locs cells slots) (hx : p.tables.exec = Jvm.exec) {Q : Option Value → Heap → List Loc → Prop} {C D : Nat} {w : Value} {t : FieldType} {i : Instr} (hlocks : meth.locks = false) (hret : meth.sig.returnType = some t) (hn : narrow t w = w)
    (hi : (i = .ireturn ∧ (t = .int ∨ t = .boolean ∨ t = .byte ∨ t = .char ∨ t = .short) ∧ ∃ z, w = .int z) ∨ (i = .lreturn ∧ t = .long ∧ ∃ z, w = .long z) ∨ (i = .dreturn ∧ t = .double ∧ ∃ z, w = .double z) ∨ (i = .freturn ∧ t = .float ∧ ∃ z, w = .float z) ∨ (i = .areturn ∧ t.isReference = true ∧ w.isRef = true))
    (hd : decode c.code pc = .ok (i, 1)) (hc : cells ≤ C) (hs : slots ≤ D) (hq : Q (some w) T.heap locs) : Go p e below (Owe s Q C D) (T.setTop (mkF m pc L (w :: S))) := by
  obtain ⟨fs, hr, hrun, hended, hW, hsame⟩ := X.leave (v := some w) (fun h => by rw [hret] at h; cases h) hlocks
  exact ⟨_, _, retOut X hx hret hn hi hd hr, hrun, hended, _, _, rfl, hq, ⟨_, rfl⟩, hW, hsame.mono hc hs⟩
theorem o_retJ (X : Stand p l e R s m args below meth c T locs cells slots) (hx : p.tables.exec = Jvm.exec) {Q : Option Value → Heap → List Loc → Prop} {C D : Nat} {z : Int64} (hlocks : meth.locks = false) (hret : meth.sig.returnType = some .long) (hd : decode c.code pc = .ok (.lreturn, 1)) (hc : cells ≤ C) (hs : slots ≤ D) (hq : Q (some (.long z)) T.heap locs) : Go p e below (Owe s Q C D) (T.setTop (mkF m pc L (.long z :: S))) :=
  o_ret X hx hlocks hret rfl (Or.inr (Or.inl ⟨rfl, rfl, z, rfl⟩)) hd hc hs hq
theorem o_retZ (X : Stand p l e R s m args below meth c T locs cells slots) (hx : p.tables.exec = Jvm.exec) {Q : Option Value → Heap → List Loc → Prop} {C D : Nat} {z : Int32} (hz : narrow .boolean (.int z) = .int z) (hlocks : meth.locks = false) (hret : meth.sig.returnType = some .boolean) (hd : decode c.code pc = .ok (.ireturn, 1)) (hc : cells ≤ C) (hs : slots ≤ D) (hq : Q (some (.int z)) T.heap locs) : Go p e below (Owe s Q C D) (T.setTop (mkF m pc L (.int z :: S))) :=
  o_ret X hx hlocks hret hz (Or.inl ⟨rfl, Or.inr (Or.inl rfl), z, rfl⟩) hd hc hs hq
theorem o_retV (X : Stand p l e R s m args below meth c T locs cells slots) (hx : p.tables.exec = Jvm.exec) {Q : Option Value → Heap → List Loc → Prop} {C D : Nat} (hlocks : meth.locks = false) (hret : meth.sig.returnType = none) (hd : decode c.code pc = .ok (.return_, 1)) (hc : cells ≤ C) (hs : slots ≤ D) (hq : Q none T.heap locs) : Go p e below (Owe s Q C D) (T.setTop (mkF m pc L [])) := by
  obtain ⟨fs, hr, hrun, hended, hW, hsame⟩ := X.leave (v := none) (fun _ => rfl) hlocks
  exact ⟨_, _, X.returnOut hx hret hd hr, hrun, hended, _, _, rfl, hq, ⟨_, rfl⟩, hW, hsame.mono hc hs⟩
theorem o_callS (X : Stand p l e R s m args below meth c T locs cells slots) (hx : p.tables.exec = Jvm.exec) (hZ : Z.Warmed39 s.vm) {own : String} {index : Nat} {y : MethodName} {bytes : ByteArray} {maxL : Nat} {ret : Option FieldType} {rm : Room} (W : Nat) {argsL rest : List Value} {Q : Option Value → Heap → List Loc → Prop} {cells' slots' : Nat}
    (hown : s.vm.findClass own = some m.cls) (w1 : (Cond.methodLink own index y).before a0 Z = true) (w2 : (Cond.static y).before a0 Z = true) (w3 : (Cond.initialized y.cls).before a0 Z = true) (w4 : (Cond.code y bytes maxL ret).before a0 Z = true) (hy : y.cls ≠ "java/lang/invoke/MethodHandle" ∧ y.cls ≠ "java/lang/invoke/VarHandle")
    (hM : MetFree l y (head1 [Cond.code y bytes maxL ret] rm) (fun a U => a = argsL.toArray ∧ Z.Warmed39 U.vm ∧ U.heap = h) (fun _ _ _ _ _ => True) (fun _ U o U' => ∃ v L, o = .returned v ∧ Q v U'.heap L ∧ FrameEnd U o U' L rm.cells rm.slots))
    (hf : rm.frames + 1 ≤ R.frames) (hl : W + (maxL + 11) + rm.locals ≤ R.locals) (hcc : cells + rm.cells = cells') (hss : slots + rm.slots = slots') (hc : cells' ≤ R.cells) (hs : slots' ≤ R.slots) (eT : T.heap = h) (hsize : L.size = c.maxLocals) (hlen : ∀ sig, parseMethodDescriptor y.desc = some sig → argsL.length = sig.parameters.length) (hstk : S = argsL.reverse ++ rest)
    (hW : (rest.map fun v => v.category).sum = W) (hd : decode c.code pc = .ok (.invokestatic index, 3)) (hp : pc + 3 = pc') (K : ∀ T' v Lc, Stand p l e R s m args below meth c T' (locs ++ Lc) cells' slots' → Q v T'.heap Lc → Go p e below P (T'.setTop (mkF m pc' L (v.toList ++ rest)))) : Go p e below P (T.setTop (mkF m pc L S)) := by
  subst hp hcc hss
  obtain ⟨v, _, ⟨T', L', k', n'⟩, -, X', ⟨Lc, hQ, l', y', z'⟩, st⟩ := Jvm.LawKit.callS X hx hown (mvT hZ w1) (mvT hZ w2) (mvT hZ w3) (mvT hZ w4) hy (backOf (W := W) hM hZ w4 w3 hf hl) (g := mkF m pc L S) rfl hsize (argsL := argsL) (rest := rest) hlen hstk (by show 2 * 0 + _ ≤ _; rw [hW]; exact Nat.le_of_eq (by simp)) hd (fun _ _ => ⟨rfl, eT, hc, hs⟩)
  dsimp only [Pt.U, Pt.locs, Pt.cells, Pt.slots] at X' l' y' z' st hQ
  subst l' y' z'
  exact (K T' v Lc X' hQ).via st
theorem o_callI (X : Stand p l e R s m args below meth c T locs cells slots) (hx : p.tables.exec = Jvm.exec) (hZ : Z.Warmed39 s.vm) {own : String} {index : Nat} {y : MethodName} {bytes : ByteArray} {maxL : Nat} {rm : Room} (W : Nat) {argsL rest : List Value} {a : Addr} {Q : Option Value → Heap → List Loc → Prop} {cells' slots' : Nat}
    (hn : y.name = "<init>") (hown : s.vm.findClass own = some m.cls) (w1 : (Cond.methodLink own index y).before a0 Z = true) (w2 : (Cond.instanceMethod y).before a0 Z = true) (w3 : (Cond.initialized y.cls).before a0 Z = true) (w4 : (Cond.code y bytes maxL none).before a0 Z = true) (hy : y.cls ≠ "java/lang/invoke/MethodHandle" ∧ y.cls ≠ "java/lang/invoke/VarHandle")
    (hM : MetFree l y (head1 [Cond.code y bytes maxL none] rm) (fun b U => b = (.ref a :: argsL).toArray ∧ Z.Warmed39 U.vm ∧ U.heap = h) (fun _ _ _ _ _ => True) (fun _ U o U' => ∃ v L, o = .returned v ∧ Q v U'.heap L ∧ FrameEnd U o U' L rm.cells rm.slots))
    (hf : rm.frames + 1 ≤ R.frames) (hl : W + (maxL + 11) + rm.locals ≤ R.locals) (hcc : cells + rm.cells = cells') (hss : slots + rm.slots = slots') (hc : cells' ≤ R.cells) (hs : slots' ≤ R.slots) (eT : T.heap = h) (hsize : L.size = c.maxLocals) (hlen : ∀ sig, parseMethodDescriptor y.desc = some sig → argsL.length = sig.parameters.length) (hstk : S = argsL.reverse ++ .ref a :: rest)
    (hW : (rest.map fun v => v.category).sum = W) (hd : decode c.code pc = .ok (.invokespecial index, 3)) (hp : pc + 3 = pc') (K : ∀ T' v Lc, Stand p l e R s m args below meth c T' (locs ++ Lc) cells' slots' → Q v T'.heap Lc → Go p e below P (T'.setTop (mkF m pc' L (v.toList ++ rest)))) : Go p e below P (T.setTop (mkF m pc L S)) := by
  subst hp hcc hss
  obtain ⟨v, _, ⟨T', L', k', n'⟩, -, X', ⟨Lc, hQ, l', y', z'⟩, st⟩ := X.specialBack hx hn hown (mvT hZ w1) (mvT hZ w2) (mvT hZ w4) hy (backOf (W := W) hM hZ w4 w3 hf hl) (g := mkF m pc L S) rfl hsize (Steps.refl _) (a := a) (argsL := argsL) (rest := rest) hlen hstk (by show 2 * 0 + _ ≤ _; rw [hW]; exact Nat.le_of_eq (by simp)) hd (fun _ _ => ⟨rfl, eT, hc, hs⟩)
  dsimp only [Pt.U, Pt.locs, Pt.cells, Pt.slots] at X' l' y' z' st hQ
  subst l' y' z'
  exact (K T' v Lc X' hQ).tr st
theorem o_callV (X : Stand p l e R s m args below meth c T locs cells slots) (hx : p.tables.exec = Jvm.exec) (hZ : Z.Warmed39 s.vm) {own C : String} {index : Nat} {y : MethodName} {bytes : ByteArray} {maxL : Nat} {ret : Option FieldType} {rm : Room} (W : Nat) {argsL rest : List Value} {a : Addr} {Q : Option Value → Heap → List Loc → Prop} {cells' slots' : Nat}
    (hown : s.vm.findClass own = some m.cls) (w1 : (Cond.methodLink own index y).before a0 Z = true) (w2 : (Cond.declares y).before a0 Z = true) (w5 : (Cond.selects C y y).before a0 Z = true) (w6 : (Cond.instanceMethod y).before a0 Z = true) (w3 : (Cond.initialized y.cls).before a0 Z = true) (w4 : (Cond.code y bytes maxL ret).before a0 Z = true) (hy : y.cls ≠ "java/lang/invoke/MethodHandle" ∧ y.cls ≠ "java/lang/invoke/VarHandle")
    (hM : MetFree l y (head1 [Cond.code y bytes maxL ret] rm) (fun b U => b = (.ref a :: argsL).toArray ∧ Z.Warmed39 U.vm ∧ U.heap = h) (fun _ _ _ _ _ => True) (fun _ U o U' => ∃ v L, o = .returned v ∧ Q v U'.heap L ∧ FrameEnd U o U' L rm.cells rm.slots))
    (hE : Exa Z h a C) (hf : rm.frames + 1 ≤ R.frames) (hl : W + (maxL + 11) + rm.locals ≤ R.locals) (hcc : cells + rm.cells = cells') (hss : slots + rm.slots = slots') (hc : cells' ≤ R.cells) (hs : slots' ≤ R.slots) (eT : T.heap = h) (hsize : L.size = c.maxLocals) (hlen : ∀ sig, parseMethodDescriptor y.desc = some sig → argsL.length = sig.parameters.length) (hstk : S = argsL.reverse ++ .ref a :: rest)
    (hW : (rest.map fun v => v.category).sum = W) (hd : decode c.code pc = .ok (.invokevirtual index, 3)) (hp : pc + 3 = pc') (K : ∀ T' v Lc, Stand p l e R s m args below meth c T' (locs ++ Lc) cells' slots' → Q v T'.heap Lc → Go p e below P (T'.setTop (mkF m pc' L (v.toList ++ rest)))) : Go p e below P (T.setTop (mkF m pc L S)) := by
  subst hp hcc hss
  obtain ⟨cq, kq, qa, qb, qc⟩ := isOf hZ eT hE
  obtain ⟨v, _, ⟨T', L', k', n'⟩, -, X', ⟨Lc, hQ, l', y', z'⟩, st⟩ := X.virtualBack hx (y := y) (z := y) hown (mvT hZ w1) (mvT hZ w2) (notFace_of_selects (args := #[]) (mvT hZ w5)) (mvT hZ w5) (mvT hZ w6) hy (backOf (W := W) hM hZ w4 w3 hf hl) qa qc (g := mkF m pc L S) rfl hsize (Steps.refl _) (argsL := argsL) (rest := rest) hlen hstk (by show 2 * 0 + _ ≤ _; rw [hW]; exact Nat.le_of_eq (by simp)) hd (fun _ _ => ⟨rfl, eT, hc, hs⟩)
  dsimp only [Pt.U, Pt.locs, Pt.cells, Pt.slots] at X' l' y' z' st hQ
  subst l' y' z'
  exact (K T' v Lc X' hQ).tr st
theorem o_new (X : Stand p l e R s m args below meth c T locs cells slots) (hx : p.tables.exec = Jvm.exec) (hZ : Z.Warmed39 s.vm) {own C : String} {index n : Nat} {cells' slots' : Nat} (hown : s.vm.findClass own = some m.cls) (w1 : (Cond.classLink own index C).before a0 Z = true) (w2 : (Cond.instantiable C n).before a0 Z = true) (w3 : (Cond.initialized C).before a0 Z = true) (eT : T.heap = h)
    (hd : decode c.code pc = .ok (.new index, 3)) (hp : pc + 3 = pc') (hcc : cells + 1 = cells') (hss : slots + n = slots') (hc : cells' ≤ R.cells) (hs : slots' ≤ R.slots)
    (K : ∀ T' h' a, a = h.size → Stand p l e R s m args below meth c T' locs cells' slots' → T'.heap = h' → Ext h h' → Exa Z h' a C → (∀ {O nm d : String} {ty : FieldType}, Laid Z a0 C O nm d → parseFieldDescriptor d = some ty → Fld Z h' a O nm d (defaultValue ty)) → Go p e below P (T'.setTop (mkF m pc' L (.ref a :: S)))) : Go p e below P (T.setTop (mkF m pc L S)) := by
  subst hp hcc hss
  obtain ⟨T', h', X', e', E', A', D', -, st⟩ := newO X hx hZ hown w1 w2 w3 eT (g := mkF m pc L S) rfl hd hc hs
  exact (K T' h' h.size rfl X' e' E' A' D').via st
theorem o_initO (X : Stand p l e R s m args below meth c T locs cells slots) (hx : p.tables.exec = Jvm.exec) (hZ : Z.Warmed39 s.vm) {own : String} {index : Nat} {a : Addr} (W : Nat) (hown : s.vm.findClass own = some m.cls) (w1 : (Cond.methodLink own index Lib.objectInit).before a0 Z = true) (w2 : (Cond.instanceMethod Lib.objectInit).before a0 Z = true) (w3 : (Cond.code Lib.objectInit ⟨#[0xb1]⟩ 1 none).before a0 Z = true) (eT : T.heap = h) (hsize : L.size = c.maxLocals)
    (hd : decode c.code pc = .ok (.invokespecial index, 3)) (hp : pc + 3 = pc') (hf : 1 ≤ R.frames) (hW : (S.map fun v => v.category).sum = W) (hl : W + 12 ≤ R.locals) (K : ∀ T', Stand p l e R s m args below meth c T' locs cells slots → T'.heap = h → Go p e below P (T'.setTop (mkF m pc' L S))) : Go p e below P (T.setTop (mkF m pc L (.ref a :: S))) := by
  subst hp
  obtain ⟨T', X', e', st⟩ := initO X hx hZ hown w1 w2 w3 eT (g := mkF m pc L (.ref a :: S)) rfl hsize rfl hd hf (W := W) (by show 2 * 0 + _ ≤ _; rw [hW]; exact Nat.le_of_eq (by simp)) hl
  exact (K T' X' e').via st
theorem o_getF (X : Stand p l e R s m args below meth c T locs cells slots) (hx : p.tables.exec = Jvm.exec) (hZ : Z.Warmed39 s.vm) {own O n d : String} {index : Nat} {a : Addr} {v : Value} (hown : s.vm.findClass own = some m.cls) (w : (Cond.fieldLink own index O n d).before a0 Z = true) (eT : T.heap = h) (F : Fld Z h a O n d v) (hd : decode c.code pc = .ok (.getfield index, 3)) (hp : pc + 3 = pc')
    (K : ∀ T', Stand p l e R s m args below meth c T' locs cells slots → T'.heap = h → Go p e below P (T'.setTop (mkF m pc' L (v :: S)))) : Go p e below P (T.setTop (mkF m pc L (.ref a :: S))) := by
  subst hp
  obtain ⟨T', X', e', st⟩ := getF X hx hZ hown (host := "") (Or.inl w) Via.refl eT F (g := mkF m pc L (.ref a :: S)) rfl rfl hd
  exact (K T' X' e').via st
theorem o_putF (X : Stand p l e R s m args below meth c T locs cells slots) (hx : p.tables.exec = Jvm.exec) (hZ : Z.Warmed39 s.vm) {own O n d C : String} {index kk : Nat} {a : Addr} {v old : Value} {ty : FieldType} (hown : s.vm.findClass own = some m.cls) (w : (Cond.fieldLink own index O n d).before a0 Z = true) (eT : T.heap = h) (F : Fld Z h a O n d old) (E : Exa Z h a C)
    (LL : (Cond.lays C O n d).before a0 Z = true ∨ ((Cond.laysFinal C O n d).before a0 Z = true ∧ own = O ∧ meth.name = "<init>")) (wi : (Cond.instantiable C kk).before a0 Z = true) (hty : parseFieldDescriptor d = some ty) (hn : narrow ty v = v) (hf : fits ty v = true) (hd : decode c.code pc = .ok (.putfield index, 3)) (hp : pc + 3 = pc')
    (K : ∀ T' h', Stand p l e R s m args below meth c T' (locs ++ [⟨a, Jvm.RoadKit.slotOf Z O n d⟩]) cells slots → T'.heap = h' → Wr h h' a (Jvm.RoadKit.slotOf Z O n d) v → Go p e below P (T'.setTop (mkF m pc' L S))) : Go p e below P (T.setTop (mkF m pc L (v :: .ref a :: S))) := by
  subst hp
  obtain ⟨T', h', X', e', W', st⟩ := putF X hx hZ hown (host := "") (Or.inl w) Via.refl eT F E LL wi hty hn hf (g := mkF m pc L (v :: .ref a :: S)) rfl rfl hd
  exact (K T' h' X' e' W').via st
theorem o_newP (X : Stand p l e R s m args below meth c T locs cells slots) (hx : p.tables.exec = Jvm.exec) (hZ : Z.Warmed39 s.vm) {aty : ArrayType} {n : Int32} {cells' slots' : Nat} (cap : Nat) (w : (Cond.arrayClass (newarray.typeOf aty)).before a0 Z = true) (eT : T.heap = h) (hd : decode c.code pc = .ok (.newarray aty, 2)) (hp : pc + 2 = pc') (hn : ¬ n < 0) (hcap : n.toNatClampNeg ≤ cap) (hb : cap * 8 ≤ 536870912) (hcc : cells + 1 = cells') (hss : slots + cap = slots') (hc : cells' ≤ R.cells) (hs : slots' ≤ R.slots)
    (K : ∀ T' h' a k, a = h.size → Stand p l e R s m args below meth c T' locs cells' slots' → T'.heap = h' → Ext h h' → Arv Z h' a k (newarray.typeOf aty) n [] (defaultValue (newarray.typeOf aty)) → Go p e below P (T'.setTop (mkF m pc' L (.ref a :: S)))) : Go p e below P (T.setTop (mkF m pc L (.int n :: S))) := by
  subst hp hcc hss
  obtain ⟨T', h', cA, X', e', E', A', st⟩ := newP X hx hZ w eT (g := mkF m pc L (.int n :: S)) rfl hd rfl hn hcap hb hc hs
  exact (K T' h' h.size cA rfl X' e' E' (Arv.new A' hn)).via st
theorem own_inb {Zx : State} {hh : Heap} {a : Addr} {k : ClassId} {ty : FieldType} {n j : Int32} {vs : List Value} {d : Value} (hj : ¬ j < 0 ∧ j < n) (V : Arv Zx hh a k ty n vs d) : ∃ cl : Cell, Arr Zx hh a cl ty ∧ cl.cls = k ∧ cl.slots.size = n.toNatClampNeg ∧ ¬ n < 0 ∧ Has cl vs d ∧ (∀ i, i < cl.slots.size → fits ty (vs.getD i d) = true) ∧ ¬ (j < 0 ∨ cl.slots.size ≤ j.toNatClampNeg) ∧ cl.slots[j.toNatClampNeg]? = some (vs.getD j.toNatClampNeg d) := by
  obtain ⟨cl, h1, h2, h3, h4, h5, h6⟩ := V
  have hin := inb_of h3 hj
  exact ⟨cl, h1, h2, h3, h4, h5, h6, hin, h5.at hin rfl⟩
theorem o_laload (X : Stand p l e R s m args below meth c T locs cells slots) (hx : p.tables.exec = Jvm.exec) (hZ : Z.Warmed39 s.vm) {a : Addr} {k : ClassId} {n j : Int32} {vs : List Value} {d : Value} (v : Value) (eT : T.heap = h) (V : Arv Z h a k .long n vs d) (hj : ¬ j < 0 ∧ j < n) (hv : vs.getD j.toNatClampNeg d = v) (hd : decode c.code pc = .ok (.laload, 1)) (hp : pc + 1 = pc') (K : Go p e below P (T.setTop (mkF m pc' L (v :: S)))) : Go p e below P (T.setTop (mkF m pc L (.int j :: .ref a :: S))) := by
  subst hp hv
  obtain ⟨cl, A, -, -, -, -, -, hin, hat⟩ := own_inb hj V
  exact K.via fun t k => X.laload hx (j := j) (by rw [eT]; exact A.1) (State.isArrayOf_alike hZ.alike A.2.1) A.2.2 hin hat (g := mkF m pc L (.int j :: .ref a :: S)) rfl rfl hd t k
theorem o_lastore (X : Stand p l e R s m args below meth c T locs cells slots) (hx : p.tables.exec = Jvm.exec) (hZ : Z.Warmed39 s.vm) {a : Addr} {k : ClassId} {n j : Int32} {x : Int64} {vs vs' : List Value} {d : Value} (i : Nat) (eT : T.heap = h) (V : Arv Z h a k .long n vs d) (hj : ¬ j < 0 ∧ j < n) (hji : j.toNatClampNeg = i) (hi : i < vs.length) (hvs : vs.set i (.long x) = vs') (hd : decode c.code pc = .ok (.lastore, 1)) (hp : pc + 1 = pc')
    (K : ∀ T' h', Stand p l e R s m args below meth c T' (locs ++ [⟨a, i⟩]) cells slots → T'.heap = h' → Wr h h' a i (.long x) → Arv Z h' a k .long n vs' d → Go p e below P (T'.setTop (mkF m pc' L S))) : Go p e below P (T.setTop (mkF m pc L (.long x :: .int j :: .ref a :: S))) := by
  subst hp hvs hji
  obtain ⟨cl, A, q1, q2, q3, q4, q5, hin, hat⟩ := own_inb hj V
  obtain ⟨T', h', X', e', W', st⟩ := stJ X hx hZ eT A hin (g := mkF m pc L (.long x :: .int j :: .ref a :: S)) rfl rfl hd
  exact (K T' h' X' e' W' (Arv.set A q1 q2 q3 q4 q5 rfl W' _ rfl hi)).via st
theorem o_arraylength (X : Stand p l e R s m args below meth c T locs cells slots) (hx : p.tables.exec = Jvm.exec) (hZ : Z.Warmed39 s.vm) {a : Addr} {k : ClassId} {n : Int32} {ty : FieldType} {vs : List Value} {d : Value} (eT : T.heap = h) (V : Arv Z h a k ty n vs d) (hd : decode c.code pc = .ok (.arraylength, 1)) (hp : pc + 1 = pc') (K : Go p e below P (T.setTop (mkF m pc' L (.int n :: S)))) : Go p e below P (T.setTop (mkF m pc L (.ref a :: S))) := by
  subst hp
  obtain ⟨cl, A, q1, q2, q3, q4, q5⟩ := V
  rw [← len_of q2 q3] at K
  exact K.via fun t k => X.arraylength hx (by rw [eT]; exact A.1) (State.isArrayOf_alike hZ.alike A.2.1) (g := mkF m pc L (.ref a :: S)) rfl rfl hd t k
/-- a longer list said of an array: the rest holds its first value -/
theorem own_fill {Zx : State} {hh : Heap} {a : Addr} {k : ClassId} {ty : FieldType} {n : Int32} {d : Value} (i : Nat) (V : Arv Zx hh a k ty n [] d) : Arv Zx hh a k ty n (List.replicate i d) d := V.pad (pad_rep [] d i)
end Own
theorem pd_0 : parseMethodDescriptor "(J)J" = some ⟨[.long], some .long⟩ := by decide +kernel
theorem pd_1 : parseMethodDescriptor "(J)V" = some ⟨[.long], none⟩ := by decide +kernel
theorem pd_2 : parseMethodDescriptor "()J" = some ⟨[], some .long⟩ := by decide +kernel
theorem pd_3 : parseMethodDescriptor "(J[J)J" = some ⟨[.long, (.array .long)], some .long⟩ := by decide +kernel
theorem d5_0 : decode prog_58_method_6_code 0 = .ok (.lload_n 0, 1) := by decide +kernel
theorem d5_1 : decode prog_58_method_6_code 1 = .ok (.lstore_n 2, 1) := by decide +kernel
theorem d5_2 : decode prog_58_method_6_code 2 = .ok (.lload_n 2, 1) := by decide +kernel
theorem d5_3 : decode prog_58_method_6_code 3 = .ok (.lload_n 2, 1) := by decide +kernel
theorem d5_4 : decode prog_58_method_6_code 4 = .ok (.bipush 30, 2) := by decide +kernel
theorem d5_6 : decode prog_58_method_6_code 6 = .ok (.lushr, 1) := by decide +kernel
theorem d5_7 : decode prog_58_method_6_code 7 = .ok (.lxor, 1) := by decide +kernel
theorem d5_8 : decode prog_58_method_6_code 8 = .ok (.ldc2_w 34, 3) := by decide +kernel
theorem d5_11 : decode prog_58_method_6_code 11 = .ok (.lmul, 1) := by decide +kernel
theorem d5_12 : decode prog_58_method_6_code 12 = .ok (.lstore_n 2, 1) := by decide +kernel
theorem d5_13 : decode prog_58_method_6_code 13 = .ok (.lload_n 2, 1) := by decide +kernel
theorem d5_14 : decode prog_58_method_6_code 14 = .ok (.lload_n 2, 1) := by decide +kernel
theorem d5_15 : decode prog_58_method_6_code 15 = .ok (.bipush 27, 2) := by decide +kernel
theorem d5_17 : decode prog_58_method_6_code 17 = .ok (.lushr, 1) := by decide +kernel
theorem d5_18 : decode prog_58_method_6_code 18 = .ok (.lxor, 1) := by decide +kernel
theorem d5_19 : decode prog_58_method_6_code 19 = .ok (.ldc2_w 36, 3) := by decide +kernel
theorem d5_22 : decode prog_58_method_6_code 22 = .ok (.lmul, 1) := by decide +kernel
theorem d5_23 : decode prog_58_method_6_code 23 = .ok (.lstore_n 2, 1) := by decide +kernel
theorem d5_24 : decode prog_58_method_6_code 24 = .ok (.lload_n 2, 1) := by decide +kernel
theorem d5_25 : decode prog_58_method_6_code 25 = .ok (.lload_n 2, 1) := by decide +kernel
theorem d5_26 : decode prog_58_method_6_code 26 = .ok (.bipush 31, 2) := by decide +kernel
theorem d5_28 : decode prog_58_method_6_code 28 = .ok (.lushr, 1) := by decide +kernel
theorem d5_29 : decode prog_58_method_6_code 29 = .ok (.lxor, 1) := by decide +kernel
theorem d5_30 : decode prog_58_method_6_code 30 = .ok (.lreturn, 1) := by decide +kernel
theorem pn_5 : plainName "com/example/darta/darta/experiment/SplitMix64" = true := by first | (simp [plainName, overriddenIn]; done) | decide +kernel
theorem ef_5 (m : MethodId) (x0 : Int64) : entryFrame m #[(.long x0)] 4 = mkF m 0 #[.val (.long x0), .second, .unset, .unset] [] := by first | (simp [entryFrame, mkF, argsToLocals, Value.category]; done) | rfl
def own_f5_x0 (x1 : Int64) : Int64 := ((x1 ^^^ (uL x1 (30 : Int32))) * (-4658895280553007687 : Int64))
def own_f5_x1 (x1 : Int64) : Int64 := (((own_f5_x0 x1) ^^^ (uL (own_f5_x0 x1) (27 : Int32))) * (-7723592293110705685 : Int64))
def own_f5_ret (x1 : Int64) : Int64 := ((own_f5_x1 x1) ^^^ (uL (own_f5_x1 x1) (31 : Int32)))
def Q5 (Z : State) (x1 : Int64) (h0 : Heap) (n0 : Nat) (v : Option Value) (h : Heap) (L : List Loc) : Prop := v = some (.long (own_f5_ret x1)) ∧ Fr n0 L ∧ h = h0
set_option maxRecDepth 65536 in
set_option maxHeartbeats 40000000 in
theorem rm5 (l : Launch) (Z : State) (a0 : Array Value) (hw : ∀ d ∈ tables_1, d.before a0 Z = true) (ws : List Jvm.Cond) (x1 : Int64) (h0 : Heap) (n0 : Nat) (Z0 : n0 ≤ h0.size)  :
    Con l (⟨"com/example/darta/darta/experiment/SplitMix64", "mix", "(J)J"⟩ : MethodName) prog_58_method_6_code 4 (some .long) ws ({ frames := 0, cells := 0, slots := 0, locals := 0 } : Room) #[(.long x1)] Z h0 (Q5 Z x1 h0 n0) ({ frames := 0, cells := 0, slots := 0, locals := 0 } : Room).cells ({ frames := 0, cells := 0, slots := 0, locals := 0 } : Room).slots := by
  refine own_body (plainFor_of_name pn_5) ?_
  intro p e s m below meth c s₁ hx hby hlk hml hown hnm hrt hZ X0 e0
  have w : ∀ (k : Nat) (d : Jvm.Cond), tables_1[k]? = some d → d.before a0 Z = true := fun k d h => hw d (List.mem_of_getElem? h)
  have N0 := Fr.nil n0
  rw [ef_5]
  generalize hOWE : Owe s _ _ _ = OWE
  refine o_lloadN X0 hx (hb hby d5_0) (pc' := 1) rfl rfl ?_
  refine o_lstoreN X0 hx (hb hby d5_1) (pc' := 2) rfl (L' := #[.val (.long x1), .second, .val (.long x1), .second]) rfl ?_
  refine o_lloadN X0 hx (hb hby d5_2) (pc' := 3) rfl rfl ?_
  refine o_lloadN X0 hx (hb hby d5_3) (pc' := 4) rfl rfl ?_
  refine o_bipush X0 hx (30 : Int32) (hb hby d5_4) (pc' := 6) rfl (by decide) ?_
  refine o_lushr X0 hx (hb hby d5_6) (pc' := 7) rfl ?_
  refine o_lxor X0 hx (hb hby d5_7) (pc' := 8) rfl ?_
  refine o_ldcJ X0 hx hZ (-4658895280553007687 : Int64) hown (w 25 _ rfl) (hb hby d5_8) (pc' := 11) rfl ?_
  refine o_lmul X0 hx (hb hby d5_11) (pc' := 12) rfl ?_
  refine o_lstoreN (x := (own_f5_x0 x1)) X0 hx (hb hby d5_12) (pc' := 13) rfl (L' := #[.val (.long x1), .second, .val (.long (own_f5_x0 x1)), .second]) rfl ?_
  refine o_lloadN X0 hx (hb hby d5_13) (pc' := 14) rfl rfl ?_
  refine o_lloadN X0 hx (hb hby d5_14) (pc' := 15) rfl rfl ?_
  refine o_bipush X0 hx (27 : Int32) (hb hby d5_15) (pc' := 17) rfl (by decide) ?_
  refine o_lushr X0 hx (hb hby d5_17) (pc' := 18) rfl ?_
  refine o_lxor X0 hx (hb hby d5_18) (pc' := 19) rfl ?_
  refine o_ldcJ X0 hx hZ (-7723592293110705685 : Int64) hown (w 26 _ rfl) (hb hby d5_19) (pc' := 22) rfl ?_
  refine o_lmul X0 hx (hb hby d5_22) (pc' := 23) rfl ?_
  refine o_lstoreN (x := (own_f5_x1 x1)) X0 hx (hb hby d5_23) (pc' := 24) rfl (L' := #[.val (.long x1), .second, .val (.long (own_f5_x1 x1)), .second]) rfl ?_
  refine o_lloadN X0 hx (hb hby d5_24) (pc' := 25) rfl rfl ?_
  refine o_lloadN X0 hx (hb hby d5_25) (pc' := 26) rfl rfl ?_
  refine o_bipush X0 hx (31 : Int32) (hb hby d5_26) (pc' := 28) rfl (by decide) ?_
  refine o_lushr X0 hx (hb hby d5_28) (pc' := 29) rfl ?_
  refine o_lxor X0 hx (hb hby d5_29) (pc' := 30) rfl ?_
  rw [← hOWE]
  exact o_retJ X0 hx hlk hrt (hb hby d5_30) (by decide) (by decide) (by rw [e0]; exact ⟨(by rw [own_f5_ret]), N0, rfl⟩)
theorem d2_0 : decode prog_58_method_1_code 0 = .ok (.aload_n 0, 1) := by decide +kernel
theorem d2_1 : decode prog_58_method_1_code 1 = .ok (.invokespecial 1, 3) := by decide +kernel
theorem d2_4 : decode prog_58_method_1_code 4 = .ok (.aload_n 0, 1) := by decide +kernel
theorem d2_5 : decode prog_58_method_1_code 5 = .ok (.lload_n 1, 1) := by decide +kernel
theorem d2_6 : decode prog_58_method_1_code 6 = .ok (.putfield 7, 3) := by decide +kernel
theorem d2_9 : decode prog_58_method_1_code 9 = .ok (.return_, 1) := by decide +kernel
theorem ef_2 (m : MethodId) (x0 : Addr) (x1 : Int64) : entryFrame m #[(.ref x0), (.long x1)] 3 = mkF m 0 #[.val (.ref x0), .val (.long x1), .second] [] := by first | (simp [entryFrame, mkF, argsToLocals, Value.category]; done) | rfl
def Q2 (Z : State) (aa : Addr) (u0 : Value) (x1 : Int64) (h0 : Heap) (n0 : Nat) (v : Option Value) (h : Heap) (L : List Loc) : Prop := v = none ∧ Fr n0 L ∧ Keep h0 h [aa] ∧ Exa Z h aa "com/example/darta/darta/experiment/SplitMix64" ∧ Fld Z h aa "com/example/darta/darta/experiment/SplitMix64" "state" "J" (.long x1)
set_option maxRecDepth 65536 in
set_option maxHeartbeats 40000000 in
theorem rm2 (l : Launch) (Z : State) (a0 : Array Value) (hw : ∀ d ∈ tables_1, d.before a0 Z = true) (ws : List Jvm.Cond) (aa : Addr) (u0 : Value) (x1 : Int64) (h0 : Heap) (n0 : Nat) (Z0 : n0 ≤ h0.size) (E_aa : Exa Z h0 aa "com/example/darta/darta/experiment/SplitMix64") (F_state_aa : Fld Z h0 aa "com/example/darta/darta/experiment/SplitMix64" "state" "J" u0) (g_aa : n0 ≤ aa) :
    Con l (⟨"com/example/darta/darta/experiment/SplitMix64", "<init>", "(J)V"⟩ : MethodName) prog_58_method_1_code 3 none ws ({ frames := 1, cells := 0, slots := 0, locals := 12 } : Room) #[(.ref aa), (.long x1)] Z h0 (Q2 Z aa u0 x1 h0 n0) ({ frames := 1, cells := 0, slots := 0, locals := 12 } : Room).cells ({ frames := 1, cells := 0, slots := 0, locals := 12 } : Room).slots := by
  refine own_body (plainFor_of_name pn_5) ?_
  intro p e s m below meth c s₁ hx hby hlk hml hown hnm hrt hZ X0 e0
  have w : ∀ (k : Nat) (d : Jvm.Cond), tables_1[k]? = some d → d.before a0 Z = true := fun k d h => hw d (List.mem_of_getElem? h)
  have N0 := Fr.nil n0
  have K0 := Keep.refl h0 [aa]
  rw [ef_2]
  generalize hOWE : Owe s _ _ _ = OWE
  refine o_aloadN X0 hx (hb hby d2_0) (pc' := 1) rfl rfl rfl ?_
  refine o_initO X0 hx hZ 0 hown (w 11 _ rfl) (w 12 _ rfl) (w 13 _ rfl) e0 (by rw [hml]; rfl) (hb hby d2_1) (pc' := 4) rfl (by decide) rfl (by decide) ?_
  intro T1 X1 e1
  refine o_aloadN X1 hx (hb hby d2_4) (pc' := 5) rfl rfl rfl ?_
  refine o_lloadN X1 hx (hb hby d2_5) (pc' := 6) rfl rfl ?_
  refine o_putF X1 hx hZ hown (w 14 _ rfl) e1 F_state_aa E_aa (Or.inl (w 15 _ rfl)) (w 6 _ rfl) (ty := .long) (by decide) rfl rfl (hb hby d2_6) (pc' := 9) rfl ?_
  intro T2 h2 X2 e2 W2
  have Fw2 := Fld.same W2 F_state_aa
  have E3_aa := Exa.wr W2 E_aa
  have N2 := Fr.snoc X2 N0 g_aa
  have Z2 : n0 ≤ h2.size := by rw [W2.size]; exact Z0
  have K2 := Keep.wr K0 W2 (Or.inl (List.mem_of_getElem? (i := 0) rfl))
  rw [← hOWE]
  exact o_retV X2 hx hlk hrt (hb hby d2_9) (by decide) (by decide) (by rw [e2]; exact ⟨rfl, N2, K2, E3_aa, Fw2⟩)
theorem d4_0 : decode prog_58_method_3_code 0 = .ok (.aload_n 0, 1) := by decide +kernel
theorem d4_1 : decode prog_58_method_3_code 1 = .ok (.dup, 1) := by decide +kernel
theorem d4_2 : decode prog_58_method_3_code 2 = .ok (.getfield 7, 3) := by decide +kernel
theorem d4_5 : decode prog_58_method_3_code 5 = .ok (.ldc2_w 13, 3) := by decide +kernel
theorem d4_8 : decode prog_58_method_3_code 8 = .ok (.ladd, 1) := by decide +kernel
theorem d4_9 : decode prog_58_method_3_code 9 = .ok (.putfield 7, 3) := by decide +kernel
theorem d4_12 : decode prog_58_method_3_code 12 = .ok (.aload_n 0, 1) := by decide +kernel
theorem d4_13 : decode prog_58_method_3_code 13 = .ok (.getfield 7, 3) := by decide +kernel
theorem d4_16 : decode prog_58_method_3_code 16 = .ok (.invokestatic 15, 3) := by decide +kernel
theorem d4_19 : decode prog_58_method_3_code 19 = .ok (.lreturn, 1) := by decide +kernel
theorem ef_4 (m : MethodId) (x0 : Addr) : entryFrame m #[(.ref x0)] 1 = mkF m 0 #[.val (.ref x0)] [] := by first | (simp [entryFrame, mkF, argsToLocals, Value.category]; done) | rfl
def own_f4_ret (y0 : Int64) : Int64 := (own_f5_ret (y0 + (-7046029254386353131 : Int64)))
def own_f4_F_aa_state (y0 : Int64) : Int64 := (y0 + (-7046029254386353131 : Int64))
def Q4 (Z : State) (aa : Addr) (y0 : Int64) (h0 : Heap) (n0 : Nat) (v : Option Value) (h : Heap) (L : List Loc) : Prop := v = some (.long (own_f4_ret y0)) ∧ Fr n0 L ∧ Keep h0 h [aa] ∧ Exa Z h aa "com/example/darta/darta/experiment/SplitMix64" ∧ Fld Z h aa "com/example/darta/darta/experiment/SplitMix64" "state" "J" (.long (own_f4_F_aa_state y0))
set_option maxRecDepth 65536 in
set_option maxHeartbeats 40000000 in
theorem rm4 (l : Launch) (Z : State) (a0 : Array Value) (hw : ∀ d ∈ tables_1, d.before a0 Z = true) (ws : List Jvm.Cond) (aa : Addr) (y0 : Int64) (h0 : Heap) (n0 : Nat) (Z0 : n0 ≤ h0.size) (E_aa : Exa Z h0 aa "com/example/darta/darta/experiment/SplitMix64") (F_state_aa : Fld Z h0 aa "com/example/darta/darta/experiment/SplitMix64" "state" "J" (.long y0)) (g_aa : n0 ≤ aa) :
    Con l (⟨"com/example/darta/darta/experiment/SplitMix64", "nextLong", "()J"⟩ : MethodName) prog_58_method_3_code 1 (some .long) ws ({ frames := 1, cells := 0, slots := 0, locals := 15 } : Room) #[(.ref aa)] Z h0 (Q4 Z aa y0 h0 n0) ({ frames := 1, cells := 0, slots := 0, locals := 15 } : Room).cells ({ frames := 1, cells := 0, slots := 0, locals := 15 } : Room).slots := by
  refine own_body (plainFor_of_name pn_5) ?_
  intro p e s m below meth c s₁ hx hby hlk hml hown hnm hrt hZ X0 e0
  have w : ∀ (k : Nat) (d : Jvm.Cond), tables_1[k]? = some d → d.before a0 Z = true := fun k d h => hw d (List.mem_of_getElem? h)
  have N0 := Fr.nil n0
  have K0 := Keep.refl h0 [aa]
  rw [ef_4]
  generalize hOWE : Owe s _ _ _ = OWE
  refine o_aloadN X0 hx (hb hby d4_0) (pc' := 1) rfl rfl rfl ?_
  refine o_dup X0 hx (hb hby d4_1) (pc' := 2) rfl rfl ?_
  refine o_getF X0 hx hZ hown (w 14 _ rfl) e0 F_state_aa (hb hby d4_2) (pc' := 5) rfl ?_
  intro T1 X1 e1
  refine o_ldcJ X1 hx hZ (-7046029254386353131 : Int64) hown (w 21 _ rfl) (hb hby d4_5) (pc' := 8) rfl ?_
  refine o_ladd X1 hx (hb hby d4_8) (pc' := 9) rfl ?_
  refine o_putF X1 hx hZ hown (w 14 _ rfl) e1 F_state_aa E_aa (Or.inl (w 15 _ rfl)) (w 6 _ rfl) (ty := .long) (by decide) rfl rfl (hb hby d4_9) (pc' := 12) rfl ?_
  intro T2 h2 X2 e2 W2
  have Fw2 := Fld.same W2 F_state_aa
  have E3_aa := Exa.wr W2 E_aa
  have N2 := Fr.snoc X2 N0 g_aa
  have Z2 : n0 ≤ h2.size := by rw [W2.size]; exact Z0
  have K2 := Keep.wr K0 W2 (Or.inl (List.mem_of_getElem? (i := 0) rfl))
  refine o_aloadN X2 hx (hb hby d4_12) (pc' := 13) rfl rfl rfl ?_
  refine o_getF X2 hx hZ hown (w 14 _ rfl) e2 Fw2 (hb hby d4_13) (pc' := 16) rfl ?_
  intro T4 X4 e4
  refine o_callS X4 hx hZ 0 (argsL := [.long (y0 + (-7046029254386353131 : Int64))]) (rest := []) hown (w 22 _ rfl) (w 23 _ rfl) (w 7 _ rfl) (w 24 _ rfl) (by decide) (rm5 l Z a0 hw [] (y0 + (-7046029254386353131 : Int64)) h2 n0 Z2 ) (by decide) (by decide) (cells' := 0) rfl (slots' := 0) rfl (by decide) (by decide) e4 (by rw [hml]; rfl) (lenOf pd_0 rfl) rfl rfl (hb hby d4_16) (pc' := 19) rfl ?_
  intro T5 v5 L5 X5 hQ5
  obtain ⟨rfl, Nq5, e5⟩ := hQ5
  have N5 := Fr.app N2 Nq5
  show Go p e below _ (T5.setTop (mkF m 19 _ [.long (own_f5_ret (y0 + (-7046029254386353131 : Int64)))]))
  rw [← hOWE]
  exact o_retJ X5 hx hlk hrt (hb hby d4_19) (by decide) (by decide) (by rw [e5]; exact ⟨(by rw [own_f4_ret]), N5, K2, E3_aa, (by rw [own_f4_F_aa_state]; exact Fw2)⟩)
theorem d1_0 : decode method_2_code 0 = .ok (.new 7, 3) := by decide +kernel
theorem d1_3 : decode method_2_code 3 = .ok (.dup, 1) := by decide +kernel
theorem d1_4 : decode method_2_code 4 = .ok (.lload_n 0, 1) := by decide +kernel
theorem d1_5 : decode method_2_code 5 = .ok (.invokespecial 9, 3) := by decide +kernel
theorem d1_8 : decode method_2_code 8 = .ok (.invokevirtual 12, 3) := by decide +kernel
theorem d1_11 : decode method_2_code 11 = .ok (.lreturn, 1) := by decide +kernel
theorem pn_1 : plainName "com/example/darta/darta/experiment/SplitMix64DerivePinLaw" = true := by first | (simp [plainName, overriddenIn]; done) | decide +kernel
theorem ef_1 (m : MethodId) (x0 : Int64) : entryFrame m #[(.long x0)] 2 = mkF m 0 #[.val (.long x0), .second] [] := by first | (simp [entryFrame, mkF, argsToLocals, Value.category]; done) | rfl
def Q1 (Z : State) (x1 : Int64) (h0 : Heap) (n0 : Nat) (v : Option Value) (h : Heap) (L : List Loc) : Prop := v = some (.long (own_f4_ret x1)) ∧ Fr n0 L ∧ Keep h0 h []
set_option maxRecDepth 65536 in
set_option maxHeartbeats 40000000 in
theorem rm1 (l : Launch) (Z : State) (a0 : Array Value) (hw : ∀ d ∈ tables_1, d.before a0 Z = true) (ws : List Jvm.Cond) (x1 : Int64) (h0 : Heap) (n0 : Nat) (Z0 : n0 ≤ h0.size)  :
    Con l (⟨"com/example/darta/darta/experiment/SplitMix64DerivePinLaw", "step", "(J)J"⟩ : MethodName) method_2_code 2 (some .long) ws ({ frames := 2, cells := 1, slots := 1, locals := 27 } : Room) #[(.long x1)] Z h0 (Q1 Z x1 h0 n0) ({ frames := 2, cells := 1, slots := 1, locals := 27 } : Room).cells ({ frames := 2, cells := 1, slots := 1, locals := 27 } : Room).slots := by
  refine own_body (plainFor_of_name pn_1) ?_
  intro p e s m below meth c s₁ hx hby hlk hml hown hnm hrt hZ X0 e0
  have w : ∀ (k : Nat) (d : Jvm.Cond), tables_1[k]? = some d → d.before a0 Z = true := fun k d h => hw d (List.mem_of_getElem? h)
  have N0 := Fr.nil n0
  have K0 := Keep.refl h0 []
  rw [ef_1]
  generalize hOWE : Owe s _ _ _ = OWE
  refine o_new X0 hx hZ hown (w 5 _ rfl) (w 6 _ rfl) (w 7 _ rfl) e0 (hb hby d1_0) (pc' := 3) rfl (cells' := 1) rfl (slots' := 1) rfl (by decide) (by decide) ?_
  intro T1 h1 b1 qa1 X1 e1 Ex1 A1 D1
  have g_b1 : n0 ≤ b1 := by rw [qa1]; exact Z0
  have sz_b1 : h0.size ≤ b1 := by rw [qa1]; exact K0.1
  have Z1 : n0 ≤ h1.size := Nat.le_trans Z0 Ex1.1
  have K1 := Keep.ext K0 Ex1
  have D1_state : Fld Z h1 b1 "com/example/darta/darta/experiment/SplitMix64" "state" "J" (.long (0 : Int64)) := D1 (Or.inl (w 15 _ rfl)) (ty := .long) (by decide)
  refine o_dup X1 hx (hb hby d1_3) (pc' := 4) rfl rfl ?_
  refine o_lloadN X1 hx (hb hby d1_4) (pc' := 5) rfl rfl ?_
  refine o_callI X1 hx hZ 1 (argsL := [.long x1]) (rest := [.ref b1]) (a := b1) rfl hown (w 8 _ rfl) (w 9 _ rfl) (w 7 _ rfl) (w 10 _ rfl) (by decide) (rm2 l Z a0 hw [] b1 (.long (0 : Int64)) x1 h1 n0 Z1 A1 D1_state g_b1) (by decide) (by decide) (cells' := 1) rfl (slots' := 1) rfl (by decide) (by decide) e1 (by rw [hml]; rfl) (lenOf pd_1 rfl) rfl rfl (hb hby d1_5) (pc' := 8) rfl ?_
  intro T3 v3 L3 X3 hQ3
  obtain ⟨rfl, Nq3, Kq3, P3_0, P3_1⟩ := hQ3
  have N3 := Fr.app N0 Nq3
  have Z3 : n0 ≤ T3.heap.size := Nat.le_trans Z1 Kq3.1
  have K3 := Keep.trans K1 Kq3 (allS (Or.inr sz_b1) all0)
  show Go p e below _ (T3.setTop (mkF m 8 _ [.ref b1]))
  refine o_callV X3 hx hZ 0 (argsL := []) (rest := []) (a := b1) hown (w 16 _ rfl) (w 17 _ rfl) (w 19 _ rfl) (w 18 _ rfl) (w 7 _ rfl) (w 20 _ rfl) (by decide) (rm4 l Z a0 hw [] b1 x1 T3.heap n0 Z3 P3_0 P3_1 g_b1) P3_0 (by decide) (by decide) (cells' := 1) rfl (slots' := 1) rfl (by decide) (by decide) rfl (by rw [hml]; rfl) (lenOf pd_2 rfl) rfl rfl (hb hby d1_8) (pc' := 11) rfl ?_
  intro T5 v5 L5 X5 hQ5
  obtain ⟨rfl, Nq5, Kq5, P5_0, P5_1⟩ := hQ5
  have N5 := Fr.app N3 Nq5
  have Z5 : n0 ≤ T5.heap.size := Nat.le_trans Z3 Kq5.1
  have K5 := Keep.trans K3 Kq5 (allS (Or.inr sz_b1) all0)
  show Go p e below _ (T5.setTop (mkF m 11 _ [.long (own_f4_ret x1)]))
  rw [← hOWE]
  exact o_retJ X5 hx hlk hrt (hb hby d1_11) (by decide) (by decide) ⟨rfl, N5, K5⟩
theorem d6_0 : decode prog_58_method_2_code 0 = .ok (.lload_n 0, 1) := by decide +kernel
theorem d6_1 : decode prog_58_method_2_code 1 = .ok (.ldc2_w 13, 3) := by decide +kernel
theorem d6_4 : decode prog_58_method_2_code 4 = .ok (.ladd, 1) := by decide +kernel
theorem d6_5 : decode prog_58_method_2_code 5 = .ok (.invokestatic 15, 3) := by decide +kernel
theorem d6_8 : decode prog_58_method_2_code 8 = .ok (.lstore_n 3, 1) := by decide +kernel
theorem d6_9 : decode prog_58_method_2_code 9 = .ok (.aload_n 2, 1) := by decide +kernel
theorem d6_10 : decode prog_58_method_2_code 10 = .ok (.astore 5, 2) := by decide +kernel
theorem d6_12 : decode prog_58_method_2_code 12 = .ok (.aload 5, 2) := by decide +kernel
theorem d6_14 : decode prog_58_method_2_code 14 = .ok (.arraylength, 1) := by decide +kernel
theorem d6_15 : decode prog_58_method_2_code 15 = .ok (.istore 6, 2) := by decide +kernel
theorem d6_17 : decode prog_58_method_2_code 17 = .ok (.iconst 0, 1) := by decide +kernel
theorem d6_18 : decode prog_58_method_2_code 18 = .ok (.istore 7, 2) := by decide +kernel
theorem d6_20 : decode prog_58_method_2_code 20 = .ok (.iload 7, 2) := by decide +kernel
theorem d6_22 : decode prog_58_method_2_code 22 = .ok (.iload 6, 2) := by decide +kernel
theorem d6_24 : decode prog_58_method_2_code 24 = .ok (.if_icmp .ge 31, 3) := by decide +kernel
theorem d6_27 : decode prog_58_method_2_code 27 = .ok (.aload 5, 2) := by decide +kernel
theorem d6_29 : decode prog_58_method_2_code 29 = .ok (.iload 7, 2) := by decide +kernel
theorem d6_31 : decode prog_58_method_2_code 31 = .ok (.laload, 1) := by decide +kernel
theorem d6_32 : decode prog_58_method_2_code 32 = .ok (.lstore 8, 2) := by decide +kernel
theorem d6_34 : decode prog_58_method_2_code 34 = .ok (.lload_n 3, 1) := by decide +kernel
theorem d6_35 : decode prog_58_method_2_code 35 = .ok (.lload 8, 2) := by decide +kernel
theorem d6_37 : decode prog_58_method_2_code 37 = .ok (.ldc2_w 13, 3) := by decide +kernel
theorem d6_40 : decode prog_58_method_2_code 40 = .ok (.ladd, 1) := by decide +kernel
theorem d6_41 : decode prog_58_method_2_code 41 = .ok (.invokestatic 15, 3) := by decide +kernel
theorem d6_44 : decode prog_58_method_2_code 44 = .ok (.lxor, 1) := by decide +kernel
theorem d6_45 : decode prog_58_method_2_code 45 = .ok (.invokestatic 15, 3) := by decide +kernel
theorem d6_48 : decode prog_58_method_2_code 48 = .ok (.lstore_n 3, 1) := by decide +kernel
theorem d6_49 : decode prog_58_method_2_code 49 = .ok (.iinc 7 1, 3) := by decide +kernel
theorem d6_52 : decode prog_58_method_2_code 52 = .ok (.goto (-32), 3) := by decide +kernel
theorem d6_55 : decode prog_58_method_2_code 55 = .ok (.lload_n 3, 1) := by decide +kernel
theorem d6_56 : decode prog_58_method_2_code 56 = .ok (.lreturn, 1) := by decide +kernel
theorem ef_6_0 (m : MethodId) (x0 : Int64) (x1 : Addr) : entryFrame m #[(.long x0), (.ref x1)] 10 = mkF m 0 #[.val (.long x0), .second, .val (.ref x1), .unset, .unset, .unset, .unset, .unset, .unset, .unset] [] := by first | (simp [entryFrame, mkF, argsToLocals, Value.category]; done) | rfl
def own_f6_0_x0 (x1 : Int64) : Int64 := (own_f5_ret (x1 + (-7046029254386353131 : Int64)))
def Q6_0 (Z : State) (aa : Addr) (x1 : Int64) (k_aa : ClassId) (h0 : Heap) (n0 : Nat) (v : Option Value) (h : Heap) (L : List Loc) : Prop := v = some (.long (own_f6_0_x0 x1)) ∧ Fr n0 L ∧ h = h0
set_option maxRecDepth 65536 in
set_option maxHeartbeats 40000000 in
theorem rm6_0 (l : Launch) (Z : State) (a0 : Array Value) (hw : ∀ d ∈ tables_1, d.before a0 Z = true) (ws : List Jvm.Cond) (aa : Addr) (x1 : Int64) (k_aa : ClassId) (h0 : Heap) (n0 : Nat) (Z0 : n0 ≤ h0.size) (V_aa : Arv Z h0 aa k_aa .long (0 : Int32) [] (.long (0 : Int64))) :
    Con l (⟨"com/example/darta/darta/experiment/SplitMix64", "derive", "(J[J)J"⟩ : MethodName) prog_58_method_2_code 10 (some .long) ws ({ frames := 1, cells := 0, slots := 0, locals := 15 } : Room) #[(.long x1), (.ref aa)] Z h0 (Q6_0 Z aa x1 k_aa h0 n0) ({ frames := 1, cells := 0, slots := 0, locals := 15 } : Room).cells ({ frames := 1, cells := 0, slots := 0, locals := 15 } : Room).slots := by
  refine own_body (plainFor_of_name pn_5) ?_
  intro p e s m below meth c s₁ hx hby hlk hml hown hnm hrt hZ X0 e0
  have w : ∀ (k : Nat) (d : Jvm.Cond), tables_1[k]? = some d → d.before a0 Z = true := fun k d h => hw d (List.mem_of_getElem? h)
  have N0 := Fr.nil n0
  rw [ef_6_0]
  generalize hOWE : Owe s _ _ _ = OWE
  refine o_lloadN X0 hx (hb hby d6_0) (pc' := 1) rfl rfl ?_
  refine o_ldcJ X0 hx hZ (-7046029254386353131 : Int64) hown (w 21 _ rfl) (hb hby d6_1) (pc' := 4) rfl ?_
  refine o_ladd X0 hx (hb hby d6_4) (pc' := 5) rfl ?_
  refine o_callS X0 hx hZ 0 (argsL := [.long (x1 + (-7046029254386353131 : Int64))]) (rest := []) hown (w 22 _ rfl) (w 23 _ rfl) (w 7 _ rfl) (w 24 _ rfl) (by decide) (rm5 l Z a0 hw [] (x1 + (-7046029254386353131 : Int64)) h0 n0 Z0 ) (by decide) (by decide) (cells' := 0) rfl (slots' := 0) rfl (by decide) (by decide) e0 (by rw [hml]; rfl) (lenOf pd_0 rfl) rfl rfl (hb hby d6_5) (pc' := 8) rfl ?_
  intro T1 v1 L1 X1 hQ1
  obtain ⟨rfl, Nq1, e1⟩ := hQ1
  have N1 := Fr.app N0 Nq1
  show Go p e below _ (T1.setTop (mkF m 8 _ [.long (own_f5_ret (x1 + (-7046029254386353131 : Int64)))]))
  refine o_lstoreN (x := (own_f6_0_x0 x1)) X1 hx (hb hby d6_8) (pc' := 9) rfl (L' := #[.val (.long x1), .second, .val (.ref aa), .val (.long (own_f6_0_x0 x1)), .second, .unset, .unset, .unset, .unset, .unset]) rfl ?_
  refine o_aloadN X1 hx (hb hby d6_9) (pc' := 10) rfl rfl rfl ?_
  refine o_astore X1 hx (hb hby d6_10) (pc' := 12) rfl (L' := #[.val (.long x1), .second, .val (.ref aa), .val (.long (own_f6_0_x0 x1)), .second, .val (.ref aa), .unset, .unset, .unset, .unset]) rfl rfl ?_
  refine o_aload X1 hx (hb hby d6_12) (pc' := 14) rfl rfl rfl ?_
  refine o_arraylength X1 hx hZ e1 V_aa (hb hby d6_14) (pc' := 15) rfl ?_
  refine o_istore X1 hx (hb hby d6_15) (pc' := 17) rfl (L' := #[.val (.long x1), .second, .val (.ref aa), .val (.long (own_f6_0_x0 x1)), .second, .val (.ref aa), .val (.int (0 : Int32)), .unset, .unset, .unset]) rfl ?_
  refine o_iconst X1 hx (0 : Int32) (hb hby d6_17) (pc' := 18) rfl (by decide) ?_
  refine o_istore X1 hx (hb hby d6_18) (pc' := 20) rfl (L' := #[.val (.long x1), .second, .val (.ref aa), .val (.long (own_f6_0_x0 x1)), .second, .val (.ref aa), .val (.int (0 : Int32)), .val (.int (0 : Int32)), .unset, .unset]) rfl ?_
  refine o_iload X1 hx (hb hby d6_20) (pc' := 22) rfl rfl ?_
  refine o_iload X1 hx (hb hby d6_22) (pc' := 24) rfl rfl ?_
  refine o_cmpY X1 hx (hb hby d6_24) (flt (by decide : ¬ ((0 : Int32) < (0 : Int32)))).2.1 (by decide) (pc' := 55) (by decide) ?_
  refine o_lloadN X1 hx (hb hby d6_55) (pc' := 56) rfl rfl ?_
  rw [← hOWE]
  exact o_retJ X1 hx hlk hrt (hb hby d6_56) (by decide) (by decide) (by rw [e1]; exact ⟨rfl, N1, rfl⟩)
theorem ef_6_1 (m : MethodId) (x0 : Int64) (x1 : Addr) : entryFrame m #[(.long x0), (.ref x1)] 10 = mkF m 0 #[.val (.long x0), .second, .val (.ref x1), .unset, .unset, .unset, .unset, .unset, .unset, .unset] [] := by first | (simp [entryFrame, mkF, argsToLocals, Value.category]; done) | rfl
def own_f6_1_x0 (x1 : Int64) (v0 : Int64) : Int64 := (own_f5_ret (x1 + (-7046029254386353131 : Int64)))
def own_f6_1_x1 (x1 : Int64) (v0 : Int64) : Int64 := (own_f5_ret ((own_f6_1_x0 x1 v0) ^^^ (own_f5_ret (v0 + (-7046029254386353131 : Int64)))))
def Q6_1 (Z : State) (aa : Addr) (x1 : Int64) (v0 : Int64) (k_aa : ClassId) (h0 : Heap) (n0 : Nat) (v : Option Value) (h : Heap) (L : List Loc) : Prop := v = some (.long (own_f6_1_x1 x1 v0)) ∧ Fr n0 L ∧ h = h0
set_option maxRecDepth 65536 in
set_option maxHeartbeats 40000000 in
theorem rm6_1 (l : Launch) (Z : State) (a0 : Array Value) (hw : ∀ d ∈ tables_1, d.before a0 Z = true) (ws : List Jvm.Cond) (aa : Addr) (x1 : Int64) (v0 : Int64) (k_aa : ClassId) (h0 : Heap) (n0 : Nat) (Z0 : n0 ≤ h0.size) (V_aa : Arv Z h0 aa k_aa .long (1 : Int32) [.long v0] (.long (0 : Int64))) :
    Con l (⟨"com/example/darta/darta/experiment/SplitMix64", "derive", "(J[J)J"⟩ : MethodName) prog_58_method_2_code 10 (some .long) ws ({ frames := 1, cells := 0, slots := 0, locals := 17 } : Room) #[(.long x1), (.ref aa)] Z h0 (Q6_1 Z aa x1 v0 k_aa h0 n0) ({ frames := 1, cells := 0, slots := 0, locals := 17 } : Room).cells ({ frames := 1, cells := 0, slots := 0, locals := 17 } : Room).slots := by
  refine own_body (plainFor_of_name pn_5) ?_
  intro p e s m below meth c s₁ hx hby hlk hml hown hnm hrt hZ X0 e0
  have w : ∀ (k : Nat) (d : Jvm.Cond), tables_1[k]? = some d → d.before a0 Z = true := fun k d h => hw d (List.mem_of_getElem? h)
  have N0 := Fr.nil n0
  rw [ef_6_1]
  generalize hOWE : Owe s _ _ _ = OWE
  refine o_lloadN X0 hx (hb hby d6_0) (pc' := 1) rfl rfl ?_
  refine o_ldcJ X0 hx hZ (-7046029254386353131 : Int64) hown (w 21 _ rfl) (hb hby d6_1) (pc' := 4) rfl ?_
  refine o_ladd X0 hx (hb hby d6_4) (pc' := 5) rfl ?_
  refine o_callS X0 hx hZ 0 (argsL := [.long (x1 + (-7046029254386353131 : Int64))]) (rest := []) hown (w 22 _ rfl) (w 23 _ rfl) (w 7 _ rfl) (w 24 _ rfl) (by decide) (rm5 l Z a0 hw [] (x1 + (-7046029254386353131 : Int64)) h0 n0 Z0 ) (by decide) (by decide) (cells' := 0) rfl (slots' := 0) rfl (by decide) (by decide) e0 (by rw [hml]; rfl) (lenOf pd_0 rfl) rfl rfl (hb hby d6_5) (pc' := 8) rfl ?_
  intro T1 v1 L1 X1 hQ1
  obtain ⟨rfl, Nq1, e1⟩ := hQ1
  have N1 := Fr.app N0 Nq1
  show Go p e below _ (T1.setTop (mkF m 8 _ [.long (own_f5_ret (x1 + (-7046029254386353131 : Int64)))]))
  refine o_lstoreN (x := (own_f6_1_x0 x1 v0)) X1 hx (hb hby d6_8) (pc' := 9) rfl (L' := #[.val (.long x1), .second, .val (.ref aa), .val (.long (own_f6_1_x0 x1 v0)), .second, .unset, .unset, .unset, .unset, .unset]) rfl ?_
  refine o_aloadN X1 hx (hb hby d6_9) (pc' := 10) rfl rfl rfl ?_
  refine o_astore X1 hx (hb hby d6_10) (pc' := 12) rfl (L' := #[.val (.long x1), .second, .val (.ref aa), .val (.long (own_f6_1_x0 x1 v0)), .second, .val (.ref aa), .unset, .unset, .unset, .unset]) rfl rfl ?_
  refine o_aload X1 hx (hb hby d6_12) (pc' := 14) rfl rfl rfl ?_
  refine o_arraylength X1 hx hZ e1 V_aa (hb hby d6_14) (pc' := 15) rfl ?_
  refine o_istore X1 hx (hb hby d6_15) (pc' := 17) rfl (L' := #[.val (.long x1), .second, .val (.ref aa), .val (.long (own_f6_1_x0 x1 v0)), .second, .val (.ref aa), .val (.int (1 : Int32)), .unset, .unset, .unset]) rfl ?_
  refine o_iconst X1 hx (0 : Int32) (hb hby d6_17) (pc' := 18) rfl (by decide) ?_
  refine o_istore X1 hx (hb hby d6_18) (pc' := 20) rfl (L' := #[.val (.long x1), .second, .val (.ref aa), .val (.long (own_f6_1_x0 x1 v0)), .second, .val (.ref aa), .val (.int (1 : Int32)), .val (.int (0 : Int32)), .unset, .unset]) rfl ?_
  refine o_iload X1 hx (hb hby d6_20) (pc' := 22) rfl rfl ?_
  refine o_iload X1 hx (hb hby d6_22) (pc' := 24) rfl rfl ?_
  refine o_cmpN X1 hx (hb hby d6_24) (tlt (by decide : (0 : Int32) < (1 : Int32))).2.1 (pc' := 27) rfl ?_
  refine o_aload X1 hx (hb hby d6_27) (pc' := 29) rfl rfl rfl ?_
  refine o_iload X1 hx (hb hby d6_29) (pc' := 31) rfl rfl ?_
  refine o_laload X1 hx hZ (.long v0) e1 V_aa (by decide) (by rfl) (hb hby d6_31) (pc' := 32) rfl ?_
  refine o_lstore X1 hx (hb hby d6_32) (pc' := 34) rfl (L' := #[.val (.long x1), .second, .val (.ref aa), .val (.long (own_f6_1_x0 x1 v0)), .second, .val (.ref aa), .val (.int (1 : Int32)), .val (.int (0 : Int32)), .val (.long v0), .second]) rfl ?_
  refine o_lloadN X1 hx (hb hby d6_34) (pc' := 35) rfl rfl ?_
  refine o_lload X1 hx (hb hby d6_35) (pc' := 37) rfl rfl ?_
  refine o_ldcJ X1 hx hZ (-7046029254386353131 : Int64) hown (w 21 _ rfl) (hb hby d6_37) (pc' := 40) rfl ?_
  refine o_ladd X1 hx (hb hby d6_40) (pc' := 41) rfl ?_
  refine o_callS X1 hx hZ 2 (argsL := [.long (v0 + (-7046029254386353131 : Int64))]) (rest := [.long (own_f6_1_x0 x1 v0)]) hown (w 22 _ rfl) (w 23 _ rfl) (w 7 _ rfl) (w 24 _ rfl) (by decide) (rm5 l Z a0 hw [] (v0 + (-7046029254386353131 : Int64)) h0 n0 Z0 ) (by decide) (by decide) (cells' := 0) rfl (slots' := 0) rfl (by decide) (by decide) e1 (by rw [hml]; rfl) (lenOf pd_0 rfl) rfl rfl (hb hby d6_41) (pc' := 44) rfl ?_
  intro T2 v2 L2 X2 hQ2
  obtain ⟨rfl, Nq2, e2⟩ := hQ2
  have N2 := Fr.app N1 Nq2
  show Go p e below _ (T2.setTop (mkF m 44 _ [.long (own_f5_ret (v0 + (-7046029254386353131 : Int64))), .long (own_f6_1_x0 x1 v0)]))
  refine o_lxor X2 hx (hb hby d6_44) (pc' := 45) rfl ?_
  refine o_callS X2 hx hZ 0 (argsL := [.long ((own_f6_1_x0 x1 v0) ^^^ (own_f5_ret (v0 + (-7046029254386353131 : Int64))))]) (rest := []) hown (w 22 _ rfl) (w 23 _ rfl) (w 7 _ rfl) (w 24 _ rfl) (by decide) (rm5 l Z a0 hw [] ((own_f6_1_x0 x1 v0) ^^^ (own_f5_ret (v0 + (-7046029254386353131 : Int64)))) h0 n0 Z0 ) (by decide) (by decide) (cells' := 0) rfl (slots' := 0) rfl (by decide) (by decide) e2 (by rw [hml]; rfl) (lenOf pd_0 rfl) rfl rfl (hb hby d6_45) (pc' := 48) rfl ?_
  intro T3 v3 L3 X3 hQ3
  obtain ⟨rfl, Nq3, e3⟩ := hQ3
  have N3 := Fr.app N2 Nq3
  show Go p e below _ (T3.setTop (mkF m 48 _ [.long (own_f5_ret ((own_f6_1_x0 x1 v0) ^^^ (own_f5_ret (v0 + (-7046029254386353131 : Int64)))))]))
  refine o_lstoreN (x := (own_f6_1_x1 x1 v0)) X3 hx (hb hby d6_48) (pc' := 49) rfl (L' := #[.val (.long x1), .second, .val (.ref aa), .val (.long (own_f6_1_x1 x1 v0)), .second, .val (.ref aa), .val (.int (1 : Int32)), .val (.int (0 : Int32)), .val (.long v0), .second]) rfl ?_
  refine o_iinc X3 hx (hb hby d6_49) (pc' := 52) rfl rfl (v' := (1 : Int32)) (by first | rfl | decide) (L' := #[.val (.long x1), .second, .val (.ref aa), .val (.long (own_f6_1_x1 x1 v0)), .second, .val (.ref aa), .val (.int (1 : Int32)), .val (.int (1 : Int32)), .val (.long v0), .second]) rfl ?_
  refine o_goto X3 hx (hb hby d6_52) (by decide) (pc' := 20) (by decide) ?_
  refine o_iload X3 hx (hb hby d6_20) (pc' := 22) rfl rfl ?_
  refine o_iload X3 hx (hb hby d6_22) (pc' := 24) rfl rfl ?_
  refine o_cmpY X3 hx (hb hby d6_24) (flt (by decide : ¬ ((1 : Int32) < (1 : Int32)))).2.1 (by decide) (pc' := 55) (by decide) ?_
  refine o_lloadN X3 hx (hb hby d6_55) (pc' := 56) rfl rfl ?_
  rw [← hOWE]
  exact o_retJ X3 hx hlk hrt (hb hby d6_56) (by decide) (by decide) (by rw [e3]; exact ⟨rfl, N3, rfl⟩)
theorem ef_6_2 (m : MethodId) (x0 : Int64) (x1 : Addr) : entryFrame m #[(.long x0), (.ref x1)] 10 = mkF m 0 #[.val (.long x0), .second, .val (.ref x1), .unset, .unset, .unset, .unset, .unset, .unset, .unset] [] := by first | (simp [entryFrame, mkF, argsToLocals, Value.category]; done) | rfl
def own_f6_2_x0 (x1 : Int64) (v0 : Int64) (v1 : Int64) : Int64 := (own_f5_ret (x1 + (-7046029254386353131 : Int64)))
def own_f6_2_x1 (x1 : Int64) (v0 : Int64) (v1 : Int64) : Int64 := (own_f5_ret ((own_f6_2_x0 x1 v0 v1) ^^^ (own_f5_ret (v0 + (-7046029254386353131 : Int64)))))
def own_f6_2_x2 (x1 : Int64) (v0 : Int64) (v1 : Int64) : Int64 := (own_f5_ret ((own_f6_2_x1 x1 v0 v1) ^^^ (own_f5_ret (v1 + (-7046029254386353131 : Int64)))))
def Q6_2 (Z : State) (aa : Addr) (x1 : Int64) (v0 : Int64) (v1 : Int64) (k_aa : ClassId) (h0 : Heap) (n0 : Nat) (v : Option Value) (h : Heap) (L : List Loc) : Prop := v = some (.long (own_f6_2_x2 x1 v0 v1)) ∧ Fr n0 L ∧ h = h0
set_option maxRecDepth 65536 in
set_option maxHeartbeats 40000000 in
theorem rm6_2 (l : Launch) (Z : State) (a0 : Array Value) (hw : ∀ d ∈ tables_1, d.before a0 Z = true) (ws : List Jvm.Cond) (aa : Addr) (x1 : Int64) (v0 : Int64) (v1 : Int64) (k_aa : ClassId) (h0 : Heap) (n0 : Nat) (Z0 : n0 ≤ h0.size) (V_aa : Arv Z h0 aa k_aa .long (2 : Int32) [.long v0, .long v1] (.long (0 : Int64))) :
    Con l (⟨"com/example/darta/darta/experiment/SplitMix64", "derive", "(J[J)J"⟩ : MethodName) prog_58_method_2_code 10 (some .long) ws ({ frames := 1, cells := 0, slots := 0, locals := 17 } : Room) #[(.long x1), (.ref aa)] Z h0 (Q6_2 Z aa x1 v0 v1 k_aa h0 n0) ({ frames := 1, cells := 0, slots := 0, locals := 17 } : Room).cells ({ frames := 1, cells := 0, slots := 0, locals := 17 } : Room).slots := by
  refine own_body (plainFor_of_name pn_5) ?_
  intro p e s m below meth c s₁ hx hby hlk hml hown hnm hrt hZ X0 e0
  have w : ∀ (k : Nat) (d : Jvm.Cond), tables_1[k]? = some d → d.before a0 Z = true := fun k d h => hw d (List.mem_of_getElem? h)
  have N0 := Fr.nil n0
  rw [ef_6_2]
  generalize hOWE : Owe s _ _ _ = OWE
  refine o_lloadN X0 hx (hb hby d6_0) (pc' := 1) rfl rfl ?_
  refine o_ldcJ X0 hx hZ (-7046029254386353131 : Int64) hown (w 21 _ rfl) (hb hby d6_1) (pc' := 4) rfl ?_
  refine o_ladd X0 hx (hb hby d6_4) (pc' := 5) rfl ?_
  refine o_callS X0 hx hZ 0 (argsL := [.long (x1 + (-7046029254386353131 : Int64))]) (rest := []) hown (w 22 _ rfl) (w 23 _ rfl) (w 7 _ rfl) (w 24 _ rfl) (by decide) (rm5 l Z a0 hw [] (x1 + (-7046029254386353131 : Int64)) h0 n0 Z0 ) (by decide) (by decide) (cells' := 0) rfl (slots' := 0) rfl (by decide) (by decide) e0 (by rw [hml]; rfl) (lenOf pd_0 rfl) rfl rfl (hb hby d6_5) (pc' := 8) rfl ?_
  intro T1 v1 L1 X1 hQ1
  obtain ⟨rfl, Nq1, e1⟩ := hQ1
  have N1 := Fr.app N0 Nq1
  show Go p e below _ (T1.setTop (mkF m 8 _ [.long (own_f5_ret (x1 + (-7046029254386353131 : Int64)))]))
  refine o_lstoreN (x := (own_f6_2_x0 x1 v0 v1)) X1 hx (hb hby d6_8) (pc' := 9) rfl (L' := #[.val (.long x1), .second, .val (.ref aa), .val (.long (own_f6_2_x0 x1 v0 v1)), .second, .unset, .unset, .unset, .unset, .unset]) rfl ?_
  refine o_aloadN X1 hx (hb hby d6_9) (pc' := 10) rfl rfl rfl ?_
  refine o_astore X1 hx (hb hby d6_10) (pc' := 12) rfl (L' := #[.val (.long x1), .second, .val (.ref aa), .val (.long (own_f6_2_x0 x1 v0 v1)), .second, .val (.ref aa), .unset, .unset, .unset, .unset]) rfl rfl ?_
  refine o_aload X1 hx (hb hby d6_12) (pc' := 14) rfl rfl rfl ?_
  refine o_arraylength X1 hx hZ e1 V_aa (hb hby d6_14) (pc' := 15) rfl ?_
  refine o_istore X1 hx (hb hby d6_15) (pc' := 17) rfl (L' := #[.val (.long x1), .second, .val (.ref aa), .val (.long (own_f6_2_x0 x1 v0 v1)), .second, .val (.ref aa), .val (.int (2 : Int32)), .unset, .unset, .unset]) rfl ?_
  refine o_iconst X1 hx (0 : Int32) (hb hby d6_17) (pc' := 18) rfl (by decide) ?_
  refine o_istore X1 hx (hb hby d6_18) (pc' := 20) rfl (L' := #[.val (.long x1), .second, .val (.ref aa), .val (.long (own_f6_2_x0 x1 v0 v1)), .second, .val (.ref aa), .val (.int (2 : Int32)), .val (.int (0 : Int32)), .unset, .unset]) rfl ?_
  refine o_iload X1 hx (hb hby d6_20) (pc' := 22) rfl rfl ?_
  refine o_iload X1 hx (hb hby d6_22) (pc' := 24) rfl rfl ?_
  refine o_cmpN X1 hx (hb hby d6_24) (tlt (by decide : (0 : Int32) < (2 : Int32))).2.1 (pc' := 27) rfl ?_
  refine o_aload X1 hx (hb hby d6_27) (pc' := 29) rfl rfl rfl ?_
  refine o_iload X1 hx (hb hby d6_29) (pc' := 31) rfl rfl ?_
  refine o_laload X1 hx hZ (.long v0) e1 V_aa (by decide) (by rfl) (hb hby d6_31) (pc' := 32) rfl ?_
  refine o_lstore X1 hx (hb hby d6_32) (pc' := 34) rfl (L' := #[.val (.long x1), .second, .val (.ref aa), .val (.long (own_f6_2_x0 x1 v0 v1)), .second, .val (.ref aa), .val (.int (2 : Int32)), .val (.int (0 : Int32)), .val (.long v0), .second]) rfl ?_
  refine o_lloadN X1 hx (hb hby d6_34) (pc' := 35) rfl rfl ?_
  refine o_lload X1 hx (hb hby d6_35) (pc' := 37) rfl rfl ?_
  refine o_ldcJ X1 hx hZ (-7046029254386353131 : Int64) hown (w 21 _ rfl) (hb hby d6_37) (pc' := 40) rfl ?_
  refine o_ladd X1 hx (hb hby d6_40) (pc' := 41) rfl ?_
  refine o_callS X1 hx hZ 2 (argsL := [.long (v0 + (-7046029254386353131 : Int64))]) (rest := [.long (own_f6_2_x0 x1 v0 v1)]) hown (w 22 _ rfl) (w 23 _ rfl) (w 7 _ rfl) (w 24 _ rfl) (by decide) (rm5 l Z a0 hw [] (v0 + (-7046029254386353131 : Int64)) h0 n0 Z0 ) (by decide) (by decide) (cells' := 0) rfl (slots' := 0) rfl (by decide) (by decide) e1 (by rw [hml]; rfl) (lenOf pd_0 rfl) rfl rfl (hb hby d6_41) (pc' := 44) rfl ?_
  intro T2 v2 L2 X2 hQ2
  obtain ⟨rfl, Nq2, e2⟩ := hQ2
  have N2 := Fr.app N1 Nq2
  show Go p e below _ (T2.setTop (mkF m 44 _ [.long (own_f5_ret (v0 + (-7046029254386353131 : Int64))), .long (own_f6_2_x0 x1 v0 v1)]))
  refine o_lxor X2 hx (hb hby d6_44) (pc' := 45) rfl ?_
  refine o_callS X2 hx hZ 0 (argsL := [.long ((own_f6_2_x0 x1 v0 v1) ^^^ (own_f5_ret (v0 + (-7046029254386353131 : Int64))))]) (rest := []) hown (w 22 _ rfl) (w 23 _ rfl) (w 7 _ rfl) (w 24 _ rfl) (by decide) (rm5 l Z a0 hw [] ((own_f6_2_x0 x1 v0 v1) ^^^ (own_f5_ret (v0 + (-7046029254386353131 : Int64)))) h0 n0 Z0 ) (by decide) (by decide) (cells' := 0) rfl (slots' := 0) rfl (by decide) (by decide) e2 (by rw [hml]; rfl) (lenOf pd_0 rfl) rfl rfl (hb hby d6_45) (pc' := 48) rfl ?_
  intro T3 v3 L3 X3 hQ3
  obtain ⟨rfl, Nq3, e3⟩ := hQ3
  have N3 := Fr.app N2 Nq3
  show Go p e below _ (T3.setTop (mkF m 48 _ [.long (own_f5_ret ((own_f6_2_x0 x1 v0 v1) ^^^ (own_f5_ret (v0 + (-7046029254386353131 : Int64)))))]))
  refine o_lstoreN (x := (own_f6_2_x1 x1 v0 v1)) X3 hx (hb hby d6_48) (pc' := 49) rfl (L' := #[.val (.long x1), .second, .val (.ref aa), .val (.long (own_f6_2_x1 x1 v0 v1)), .second, .val (.ref aa), .val (.int (2 : Int32)), .val (.int (0 : Int32)), .val (.long v0), .second]) rfl ?_
  refine o_iinc X3 hx (hb hby d6_49) (pc' := 52) rfl rfl (v' := (1 : Int32)) (by first | rfl | decide) (L' := #[.val (.long x1), .second, .val (.ref aa), .val (.long (own_f6_2_x1 x1 v0 v1)), .second, .val (.ref aa), .val (.int (2 : Int32)), .val (.int (1 : Int32)), .val (.long v0), .second]) rfl ?_
  refine o_goto X3 hx (hb hby d6_52) (by decide) (pc' := 20) (by decide) ?_
  refine o_iload X3 hx (hb hby d6_20) (pc' := 22) rfl rfl ?_
  refine o_iload X3 hx (hb hby d6_22) (pc' := 24) rfl rfl ?_
  refine o_cmpN X3 hx (hb hby d6_24) (tlt (by decide : (1 : Int32) < (2 : Int32))).2.1 (pc' := 27) rfl ?_
  refine o_aload X3 hx (hb hby d6_27) (pc' := 29) rfl rfl rfl ?_
  refine o_iload X3 hx (hb hby d6_29) (pc' := 31) rfl rfl ?_
  refine o_laload X3 hx hZ (.long v1) e3 V_aa (by decide) (by rfl) (hb hby d6_31) (pc' := 32) rfl ?_
  refine o_lstore X3 hx (hb hby d6_32) (pc' := 34) rfl (L' := #[.val (.long x1), .second, .val (.ref aa), .val (.long (own_f6_2_x1 x1 v0 v1)), .second, .val (.ref aa), .val (.int (2 : Int32)), .val (.int (1 : Int32)), .val (.long v1), .second]) rfl ?_
  refine o_lloadN X3 hx (hb hby d6_34) (pc' := 35) rfl rfl ?_
  refine o_lload X3 hx (hb hby d6_35) (pc' := 37) rfl rfl ?_
  refine o_ldcJ X3 hx hZ (-7046029254386353131 : Int64) hown (w 21 _ rfl) (hb hby d6_37) (pc' := 40) rfl ?_
  refine o_ladd X3 hx (hb hby d6_40) (pc' := 41) rfl ?_
  refine o_callS X3 hx hZ 2 (argsL := [.long (v1 + (-7046029254386353131 : Int64))]) (rest := [.long (own_f6_2_x1 x1 v0 v1)]) hown (w 22 _ rfl) (w 23 _ rfl) (w 7 _ rfl) (w 24 _ rfl) (by decide) (rm5 l Z a0 hw [] (v1 + (-7046029254386353131 : Int64)) h0 n0 Z0 ) (by decide) (by decide) (cells' := 0) rfl (slots' := 0) rfl (by decide) (by decide) e3 (by rw [hml]; rfl) (lenOf pd_0 rfl) rfl rfl (hb hby d6_41) (pc' := 44) rfl ?_
  intro T4 v4 L4 X4 hQ4
  obtain ⟨rfl, Nq4, e4⟩ := hQ4
  have N4 := Fr.app N3 Nq4
  show Go p e below _ (T4.setTop (mkF m 44 _ [.long (own_f5_ret (v1 + (-7046029254386353131 : Int64))), .long (own_f6_2_x1 x1 v0 v1)]))
  refine o_lxor X4 hx (hb hby d6_44) (pc' := 45) rfl ?_
  refine o_callS X4 hx hZ 0 (argsL := [.long ((own_f6_2_x1 x1 v0 v1) ^^^ (own_f5_ret (v1 + (-7046029254386353131 : Int64))))]) (rest := []) hown (w 22 _ rfl) (w 23 _ rfl) (w 7 _ rfl) (w 24 _ rfl) (by decide) (rm5 l Z a0 hw [] ((own_f6_2_x1 x1 v0 v1) ^^^ (own_f5_ret (v1 + (-7046029254386353131 : Int64)))) h0 n0 Z0 ) (by decide) (by decide) (cells' := 0) rfl (slots' := 0) rfl (by decide) (by decide) e4 (by rw [hml]; rfl) (lenOf pd_0 rfl) rfl rfl (hb hby d6_45) (pc' := 48) rfl ?_
  intro T5 v5 L5 X5 hQ5
  obtain ⟨rfl, Nq5, e5⟩ := hQ5
  have N5 := Fr.app N4 Nq5
  show Go p e below _ (T5.setTop (mkF m 48 _ [.long (own_f5_ret ((own_f6_2_x1 x1 v0 v1) ^^^ (own_f5_ret (v1 + (-7046029254386353131 : Int64)))))]))
  refine o_lstoreN (x := (own_f6_2_x2 x1 v0 v1)) X5 hx (hb hby d6_48) (pc' := 49) rfl (L' := #[.val (.long x1), .second, .val (.ref aa), .val (.long (own_f6_2_x2 x1 v0 v1)), .second, .val (.ref aa), .val (.int (2 : Int32)), .val (.int (1 : Int32)), .val (.long v1), .second]) rfl ?_
  refine o_iinc X5 hx (hb hby d6_49) (pc' := 52) rfl rfl (v' := (2 : Int32)) (by first | rfl | decide) (L' := #[.val (.long x1), .second, .val (.ref aa), .val (.long (own_f6_2_x2 x1 v0 v1)), .second, .val (.ref aa), .val (.int (2 : Int32)), .val (.int (2 : Int32)), .val (.long v1), .second]) rfl ?_
  refine o_goto X5 hx (hb hby d6_52) (by decide) (pc' := 20) (by decide) ?_
  refine o_iload X5 hx (hb hby d6_20) (pc' := 22) rfl rfl ?_
  refine o_iload X5 hx (hb hby d6_22) (pc' := 24) rfl rfl ?_
  refine o_cmpY X5 hx (hb hby d6_24) (flt (by decide : ¬ ((2 : Int32) < (2 : Int32)))).2.1 (by decide) (pc' := 55) (by decide) ?_
  refine o_lloadN X5 hx (hb hby d6_55) (pc' := 56) rfl rfl ?_
  rw [← hOWE]
  exact o_retJ X5 hx hlk hrt (hb hby d6_56) (by decide) (by decide) (by rw [e5]; exact ⟨rfl, N5, rfl⟩)
theorem ef_0 (m : MethodId) (x0 : Int64) (x1 : Int64) (x2 : Int64) (x3 : Int32) : entryFrame m #[(.long x0), (.long x1), (.long x2), (.int x3)] maxLocals = mkF m 0 #[.val (.long x0), .second, .val (.long x1), .second, .val (.long x2), .second, .val (.int x3), .unset, .unset, .unset, .unset, .unset] [] := by first | (simp [entryFrame, mkF, argsToLocals, Value.category, maxLocals]; done) | rfl
def own_law_x0 (q0 : Int64) (q1 : Int64) (q2 : Int64) (q3 : Int32) : Int32 := ((q3 &&& (2147483647 : Int32)) % (3 : Int32))
def own_law_v124_1_S0 (q0 : Int64) (q1 : Int64) (q2 : Int64) (q3 : Int32) : Int32 := (if (own_f6_0_x0 (0 : Int64)) = (-2152535657050944081 : Int64) then (1 : Int32) else (0 : Int32))
theorem own_law_v124_1_S0_01 (q0 : Int64) (q1 : Int64) (q2 : Int64) (q3 : Int32) : (own_law_v124_1_S0 q0 q1 q2 q3) = 0 ∨ (own_law_v124_1_S0 q0 q1 q2 q3) = 1 := by
  unfold own_law_v124_1_S0
  repeat' split
  all_goals first | exact Or.inl rfl | exact Or.inr rfl
def own_law_x1 (q0 : Int64) (q1 : Int64) (q2 : Int64) (q3 : Int32) : Int64 := (own_f4_ret (((own_f4_ret q0) ^^^ (own_f4_ret q1)) - (-7046029254386353131 : Int64)))
def own_law_x2 (q0 : Int64) (q1 : Int64) (q2 : Int64) (q3 : Int32) : Int64 := (own_f4_ret (((own_law_x1 q0 q1 q2 q3) ^^^ (own_f4_ret q2)) - (-7046029254386353131 : Int64)))
def own_law_ret_j124_1 (q0 : Int64) (q1 : Int64) (q2 : Int64) (q3 : Int32) : Int32 := (if (own_law_v124_1_S0 q0 q1 q2 q3) = (0 : Int32) then (0 : Int32) else (if (own_f6_0_x0 q0) = (own_f4_ret q0) then (1 : Int32) else (0 : Int32)))
def own_law_ret_j124_2 (q0 : Int64) (q1 : Int64) (q2 : Int64) (q3 : Int32) : Int32 := (if (own_law_v124_1_S0 q0 q1 q2 q3) = (0 : Int32) then (0 : Int32) else (if (own_f6_1_x1 q0 q1) = (own_law_x1 q0 q1 q2 q3) then (1 : Int32) else (0 : Int32)))
def own_law_ret_j124_3 (q0 : Int64) (q1 : Int64) (q2 : Int64) (q3 : Int32) : Int32 := (if (own_law_v124_1_S0 q0 q1 q2 q3) = (0 : Int32) then (0 : Int32) else (if (own_f6_2_x2 q0 q1 q2) = (own_law_x2 q0 q1 q2 q3) then (1 : Int32) else (0 : Int32)))
def own_law_ret (q0 : Int64) (q1 : Int64) (q2 : Int64) (q3 : Int32) : Int32 := (if (own_law_x0 q0 q1 q2 q3) = (0 : Int32) then (own_law_ret_j124_1 q0 q1 q2 q3) else (if (own_law_x0 q0 q1 q2 q3) = (1 : Int32) then (own_law_ret_j124_2 q0 q1 q2 q3) else (own_law_ret_j124_3 q0 q1 q2 q3)))
theorem own_c3 (q0 q1 q2 : Int64) (q3 : Int32) : own_law_x0 q0 q1 q2 q3 = (0 : Int32) ∨ own_law_x0 q0 q1 q2 q3 = (1 : Int32) ∨ own_law_x0 q0 q1 q2 q3 = (2 : Int32) := by
  have h1 := c_and q3 2147483647 (by decide)
  have h2 := (c_irem (q3 &&& 2147483647) 3 3 (by decide)).1 h1.1
  unfold own_law_x0
  simp only [← Int32.toInt_inj, show (0 : Int32).toInt = 0 from rfl, show (1 : Int32).toInt = 1 from rfl, show (2 : Int32).toInt = 2 from rfl]
  omega
def Q0 (Z : State) (q0 : Int64) (q1 : Int64) (q2 : Int64) (q3 : Int32) (h0 : Heap) (n0 : Nat) (v : Option Value) (h : Heap) (L : List Loc) : Prop := v = some (.int (own_law_ret q0 q1 q2 q3)) ∧ Fr n0 L
set_option maxRecDepth 65536 in
set_option maxHeartbeats 40000000 in
theorem rm0 (l : Launch) (Z : State) (a0 : Array Value) (hw : ∀ d ∈ tables_1, d.before a0 Z = true) (ws : List Jvm.Cond) (q0 : Int64) (q1 : Int64) (q2 : Int64) (q3 : Int32) (h0 : Heap) (n0 : Nat) (Z0 : n0 ≤ h0.size)  :
    Con l x code maxLocals ret ws room_1 #[(.long q0), (.long q1), (.long q2), (.int q3)] Z h0 (Q0 Z q0 q1 q2 q3 h0 n0) 7 7 := by
  refine own_body (plainFor_of_name pn_1) ?_
  intro p e s m below meth c s₁ hx hby hlk hml hown hnm hrt hZ X0 e0
  have w : ∀ (k : Nat) (d : Jvm.Cond), tables_1[k]? = some d → d.before a0 Z = true := fun k d h => hw d (List.mem_of_getElem? h)
  have N0 := Fr.nil n0
  have hml : c.maxLocals = 12 := hml
  rw [ef_0]
  generalize hOWE : Owe s _ _ _ = OWE
  refine o_iload X0 hx (hb hby at_0) (pc' := 2) rfl rfl ?_
  refine o_ldcI X0 hx hZ (2147483647 : Int32) hown (w 0 _ rfl) (hb hby at_2) (pc' := 4) rfl ?_
  refine o_iand X0 hx (hb hby at_4) (pc' := 5) rfl ?_
  refine o_iconst X0 hx (3 : Int32) (hb hby at_5) (pc' := 6) rfl (by decide) ?_
  refine o_irem X0 hx (hb hby at_6) (pc' := 7) rfl (by decide) ?_
  refine o_istore (x := (own_law_x0 q0 q1 q2 q3)) X0 hx (hb hby at_7) (pc' := 9) rfl (L' := #[.val (.long q0), .second, .val (.long q1), .second, .val (.long q2), .second, .val (.int q3), .val (.int (own_law_x0 q0 q1 q2 q3)), .unset, .unset, .unset, .unset]) rfl ?_
  by_cases hs1 : (own_law_x0 q0 q1 q2 q3) = (0 : Int32)
  · rw [hs1]
    refine o_lloadN X0 hx (hb hby at_9) (pc' := 10) rfl rfl ?_
    refine o_callS X0 hx hZ 0 (argsL := [.long q0]) (rest := []) hown (w 1 _ rfl) (w 2 _ rfl) (w 3 _ rfl) (w 4 _ rfl) (by decide) (rm1 l Z a0 hw [] q0 h0 n0 Z0 ) (by decide) (by decide) (cells' := 1) rfl (slots' := 1) rfl (by decide) (by decide) e0 (by rw [hml]; rfl) (lenOf pd_0 rfl) rfl rfl (hb hby at_10) (pc' := 13) rfl ?_
    intro T2 v2 L2 X2 hQ2
    obtain ⟨rfl, Nq2, Kq2⟩ := hQ2
    have N2 := Fr.app N0 Nq2
    have Z2 : n0 ≤ T2.heap.size := Nat.le_trans Z0 Kq2.1
    show Go p e below _ (T2.setTop (mkF m 13 _ [.long (own_f4_ret q0)]))
    refine o_lstore X2 hx (hb hby at_13) (pc' := 15) rfl (L' := #[.val (.long q0), .second, .val (.long q1), .second, .val (.long q2), .second, .val (.int q3), .val (.int (0 : Int32)), .val (.long (own_f4_ret q0)), .second, .unset, .unset]) rfl ?_
    refine o_iload X2 hx (hb hby at_15) (pc' := 17) rfl rfl ?_
    refine o_iconst X2 hx (1 : Int32) (hb hby at_17) (pc' := 18) rfl (by decide) ?_
    refine o_cmpY X2 hx (hb hby at_18) (tlt (by decide : (0 : Int32) < (1 : Int32))).1 (by decide) (pc' := 37) (by decide) ?_
    refine o_iload X2 hx (hb hby at_37) (pc' := 39) rfl rfl ?_
    refine o_iconst X2 hx (2 : Int32) (hb hby at_39) (pc' := 40) rfl (by decide) ?_
    refine o_cmpY X2 hx (hb hby at_40) (tlt (by decide : (0 : Int32) < (2 : Int32))).1 (by decide) (pc' := 60) (by decide) ?_
    refine o_iload X2 hx (hb hby at_60) (pc' := 62) rfl rfl ?_
    refine o_ifN X2 hx (hb hby at_62) (teq (by decide : (0 : Int32) = (0 : Int32))).2 (pc' := 65) rfl ?_
    refine o_iconst X2 hx (0 : Int32) (hb hby at_65) (pc' := 66) rfl (by decide) ?_
    refine o_newP X2 hx hZ 0 (w 28 _ rfl) rfl (hb hby at_66) (pc' := 68) rfl (by decide) (by decide) (by decide) (cells' := 2) rfl (slots' := 1) rfl (by decide) (by decide) ?_
    intro T4 h4 b4 k4 qa4 X4 e4 Ex4 A4
    have g_b4 : n0 ≤ b4 := by rw [qa4]; exact Z2
    have Z4 : n0 ≤ h4.size := Nat.le_trans Z2 Ex4.1
    have V4_ : Arv Z h4 b4 k4 .long (0 : Int32) [] (.long (0 : Int64)) := own_fill 0 A4
    refine o_astore X4 hx (hb hby at_68) (pc' := 70) rfl (L' := #[.val (.long q0), .second, .val (.long q1), .second, .val (.long q2), .second, .val (.int q3), .val (.int (0 : Int32)), .val (.long (own_f4_ret q0)), .second, .val (.ref b4), .unset]) rfl rfl ?_
    refine o_goto X4 hx (hb hby at_70) (by decide) (pc' := 105) (by decide) ?_
    refine o_lconst X4 hx (0 : Int64) (hb hby at_105) (pc' := 106) rfl (by decide) ?_
    refine o_iconst X4 hx (0 : Int32) (hb hby at_106) (pc' := 107) rfl (by decide) ?_
    refine o_newP X4 hx hZ 0 (w 28 _ rfl) e4 (hb hby at_107) (pc' := 109) rfl (by decide) (by decide) (by decide) (cells' := 3) rfl (slots' := 1) rfl (by decide) (by decide) ?_
    intro T6 h6 b6 k6 qa6 X6 e6 Ex6 A6
    have g_b6 : n0 ≤ b6 := by rw [qa6]; exact Z4
    have ne_b4_b6 : b4 ≠ b6 := by rw [qa6]; exact Nat.ne_of_lt V4_.lt
    have V7_b4 := Arv.ext V4_ Ex6
    have Z6 : n0 ≤ h6.size := Nat.le_trans Z4 Ex6.1
    have V6_ : Arv Z h6 b6 k6 .long (0 : Int32) [] (.long (0 : Int64)) := own_fill 0 A6
    refine o_callS X6 hx hZ 0 (argsL := [.long (0 : Int64), .ref b6]) (rest := []) hown (w 29 _ rfl) (w 30 _ rfl) (w 7 _ rfl) (w 31 _ rfl) (by decide) (rm6_0 l Z a0 hw [] b6 (0 : Int64) k6 h6 n0 Z6 V6_) (by decide) (by decide) (cells' := 3) rfl (slots' := 1) rfl (by decide) (by decide) e6 (by rw [hml]; rfl) (lenOf pd_3 rfl) rfl rfl (hb hby at_109) (pc' := 112) rfl ?_
    intro T8 v8 L8 X8 hQ8
    obtain ⟨rfl, Nq8, e8⟩ := hQ8
    have N8 := Fr.app N2 Nq8
    show Go p e below _ (T8.setTop (mkF m 112 _ [.long (own_f6_0_x0 (0 : Int64))]))
    refine o_ldcJ X8 hx hZ (-2152535657050944081 : Int64) hown (w 32 _ rfl) (hb hby at_112) (pc' := 115) rfl ?_
    refine o_lcmp X8 hx (hb hby at_115) (pc' := 116) rfl ?_
    have J124_1 : ∀ (z0 : Int32), z0 = (own_law_v124_1_S0 q0 q1 q2 q3) → Go p e below OWE (T8.setTop (mkF m 124 #[.val (.long q0), .second, .val (.long q1), .second, .val (.long q2), .second, .val (.int q3), .val (.int (0 : Int32)), .val (.long (own_f4_ret q0)), .second, .val (.ref b4), .unset] [.int z0])) := by
      intro z0 yy0
      subst yy0
      refine o_istore X8 hx (hb hby at_124) (pc' := 126) rfl (L' := #[.val (.long q0), .second, .val (.long q1), .second, .val (.long q2), .second, .val (.int q3), .val (.int (0 : Int32)), .val (.long (own_f4_ret q0)), .second, .val (.ref b4), .val (.int (own_law_v124_1_S0 q0 q1 q2 q3))]) rfl ?_
      refine o_iload X8 hx (hb hby at_126) (pc' := 128) rfl rfl ?_
      by_cases hc128_10 : (own_law_v124_1_S0 q0 q1 q2 q3) = (0 : Int32)
      · refine o_ifY X8 hx (hb hby at_128) (teq hc128_10).1 (by decide) (pc' := 147) (by decide) ?_
        refine o_iconst X8 hx (0 : Int32) (hb hby at_147) (pc' := 148) rfl (by decide) ?_
        rw [← hOWE]
        exact o_retZ X8 hx rfl hlk hrt (hb hby at_148) (by decide) (by decide) (by rw [e8]; exact ⟨(by rw [own_law_ret, if_pos hs1, own_law_ret_j124_1, if_pos hc128_10]), N8⟩)
      · refine o_ifN X8 hx (hb hby at_128) (feq hc128_10).1 (pc' := 131) rfl ?_
        refine o_lloadN X8 hx (hb hby at_131) (pc' := 132) rfl rfl ?_
        refine o_aload X8 hx (hb hby at_132) (pc' := 134) rfl rfl rfl ?_
        refine o_callS X8 hx hZ 0 (argsL := [.long q0, .ref b4]) (rest := []) hown (w 29 _ rfl) (w 30 _ rfl) (w 7 _ rfl) (w 31 _ rfl) (by decide) (rm6_0 l Z a0 hw [] b4 q0 k4 h6 n0 Z6 V7_b4) (by decide) (by decide) (cells' := 3) rfl (slots' := 1) rfl (by decide) (by decide) e8 (by rw [hml]; rfl) (lenOf pd_3 rfl) rfl rfl (hb hby at_134) (pc' := 137) rfl ?_
        intro T11 v11 L11 X11 hQ11
        obtain ⟨rfl, Nq11, e11⟩ := hQ11
        have N11 := Fr.app N8 Nq11
        show Go p e below _ (T11.setTop (mkF m 137 _ [.long (own_f6_0_x0 q0)]))
        refine o_lload X11 hx (hb hby at_137) (pc' := 139) rfl rfl ?_
        refine o_lcmp X11 hx (hb hby at_139) (pc' := 140) rfl ?_
        by_cases hc140_12 : (own_f6_0_x0 q0) = (own_f4_ret q0)
        · refine o_ifN X11 hx (hb hby at_140) (teqL hc140_12).2 (pc' := 143) rfl ?_
          refine o_iconst X11 hx (1 : Int32) (hb hby at_143) (pc' := 144) rfl (by decide) ?_
          refine o_goto X11 hx (hb hby at_144) (by decide) (pc' := 148) (by decide) ?_
          rw [← hOWE]
          exact o_retZ X11 hx rfl hlk hrt (hb hby at_148) (by decide) (by decide) (by rw [e11]; exact ⟨(by rw [own_law_ret, if_pos hs1, own_law_ret_j124_1, if_neg hc128_10, if_pos hc140_12]), N11⟩)
        · refine o_ifY X11 hx (hb hby at_140) (feqL hc140_12).2 (by decide) (pc' := 147) (by decide) ?_
          refine o_iconst X11 hx (0 : Int32) (hb hby at_147) (pc' := 148) rfl (by decide) ?_
          rw [← hOWE]
          exact o_retZ X11 hx rfl hlk hrt (hb hby at_148) (by decide) (by decide) (by rw [e11]; exact ⟨(by rw [own_law_ret, if_pos hs1, own_law_ret_j124_1, if_neg hc128_10, if_neg hc140_12]), N11⟩)
    by_cases hc116_9 : (own_f6_0_x0 (0 : Int64)) = (-2152535657050944081 : Int64)
    · refine o_ifN X8 hx (hb hby at_116) (teqL hc116_9).2 (pc' := 119) rfl ?_
      refine o_iconst X8 hx (1 : Int32) (hb hby at_119) (pc' := 120) rfl (by decide) ?_
      refine o_goto X8 hx (hb hby at_120) (by decide) (pc' := 124) (by decide) ?_
      exact J124_1 ((1 : Int32)) (by rw [own_law_v124_1_S0, if_pos hc116_9])
    · refine o_ifY X8 hx (hb hby at_116) (feqL hc116_9).2 (by decide) (pc' := 123) (by decide) ?_
      refine o_iconst X8 hx (0 : Int32) (hb hby at_123) (pc' := 124) rfl (by decide) ?_
      exact J124_1 ((0 : Int32)) (by rw [own_law_v124_1_S0, if_neg hc116_9])
  · by_cases hs13 : (own_law_x0 q0 q1 q2 q3) = (1 : Int32)
    · rw [hs13]
      refine o_lloadN X0 hx (hb hby at_9) (pc' := 10) rfl rfl ?_
      refine o_callS X0 hx hZ 0 (argsL := [.long q0]) (rest := []) hown (w 1 _ rfl) (w 2 _ rfl) (w 3 _ rfl) (w 4 _ rfl) (by decide) (rm1 l Z a0 hw [] q0 h0 n0 Z0 ) (by decide) (by decide) (cells' := 1) rfl (slots' := 1) rfl (by decide) (by decide) e0 (by rw [hml]; rfl) (lenOf pd_0 rfl) rfl rfl (hb hby at_10) (pc' := 13) rfl ?_
      intro T14 v14 L14 X14 hQ14
      obtain ⟨rfl, Nq14, Kq14⟩ := hQ14
      have N14 := Fr.app N0 Nq14
      have Z14 : n0 ≤ T14.heap.size := Nat.le_trans Z0 Kq14.1
      show Go p e below _ (T14.setTop (mkF m 13 _ [.long (own_f4_ret q0)]))
      refine o_lstore X14 hx (hb hby at_13) (pc' := 15) rfl (L' := #[.val (.long q0), .second, .val (.long q1), .second, .val (.long q2), .second, .val (.int q3), .val (.int (1 : Int32)), .val (.long (own_f4_ret q0)), .second, .unset, .unset]) rfl ?_
      refine o_iload X14 hx (hb hby at_15) (pc' := 17) rfl rfl ?_
      refine o_iconst X14 hx (1 : Int32) (hb hby at_17) (pc' := 18) rfl (by decide) ?_
      refine o_cmpN X14 hx (hb hby at_18) (flt (by decide : ¬ ((1 : Int32) < (1 : Int32)))).1 (pc' := 21) rfl ?_
      refine o_lload X14 hx (hb hby at_21) (pc' := 23) rfl rfl ?_
      refine o_lloadN X14 hx (hb hby at_23) (pc' := 24) rfl rfl ?_
      refine o_callS X14 hx hZ 2 (argsL := [.long q1]) (rest := [.long (own_f4_ret q0)]) hown (w 1 _ rfl) (w 2 _ rfl) (w 3 _ rfl) (w 4 _ rfl) (by decide) (rm1 l Z a0 hw [] q1 T14.heap n0 Z14 ) (by decide) (by decide) (cells' := 2) rfl (slots' := 2) rfl (by decide) (by decide) rfl (by rw [hml]; rfl) (lenOf pd_0 rfl) rfl rfl (hb hby at_24) (pc' := 27) rfl ?_
      intro T16 v16 L16 X16 hQ16
      obtain ⟨rfl, Nq16, Kq16⟩ := hQ16
      have N16 := Fr.app N14 Nq16
      have Z16 : n0 ≤ T16.heap.size := Nat.le_trans Z14 Kq16.1
      show Go p e below _ (T16.setTop (mkF m 27 _ [.long (own_f4_ret q1), .long (own_f4_ret q0)]))
      refine o_lxor X16 hx (hb hby at_27) (pc' := 28) rfl ?_
      refine o_ldcJ X16 hx hZ (-7046029254386353131 : Int64) hown (w 27 _ rfl) (hb hby at_28) (pc' := 31) rfl ?_
      refine o_lsub X16 hx (hb hby at_31) (pc' := 32) rfl ?_
      refine o_callS X16 hx hZ 0 (argsL := [.long (((own_f4_ret q0) ^^^ (own_f4_ret q1)) - (-7046029254386353131 : Int64))]) (rest := []) hown (w 1 _ rfl) (w 2 _ rfl) (w 3 _ rfl) (w 4 _ rfl) (by decide) (rm1 l Z a0 hw [] (((own_f4_ret q0) ^^^ (own_f4_ret q1)) - (-7046029254386353131 : Int64)) T16.heap n0 Z16 ) (by decide) (by decide) (cells' := 3) rfl (slots' := 3) rfl (by decide) (by decide) rfl (by rw [hml]; rfl) (lenOf pd_0 rfl) rfl rfl (hb hby at_32) (pc' := 35) rfl ?_
      intro T18 v18 L18 X18 hQ18
      obtain ⟨rfl, Nq18, Kq18⟩ := hQ18
      have N18 := Fr.app N16 Nq18
      have Z18 : n0 ≤ T18.heap.size := Nat.le_trans Z16 Kq18.1
      show Go p e below _ (T18.setTop (mkF m 35 _ [.long (own_f4_ret (((own_f4_ret q0) ^^^ (own_f4_ret q1)) - (-7046029254386353131 : Int64)))]))
      refine o_lstore (x := (own_law_x1 q0 q1 q2 q3)) X18 hx (hb hby at_35) (pc' := 37) rfl (L' := #[.val (.long q0), .second, .val (.long q1), .second, .val (.long q2), .second, .val (.int q3), .val (.int (1 : Int32)), .val (.long (own_law_x1 q0 q1 q2 q3)), .second, .unset, .unset]) rfl ?_
      refine o_iload X18 hx (hb hby at_37) (pc' := 39) rfl rfl ?_
      refine o_iconst X18 hx (2 : Int32) (hb hby at_39) (pc' := 40) rfl (by decide) ?_
      refine o_cmpY X18 hx (hb hby at_40) (tlt (by decide : (1 : Int32) < (2 : Int32))).1 (by decide) (pc' := 60) (by decide) ?_
      refine o_iload X18 hx (hb hby at_60) (pc' := 62) rfl rfl ?_
      refine o_ifY X18 hx (hb hby at_62) (feq (by decide : ¬ ((1 : Int32) = (0 : Int32)))).2 (by decide) (pc' := 73) (by decide) ?_
      refine o_iload X18 hx (hb hby at_73) (pc' := 75) rfl rfl ?_
      refine o_iconst X18 hx (1 : Int32) (hb hby at_75) (pc' := 76) rfl (by decide) ?_
      refine o_cmpN X18 hx (hb hby at_76) (teq (by decide : (1 : Int32) = (1 : Int32))).2 (pc' := 79) rfl ?_
      refine o_iconst X18 hx (1 : Int32) (hb hby at_79) (pc' := 80) rfl (by decide) ?_
      refine o_newP X18 hx hZ 1 (w 28 _ rfl) rfl (hb hby at_80) (pc' := 82) rfl (by decide) (by decide) (by decide) (cells' := 4) rfl (slots' := 4) rfl (by decide) (by decide) ?_
      intro T20 h20 b20 k20 qa20 X20 e20 Ex20 A20
      have g_b20 : n0 ≤ b20 := by rw [qa20]; exact Z18
      have Z20 : n0 ≤ h20.size := Nat.le_trans Z18 Ex20.1
      have V20_ : Arv Z h20 b20 k20 .long (1 : Int32) [.long (0 : Int64)] (.long (0 : Int64)) := own_fill 1 A20
      refine o_dup X20 hx (hb hby at_82) (pc' := 83) rfl rfl ?_
      refine o_iconst X20 hx (0 : Int32) (hb hby at_83) (pc' := 84) rfl (by decide) ?_
      refine o_lloadN X20 hx (hb hby at_84) (pc' := 85) rfl rfl ?_
      refine o_lastore X20 hx hZ 0 e20 V20_ (by decide) (by decide) (by exact (by decide : 0 < 1)) (vs' := [.long q1]) rfl (hb hby at_85) (pc' := 86) rfl ?_
      intro T22 h22 X22 e22 W22 V22_
      have N22 := Fr.snoc X22 N18 g_b20
      have Z22 : n0 ≤ h22.size := by rw [W22.size]; exact Z20
      refine o_astore X22 hx (hb hby at_86) (pc' := 88) rfl (L' := #[.val (.long q0), .second, .val (.long q1), .second, .val (.long q2), .second, .val (.int q3), .val (.int (1 : Int32)), .val (.long (own_law_x1 q0 q1 q2 q3)), .second, .val (.ref b20), .unset]) rfl rfl ?_
      refine o_goto X22 hx (hb hby at_88) (by decide) (pc' := 105) (by decide) ?_
      refine o_lconst X22 hx (0 : Int64) (hb hby at_105) (pc' := 106) rfl (by decide) ?_
      refine o_iconst X22 hx (0 : Int32) (hb hby at_106) (pc' := 107) rfl (by decide) ?_
      refine o_newP X22 hx hZ 0 (w 28 _ rfl) e22 (hb hby at_107) (pc' := 109) rfl (by decide) (by decide) (by decide) (cells' := 5) rfl (slots' := 4) rfl (by decide) (by decide) ?_
      intro T24 h24 b24 k24 qa24 X24 e24 Ex24 A24
      have g_b24 : n0 ≤ b24 := by rw [qa24]; exact Z22
      have ne_b20_b24 : b20 ≠ b24 := by rw [qa24]; exact Nat.ne_of_lt V22_.lt
      have V25_b20 := Arv.ext V22_ Ex24
      have Z24 : n0 ≤ h24.size := Nat.le_trans Z22 Ex24.1
      have V24_ : Arv Z h24 b24 k24 .long (0 : Int32) [] (.long (0 : Int64)) := own_fill 0 A24
      refine o_callS X24 hx hZ 0 (argsL := [.long (0 : Int64), .ref b24]) (rest := []) hown (w 29 _ rfl) (w 30 _ rfl) (w 7 _ rfl) (w 31 _ rfl) (by decide) (rm6_0 l Z a0 hw [] b24 (0 : Int64) k24 h24 n0 Z24 V24_) (by decide) (by decide) (cells' := 5) rfl (slots' := 4) rfl (by decide) (by decide) e24 (by rw [hml]; rfl) (lenOf pd_3 rfl) rfl rfl (hb hby at_109) (pc' := 112) rfl ?_
      intro T26 v26 L26 X26 hQ26
      obtain ⟨rfl, Nq26, e26⟩ := hQ26
      have N26 := Fr.app N22 Nq26
      show Go p e below _ (T26.setTop (mkF m 112 _ [.long (own_f6_0_x0 (0 : Int64))]))
      refine o_ldcJ X26 hx hZ (-2152535657050944081 : Int64) hown (w 32 _ rfl) (hb hby at_112) (pc' := 115) rfl ?_
      refine o_lcmp X26 hx (hb hby at_115) (pc' := 116) rfl ?_
      have J124_2 : ∀ (z0 : Int32), z0 = (own_law_v124_1_S0 q0 q1 q2 q3) → Go p e below OWE (T26.setTop (mkF m 124 #[.val (.long q0), .second, .val (.long q1), .second, .val (.long q2), .second, .val (.int q3), .val (.int (1 : Int32)), .val (.long (own_law_x1 q0 q1 q2 q3)), .second, .val (.ref b20), .unset] [.int z0])) := by
        intro z0 yy0
        subst yy0
        refine o_istore X26 hx (hb hby at_124) (pc' := 126) rfl (L' := #[.val (.long q0), .second, .val (.long q1), .second, .val (.long q2), .second, .val (.int q3), .val (.int (1 : Int32)), .val (.long (own_law_x1 q0 q1 q2 q3)), .second, .val (.ref b20), .val (.int (own_law_v124_1_S0 q0 q1 q2 q3))]) rfl ?_
        refine o_iload X26 hx (hb hby at_126) (pc' := 128) rfl rfl ?_
        by_cases hc128_28 : (own_law_v124_1_S0 q0 q1 q2 q3) = (0 : Int32)
        · refine o_ifY X26 hx (hb hby at_128) (teq hc128_28).1 (by decide) (pc' := 147) (by decide) ?_
          refine o_iconst X26 hx (0 : Int32) (hb hby at_147) (pc' := 148) rfl (by decide) ?_
          rw [← hOWE]
          exact o_retZ X26 hx rfl hlk hrt (hb hby at_148) (by decide) (by decide) (by rw [e26]; exact ⟨(by rw [own_law_ret, if_neg hs1, if_pos hs13, own_law_ret_j124_2, if_pos hc128_28]), N26⟩)
        · refine o_ifN X26 hx (hb hby at_128) (feq hc128_28).1 (pc' := 131) rfl ?_
          refine o_lloadN X26 hx (hb hby at_131) (pc' := 132) rfl rfl ?_
          refine o_aload X26 hx (hb hby at_132) (pc' := 134) rfl rfl rfl ?_
          refine o_callS X26 hx hZ 0 (argsL := [.long q0, .ref b20]) (rest := []) hown (w 29 _ rfl) (w 30 _ rfl) (w 7 _ rfl) (w 31 _ rfl) (by decide) (rm6_1 l Z a0 hw [] b20 q0 q1 k20 h24 n0 Z24 V25_b20) (by decide) (by decide) (cells' := 5) rfl (slots' := 4) rfl (by decide) (by decide) e26 (by rw [hml]; rfl) (lenOf pd_3 rfl) rfl rfl (hb hby at_134) (pc' := 137) rfl ?_
          intro T29 v29 L29 X29 hQ29
          obtain ⟨rfl, Nq29, e29⟩ := hQ29
          have N29 := Fr.app N26 Nq29
          show Go p e below _ (T29.setTop (mkF m 137 _ [.long (own_f6_1_x1 q0 q1)]))
          refine o_lload X29 hx (hb hby at_137) (pc' := 139) rfl rfl ?_
          refine o_lcmp X29 hx (hb hby at_139) (pc' := 140) rfl ?_
          by_cases hc140_30 : (own_f6_1_x1 q0 q1) = (own_law_x1 q0 q1 q2 q3)
          · refine o_ifN X29 hx (hb hby at_140) (teqL hc140_30).2 (pc' := 143) rfl ?_
            refine o_iconst X29 hx (1 : Int32) (hb hby at_143) (pc' := 144) rfl (by decide) ?_
            refine o_goto X29 hx (hb hby at_144) (by decide) (pc' := 148) (by decide) ?_
            rw [← hOWE]
            exact o_retZ X29 hx rfl hlk hrt (hb hby at_148) (by decide) (by decide) (by rw [e29]; exact ⟨(by rw [own_law_ret, if_neg hs1, if_pos hs13, own_law_ret_j124_2, if_neg hc128_28, if_pos hc140_30]), N29⟩)
          · refine o_ifY X29 hx (hb hby at_140) (feqL hc140_30).2 (by decide) (pc' := 147) (by decide) ?_
            refine o_iconst X29 hx (0 : Int32) (hb hby at_147) (pc' := 148) rfl (by decide) ?_
            rw [← hOWE]
            exact o_retZ X29 hx rfl hlk hrt (hb hby at_148) (by decide) (by decide) (by rw [e29]; exact ⟨(by rw [own_law_ret, if_neg hs1, if_pos hs13, own_law_ret_j124_2, if_neg hc128_28, if_neg hc140_30]), N29⟩)
      by_cases hc116_27 : (own_f6_0_x0 (0 : Int64)) = (-2152535657050944081 : Int64)
      · refine o_ifN X26 hx (hb hby at_116) (teqL hc116_27).2 (pc' := 119) rfl ?_
        refine o_iconst X26 hx (1 : Int32) (hb hby at_119) (pc' := 120) rfl (by decide) ?_
        refine o_goto X26 hx (hb hby at_120) (by decide) (pc' := 124) (by decide) ?_
        exact J124_2 ((1 : Int32)) (by rw [own_law_v124_1_S0, if_pos hc116_27])
      · refine o_ifY X26 hx (hb hby at_116) (feqL hc116_27).2 (by decide) (pc' := 123) (by decide) ?_
        refine o_iconst X26 hx (0 : Int32) (hb hby at_123) (pc' := 124) rfl (by decide) ?_
        exact J124_2 ((0 : Int32)) (by rw [own_law_v124_1_S0, if_neg hc116_27])
    · have hs31 : (own_law_x0 q0 q1 q2 q3) = (2 : Int32) := (((own_c3 q0 q1 q2 q3)).resolve_left hs1).resolve_left hs13
      rw [hs31]
      refine o_lloadN X0 hx (hb hby at_9) (pc' := 10) rfl rfl ?_
      refine o_callS X0 hx hZ 0 (argsL := [.long q0]) (rest := []) hown (w 1 _ rfl) (w 2 _ rfl) (w 3 _ rfl) (w 4 _ rfl) (by decide) (rm1 l Z a0 hw [] q0 h0 n0 Z0 ) (by decide) (by decide) (cells' := 1) rfl (slots' := 1) rfl (by decide) (by decide) e0 (by rw [hml]; rfl) (lenOf pd_0 rfl) rfl rfl (hb hby at_10) (pc' := 13) rfl ?_
      intro T32 v32 L32 X32 hQ32
      obtain ⟨rfl, Nq32, Kq32⟩ := hQ32
      have N32 := Fr.app N0 Nq32
      have Z32 : n0 ≤ T32.heap.size := Nat.le_trans Z0 Kq32.1
      show Go p e below _ (T32.setTop (mkF m 13 _ [.long (own_f4_ret q0)]))
      refine o_lstore X32 hx (hb hby at_13) (pc' := 15) rfl (L' := #[.val (.long q0), .second, .val (.long q1), .second, .val (.long q2), .second, .val (.int q3), .val (.int (2 : Int32)), .val (.long (own_f4_ret q0)), .second, .unset, .unset]) rfl ?_
      refine o_iload X32 hx (hb hby at_15) (pc' := 17) rfl rfl ?_
      refine o_iconst X32 hx (1 : Int32) (hb hby at_17) (pc' := 18) rfl (by decide) ?_
      refine o_cmpN X32 hx (hb hby at_18) (flt (by decide : ¬ ((2 : Int32) < (1 : Int32)))).1 (pc' := 21) rfl ?_
      refine o_lload X32 hx (hb hby at_21) (pc' := 23) rfl rfl ?_
      refine o_lloadN X32 hx (hb hby at_23) (pc' := 24) rfl rfl ?_
      refine o_callS X32 hx hZ 2 (argsL := [.long q1]) (rest := [.long (own_f4_ret q0)]) hown (w 1 _ rfl) (w 2 _ rfl) (w 3 _ rfl) (w 4 _ rfl) (by decide) (rm1 l Z a0 hw [] q1 T32.heap n0 Z32 ) (by decide) (by decide) (cells' := 2) rfl (slots' := 2) rfl (by decide) (by decide) rfl (by rw [hml]; rfl) (lenOf pd_0 rfl) rfl rfl (hb hby at_24) (pc' := 27) rfl ?_
      intro T34 v34 L34 X34 hQ34
      obtain ⟨rfl, Nq34, Kq34⟩ := hQ34
      have N34 := Fr.app N32 Nq34
      have Z34 : n0 ≤ T34.heap.size := Nat.le_trans Z32 Kq34.1
      show Go p e below _ (T34.setTop (mkF m 27 _ [.long (own_f4_ret q1), .long (own_f4_ret q0)]))
      refine o_lxor X34 hx (hb hby at_27) (pc' := 28) rfl ?_
      refine o_ldcJ X34 hx hZ (-7046029254386353131 : Int64) hown (w 27 _ rfl) (hb hby at_28) (pc' := 31) rfl ?_
      refine o_lsub X34 hx (hb hby at_31) (pc' := 32) rfl ?_
      refine o_callS X34 hx hZ 0 (argsL := [.long (((own_f4_ret q0) ^^^ (own_f4_ret q1)) - (-7046029254386353131 : Int64))]) (rest := []) hown (w 1 _ rfl) (w 2 _ rfl) (w 3 _ rfl) (w 4 _ rfl) (by decide) (rm1 l Z a0 hw [] (((own_f4_ret q0) ^^^ (own_f4_ret q1)) - (-7046029254386353131 : Int64)) T34.heap n0 Z34 ) (by decide) (by decide) (cells' := 3) rfl (slots' := 3) rfl (by decide) (by decide) rfl (by rw [hml]; rfl) (lenOf pd_0 rfl) rfl rfl (hb hby at_32) (pc' := 35) rfl ?_
      intro T36 v36 L36 X36 hQ36
      obtain ⟨rfl, Nq36, Kq36⟩ := hQ36
      have N36 := Fr.app N34 Nq36
      have Z36 : n0 ≤ T36.heap.size := Nat.le_trans Z34 Kq36.1
      show Go p e below _ (T36.setTop (mkF m 35 _ [.long (own_f4_ret (((own_f4_ret q0) ^^^ (own_f4_ret q1)) - (-7046029254386353131 : Int64)))]))
      refine o_lstore (x := (own_law_x1 q0 q1 q2 q3)) X36 hx (hb hby at_35) (pc' := 37) rfl (L' := #[.val (.long q0), .second, .val (.long q1), .second, .val (.long q2), .second, .val (.int q3), .val (.int (2 : Int32)), .val (.long (own_law_x1 q0 q1 q2 q3)), .second, .unset, .unset]) rfl ?_
      refine o_iload X36 hx (hb hby at_37) (pc' := 39) rfl rfl ?_
      refine o_iconst X36 hx (2 : Int32) (hb hby at_39) (pc' := 40) rfl (by decide) ?_
      refine o_cmpN X36 hx (hb hby at_40) (flt (by decide : ¬ ((2 : Int32) < (2 : Int32)))).1 (pc' := 43) rfl ?_
      refine o_lload X36 hx (hb hby at_43) (pc' := 45) rfl rfl ?_
      refine o_lload X36 hx (hb hby at_45) (pc' := 47) rfl rfl ?_
      refine o_callS X36 hx hZ 2 (argsL := [.long q2]) (rest := [.long (own_law_x1 q0 q1 q2 q3)]) hown (w 1 _ rfl) (w 2 _ rfl) (w 3 _ rfl) (w 4 _ rfl) (by decide) (rm1 l Z a0 hw [] q2 T36.heap n0 Z36 ) (by decide) (by decide) (cells' := 4) rfl (slots' := 4) rfl (by decide) (by decide) rfl (by rw [hml]; rfl) (lenOf pd_0 rfl) rfl rfl (hb hby at_47) (pc' := 50) rfl ?_
      intro T38 v38 L38 X38 hQ38
      obtain ⟨rfl, Nq38, Kq38⟩ := hQ38
      have N38 := Fr.app N36 Nq38
      have Z38 : n0 ≤ T38.heap.size := Nat.le_trans Z36 Kq38.1
      show Go p e below _ (T38.setTop (mkF m 50 _ [.long (own_f4_ret q2), .long (own_law_x1 q0 q1 q2 q3)]))
      refine o_lxor X38 hx (hb hby at_50) (pc' := 51) rfl ?_
      refine o_ldcJ X38 hx hZ (-7046029254386353131 : Int64) hown (w 27 _ rfl) (hb hby at_51) (pc' := 54) rfl ?_
      refine o_lsub X38 hx (hb hby at_54) (pc' := 55) rfl ?_
      refine o_callS X38 hx hZ 0 (argsL := [.long (((own_law_x1 q0 q1 q2 q3) ^^^ (own_f4_ret q2)) - (-7046029254386353131 : Int64))]) (rest := []) hown (w 1 _ rfl) (w 2 _ rfl) (w 3 _ rfl) (w 4 _ rfl) (by decide) (rm1 l Z a0 hw [] (((own_law_x1 q0 q1 q2 q3) ^^^ (own_f4_ret q2)) - (-7046029254386353131 : Int64)) T38.heap n0 Z38 ) (by decide) (by decide) (cells' := 5) rfl (slots' := 5) rfl (by decide) (by decide) rfl (by rw [hml]; rfl) (lenOf pd_0 rfl) rfl rfl (hb hby at_55) (pc' := 58) rfl ?_
      intro T40 v40 L40 X40 hQ40
      obtain ⟨rfl, Nq40, Kq40⟩ := hQ40
      have N40 := Fr.app N38 Nq40
      have Z40 : n0 ≤ T40.heap.size := Nat.le_trans Z38 Kq40.1
      show Go p e below _ (T40.setTop (mkF m 58 _ [.long (own_f4_ret (((own_law_x1 q0 q1 q2 q3) ^^^ (own_f4_ret q2)) - (-7046029254386353131 : Int64)))]))
      refine o_lstore (x := (own_law_x2 q0 q1 q2 q3)) X40 hx (hb hby at_58) (pc' := 60) rfl (L' := #[.val (.long q0), .second, .val (.long q1), .second, .val (.long q2), .second, .val (.int q3), .val (.int (2 : Int32)), .val (.long (own_law_x2 q0 q1 q2 q3)), .second, .unset, .unset]) rfl ?_
      refine o_iload X40 hx (hb hby at_60) (pc' := 62) rfl rfl ?_
      refine o_ifY X40 hx (hb hby at_62) (feq (by decide : ¬ ((2 : Int32) = (0 : Int32)))).2 (by decide) (pc' := 73) (by decide) ?_
      refine o_iload X40 hx (hb hby at_73) (pc' := 75) rfl rfl ?_
      refine o_iconst X40 hx (1 : Int32) (hb hby at_75) (pc' := 76) rfl (by decide) ?_
      refine o_cmpY X40 hx (hb hby at_76) (feq (by decide : ¬ ((2 : Int32) = (1 : Int32)))).2 (by decide) (pc' := 91) (by decide) ?_
      refine o_iconst X40 hx (2 : Int32) (hb hby at_91) (pc' := 92) rfl (by decide) ?_
      refine o_newP X40 hx hZ 2 (w 28 _ rfl) rfl (hb hby at_92) (pc' := 94) rfl (by decide) (by decide) (by decide) (cells' := 6) rfl (slots' := 7) rfl (by decide) (by decide) ?_
      intro T42 h42 b42 k42 qa42 X42 e42 Ex42 A42
      have g_b42 : n0 ≤ b42 := by rw [qa42]; exact Z40
      have Z42 : n0 ≤ h42.size := Nat.le_trans Z40 Ex42.1
      have V42_ : Arv Z h42 b42 k42 .long (2 : Int32) [.long (0 : Int64), .long (0 : Int64)] (.long (0 : Int64)) := own_fill 2 A42
      refine o_dup X42 hx (hb hby at_94) (pc' := 95) rfl rfl ?_
      refine o_iconst X42 hx (0 : Int32) (hb hby at_95) (pc' := 96) rfl (by decide) ?_
      refine o_lloadN X42 hx (hb hby at_96) (pc' := 97) rfl rfl ?_
      refine o_lastore X42 hx hZ 0 e42 V42_ (by decide) (by decide) (by exact (by decide : 0 < 2)) (vs' := [.long q1, .long (0 : Int64)]) rfl (hb hby at_97) (pc' := 98) rfl ?_
      intro T44 h44 X44 e44 W44 V44_
      have N44 := Fr.snoc X44 N40 g_b42
      have Z44 : n0 ≤ h44.size := by rw [W44.size]; exact Z42
      refine o_dup X44 hx (hb hby at_98) (pc' := 99) rfl rfl ?_
      refine o_iconst X44 hx (1 : Int32) (hb hby at_99) (pc' := 100) rfl (by decide) ?_
      refine o_lload X44 hx (hb hby at_100) (pc' := 102) rfl rfl ?_
      refine o_lastore X44 hx hZ 1 e44 V44_ (by decide) (by decide) (by exact (by decide : 1 < 2)) (vs' := [.long q1, .long q2]) rfl (hb hby at_102) (pc' := 103) rfl ?_
      intro T46 h46 X46 e46 W46 V46_
      have N46 := Fr.snoc X46 N44 g_b42
      have Z46 : n0 ≤ h46.size := by rw [W46.size]; exact Z44
      refine o_astore X46 hx (hb hby at_103) (pc' := 105) rfl (L' := #[.val (.long q0), .second, .val (.long q1), .second, .val (.long q2), .second, .val (.int q3), .val (.int (2 : Int32)), .val (.long (own_law_x2 q0 q1 q2 q3)), .second, .val (.ref b42), .unset]) rfl rfl ?_
      refine o_lconst X46 hx (0 : Int64) (hb hby at_105) (pc' := 106) rfl (by decide) ?_
      refine o_iconst X46 hx (0 : Int32) (hb hby at_106) (pc' := 107) rfl (by decide) ?_
      refine o_newP X46 hx hZ 0 (w 28 _ rfl) e46 (hb hby at_107) (pc' := 109) rfl (by decide) (by decide) (by decide) (cells' := 7) rfl (slots' := 7) rfl (by decide) (by decide) ?_
      intro T48 h48 b48 k48 qa48 X48 e48 Ex48 A48
      have g_b48 : n0 ≤ b48 := by rw [qa48]; exact Z46
      have ne_b42_b48 : b42 ≠ b48 := by rw [qa48]; exact Nat.ne_of_lt V46_.lt
      have V49_b42 := Arv.ext V46_ Ex48
      have Z48 : n0 ≤ h48.size := Nat.le_trans Z46 Ex48.1
      have V48_ : Arv Z h48 b48 k48 .long (0 : Int32) [] (.long (0 : Int64)) := own_fill 0 A48
      refine o_callS X48 hx hZ 0 (argsL := [.long (0 : Int64), .ref b48]) (rest := []) hown (w 29 _ rfl) (w 30 _ rfl) (w 7 _ rfl) (w 31 _ rfl) (by decide) (rm6_0 l Z a0 hw [] b48 (0 : Int64) k48 h48 n0 Z48 V48_) (by decide) (by decide) (cells' := 7) rfl (slots' := 7) rfl (by decide) (by decide) e48 (by rw [hml]; rfl) (lenOf pd_3 rfl) rfl rfl (hb hby at_109) (pc' := 112) rfl ?_
      intro T50 v50 L50 X50 hQ50
      obtain ⟨rfl, Nq50, e50⟩ := hQ50
      have N50 := Fr.app N46 Nq50
      show Go p e below _ (T50.setTop (mkF m 112 _ [.long (own_f6_0_x0 (0 : Int64))]))
      refine o_ldcJ X50 hx hZ (-2152535657050944081 : Int64) hown (w 32 _ rfl) (hb hby at_112) (pc' := 115) rfl ?_
      refine o_lcmp X50 hx (hb hby at_115) (pc' := 116) rfl ?_
      have J124_3 : ∀ (z0 : Int32), z0 = (own_law_v124_1_S0 q0 q1 q2 q3) → Go p e below OWE (T50.setTop (mkF m 124 #[.val (.long q0), .second, .val (.long q1), .second, .val (.long q2), .second, .val (.int q3), .val (.int (2 : Int32)), .val (.long (own_law_x2 q0 q1 q2 q3)), .second, .val (.ref b42), .unset] [.int z0])) := by
        intro z0 yy0
        subst yy0
        refine o_istore X50 hx (hb hby at_124) (pc' := 126) rfl (L' := #[.val (.long q0), .second, .val (.long q1), .second, .val (.long q2), .second, .val (.int q3), .val (.int (2 : Int32)), .val (.long (own_law_x2 q0 q1 q2 q3)), .second, .val (.ref b42), .val (.int (own_law_v124_1_S0 q0 q1 q2 q3))]) rfl ?_
        refine o_iload X50 hx (hb hby at_126) (pc' := 128) rfl rfl ?_
        by_cases hc128_52 : (own_law_v124_1_S0 q0 q1 q2 q3) = (0 : Int32)
        · refine o_ifY X50 hx (hb hby at_128) (teq hc128_52).1 (by decide) (pc' := 147) (by decide) ?_
          refine o_iconst X50 hx (0 : Int32) (hb hby at_147) (pc' := 148) rfl (by decide) ?_
          rw [← hOWE]
          exact o_retZ X50 hx rfl hlk hrt (hb hby at_148) (by decide) (by decide) (by rw [e50]; exact ⟨(by rw [own_law_ret, if_neg hs1, if_neg hs13, own_law_ret_j124_3, if_pos hc128_52]), N50⟩)
        · refine o_ifN X50 hx (hb hby at_128) (feq hc128_52).1 (pc' := 131) rfl ?_
          refine o_lloadN X50 hx (hb hby at_131) (pc' := 132) rfl rfl ?_
          refine o_aload X50 hx (hb hby at_132) (pc' := 134) rfl rfl rfl ?_
          refine o_callS X50 hx hZ 0 (argsL := [.long q0, .ref b42]) (rest := []) hown (w 29 _ rfl) (w 30 _ rfl) (w 7 _ rfl) (w 31 _ rfl) (by decide) (rm6_2 l Z a0 hw [] b42 q0 q1 q2 k42 h48 n0 Z48 V49_b42) (by decide) (by decide) (cells' := 7) rfl (slots' := 7) rfl (by decide) (by decide) e50 (by rw [hml]; rfl) (lenOf pd_3 rfl) rfl rfl (hb hby at_134) (pc' := 137) rfl ?_
          intro T53 v53 L53 X53 hQ53
          obtain ⟨rfl, Nq53, e53⟩ := hQ53
          have N53 := Fr.app N50 Nq53
          show Go p e below _ (T53.setTop (mkF m 137 _ [.long (own_f6_2_x2 q0 q1 q2)]))
          refine o_lload X53 hx (hb hby at_137) (pc' := 139) rfl rfl ?_
          refine o_lcmp X53 hx (hb hby at_139) (pc' := 140) rfl ?_
          by_cases hc140_54 : (own_f6_2_x2 q0 q1 q2) = (own_law_x2 q0 q1 q2 q3)
          · refine o_ifN X53 hx (hb hby at_140) (teqL hc140_54).2 (pc' := 143) rfl ?_
            refine o_iconst X53 hx (1 : Int32) (hb hby at_143) (pc' := 144) rfl (by decide) ?_
            refine o_goto X53 hx (hb hby at_144) (by decide) (pc' := 148) (by decide) ?_
            rw [← hOWE]
            exact o_retZ X53 hx rfl hlk hrt (hb hby at_148) (by decide) (by decide) (by rw [e53]; exact ⟨(by rw [own_law_ret, if_neg hs1, if_neg hs13, own_law_ret_j124_3, if_neg hc128_52, if_pos hc140_54]), N53⟩)
          · refine o_ifY X53 hx (hb hby at_140) (feqL hc140_54).2 (by decide) (pc' := 147) (by decide) ?_
            refine o_iconst X53 hx (0 : Int32) (hb hby at_147) (pc' := 148) rfl (by decide) ?_
            rw [← hOWE]
            exact o_retZ X53 hx rfl hlk hrt (hb hby at_148) (by decide) (by decide) (by rw [e53]; exact ⟨(by rw [own_law_ret, if_neg hs1, if_neg hs13, own_law_ret_j124_3, if_neg hc128_52, if_neg hc140_54]), N53⟩)
      by_cases hc116_51 : (own_f6_0_x0 (0 : Int64)) = (-2152535657050944081 : Int64)
      · refine o_ifN X50 hx (hb hby at_116) (teqL hc116_51).2 (pc' := 119) rfl ?_
        refine o_iconst X50 hx (1 : Int32) (hb hby at_119) (pc' := 120) rfl (by decide) ?_
        refine o_goto X50 hx (hb hby at_120) (by decide) (pc' := 124) (by decide) ?_
        exact J124_3 ((1 : Int32)) (by rw [own_law_v124_1_S0, if_pos hc116_51])
      · refine o_ifY X50 hx (hb hby at_116) (feqL hc116_51).2 (by decide) (pc' := 123) (by decide) ?_
        refine o_iconst X50 hx (0 : Int32) (hb hby at_123) (pc' := 124) rfl (by decide) ?_
        exact J124_3 ((0 : Int32)) (by rw [own_law_v124_1_S0, if_neg hc116_51])
theorem own_anchor : own_f6_0_x0 (0 : Int64) = (-2152535657050944081 : Int64) := by decide +kernel
theorem own_sa (x y : Int64) : own_f4_ret (x - (-7046029254386353131 : Int64)) = own_f5_ret x := by
  unfold own_f4_ret
  rw [Int64.sub_add_cancel]
theorem own_main (q0 q1 q2 : Int64) (q3 : Int32) : own_law_ret q0 q1 q2 q3 = 1 := by
  have hv : ¬ own_law_v124_1_S0 q0 q1 q2 q3 = 0 := by
    unfold own_law_v124_1_S0
    rw [if_pos own_anchor]
    decide
  have h1 : own_f6_1_x1 q0 q1 = own_law_x1 q0 q1 q2 q3 := by
    unfold own_law_x1
    rw [own_sa _ 0]
    rfl
  have h2 : own_f6_2_x2 q0 q1 q2 = own_law_x2 q0 q1 q2 q3 := by
    unfold own_law_x2
    rw [own_sa _ 0, ← h1]
    rfl
  unfold own_law_ret own_law_ret_j124_1 own_law_ret_j124_2 own_law_ret_j124_3
  rw [if_neg hv, if_neg hv, if_neg hv, if_pos h1, if_pos h2, if_pos (show own_f6_0_x0 q0 = own_f4_ret q0 from rfl)]
  simp only [ite_self]
set_option maxRecDepth 65536 in
set_option maxHeartbeats 40000000 in
theorem comes_1 {Post : Tables → Env → Array Value → State → Outcome → State → Prop} (hpost : ∀ tb e args s v u, (limb_1_1.after args s (.returned v) u = true ∧ limb_1_2.after args s (.returned v) u = true ∧ True) → FrameEnd s (.returned v) u (Jvm.fieldLocs frame_1_writes args s ++ Jvm.arrayLocs frame_1_arrays args s ++ Jvm.staticLocs frame_1_statics s) 24 128 → Post tb e args s (.returned v) u) :
    ArmFor flags0 classFile x code maxLocals ret World_1 tables_1 room_1 Calls_1 rest_1 Pre_1 Post := by
  intro l hfl _ _ p e ha hc hk s m args below hf hA hF happ hP
  obtain ⟨hcalls, hrest, hpre⟩ := hP
  obtain ⟨-, -, -, hnamed, -, -, -, hat⟩ := (Spec.applies_iff hf).mp happ
  obtain ⟨hg, hn⟩ := and_e (Cond.before_iff.mp (show (Jvm.Cond.and given_1 narrow_1).before args s = true from hpre))
  obtain ⟨hcnt, r0⟩ := and_e hg
  obtain ⟨a0, r1⟩ := and_e r0
  obtain ⟨a1, r2⟩ := and_e r1
  obtain ⟨a2, r3⟩ := and_e r2
  obtain ⟨w0, w1, w2, w3, rfl⟩ : ∃ w0 w1 w2 w3 : Value, args = #[w0, w1, w2, w3] := by
    have hs : args.size = 4 := by simpa [Cond.value, given_1] using hcnt
    obtain ⟨L⟩ := args
    match L, hs with
    | [w0, w1, w2, w3], _ => exact ⟨w0, w1, w2, w3, rfl⟩
  have hw := fun d (hd : d ∈ tables_1) => atoms_spec (ws := Jvm.Cond.code x code maxLocals ret :: tables_1) hat d (List.mem_cons_of_mem _ hd)
  obtain ⟨q0, y0⟩ := isL_v a0
  obtain rfl : w0 = (.long q0) := Option.some.inj y0
  obtain ⟨q1, y1⟩ := isL_v a1
  obtain rfl : w1 = (.long q1) := Option.some.inj y1
  obtain ⟨q2, y2⟩ := isL_v a2
  obtain rfl : w2 = (.long q2) := Option.some.inj y2
  obtain ⟨q3, y3⟩ := is_v r3
  obtain rfl : w3 = (.int q3) := Option.some.inj y3
  obtain ⟨n, o, h1, h2, h3, _, L, rfl, ⟨rfl, N⟩, hq⟩ := rm0 l s _ hw tables_1 q0 q1 q2 q3 s.heap s.heap.size (Nat.le_refl _) p e ha hc hk s m _ below hf ((Spec.applies_iff_loose hf).mp happ).1 ⟨rfl, State.Warmed39.refl s, rfl⟩ trivial
  refine ⟨n, _, h1, h2, h3, hpost _ _ _ _ _ _ ⟨Cond.after_iff.mpr rfl, Cond.after_iff.mpr (eq_i res_at (Term.int_eval (1)) (congrArg Value.int (own_main q0 q1 q2 q3))), trivial⟩ ⟨hq.1, hq.2.1, (hq.2.2.sift fun y hy => Or.inr (N y hy)).mono (by decide) (by decide)⟩⟩
theorem main_1_1 : Claimed_1_1 := comes_1 fun _ _ _ _ _ _ h hF => ⟨h.1, hF⟩
theorem main_1_2 : Claimed_1_2 := comes_1 fun _ _ _ _ _ _ h hF => ⟨h.2.1, hF⟩
end Jvm.Pilot.@@N@@
namespace Jvm.Pilot.@@N@@
open Jvm Jvm.ClassFile Sem Op Lib Jvm.Free Jvm.Stand Jvm.Pilot.@@N@@.Jvm.D
/-! MADE BY PROGRAM (witnessworld.py) out of the Statement's table words and the real class files: 11 classes; the members and pool entries that the words name. The judged class is class 1, her method 2. -/
namespace start1
open Jvm.ClassFile
def u (s : String) : CpInfo := .utf8 (stringToUtf16 s)
/-- a pool by its gaps: so many unusable entries, then the entry; so many at the end -/
def gap : Nat → List CpInfo → List CpInfo
  | 0, r => r
  | n + 1, r => .unusable :: gap n r
def poolList (es : List (Nat × CpInfo)) (last : Nat) : List CpInfo := es.foldr (fun e r => gap e.1 (e.2 :: r)) (gap last [])
def pool (es : List (Nat × CpInfo)) (last : Nat) : Array CpInfo := ⟨poolList es last⟩
def fileOf (pool : Array CpInfo) (this : Nat) (attrs : Array Attribute := #[]) (ms : Array MethodInfo := #[]) (fl : Nat := 33) (sup : Nat := 0) (ifs : Array Nat := #[]) (fds : Array FieldInfo := #[]) : ClassFile where
  minorVersion := 0
  majorVersion := 65
  constantPool := pool
  accessFlags := fl
  thisClass := this
  superClass := sup
  interfaces := ifs
  fields := fds
  methods := ms
  attributes := attrs
def plain (name : String) (sup : Option ClassId) : Class where
  name := name
  kind := .ordinary
  loader := none
  accessFlags := 33
  super := sup
  interfaces := #[]
  cf := none
  fields := #[]
  methods := #[]
  instanceTypes := #[]
  staticTypes := #[]
  resolved := #[]
  callSites := []
  init := .initialized
  statics := none
  mirror := none

def pool0 : Array CpInfo := pool [(5, u "<init>"), (0, u "()V"), (1, .class_ 10), (1, u "java/lang/Object")] 113

def k0c0 : Code := { maxStack := 0, maxLocals := 1, code := object_method_1_code, exceptionTable := #[], attributes := #[] }
def k0m0 : Method := { name := "<init>", desc := "()V", sig := { parameters := [], returnType := none }, accessFlags := 1, code := some k0c0 }
/-- java/lang/Object -/
def k0 : Class := { plain "java/lang/Object" none with
  accessFlags := 33
  interfaces := #[]
  cf := some (fileOf pool0 8 #[] #[{ accessFlags := 1, nameIndex := 5, descriptorIndex := 6, attributes := #[] }] 33 0 #[] #[])
  fields := #[]
  methods := #[k0m0]
  instanceTypes := #[]
  staticTypes := #[]
  resolved := Array.replicate 124 none
  statics := none }

def pool1 : Array CpInfo := pool [(2, .class_ 4), (1, u "java/lang/Object"), (0, u "<init>"), (0, u "()V"), (0, .class_ 8), (0, u "com/example/darta/darta/experiment/SplitMix64"), (0, .methodref 7 10), (0, .nameAndType 5 11), (0, u "(J)V"), (0, .methodref 7 13), (0, .nameAndType 14 15), (0, u "nextLong"), (0, u "()J"), (0, .integer 2147483647), (0, .methodref 18 19), (0, .class_ 20), (0, .nameAndType 21 22), (0, u "com/example/darta/darta/experiment/SplitMix64DerivePinLaw"), (0, u "step"), (0, u "(J)J"), (0, .long 11400714819323198485), (1, .methodref 7 26), (0, .nameAndType 27 28), (0, u "derive"), (0, u "(J[J)J"), (0, .long 16294208416658607535), (3, u "law"), (0, u "(JJJI)Z")] 5

def k1m0 : Method := { name := "<init>", desc := "()V", sig := { parameters := [], returnType := none }, accessFlags := 1, code := none }
def k1c1 : Code := { maxStack := 4, maxLocals := 2, code := method_2_code, exceptionTable := #[], attributes := #[] }
def k1m1 : Method := { name := "step", desc := "(J)J", sig := { parameters := [.long], returnType := some .long }, accessFlags := 10, code := some k1c1 }
def k1c2 : Code := { maxStack := 5, maxLocals := 12, code := code, exceptionTable := #[], attributes := #[] }
def k1m2 : Method := { name := "law", desc := "(JJJI)Z", sig := { parameters := [.long, .long, .long, .int], returnType := some .boolean }, accessFlags := 9, code := some k1c2 }
/-- com/example/darta/darta/experiment/SplitMix64DerivePinLaw -/
def k1 : Class := { plain "com/example/darta/darta/experiment/SplitMix64DerivePinLaw" (some 0) with
  accessFlags := 49
  interfaces := #[]
  cf := some (fileOf pool1 18 #[] #[{ accessFlags := 1, nameIndex := 5, descriptorIndex := 6, attributes := #[] }, { accessFlags := 10, nameIndex := 21, descriptorIndex := 22, attributes := #[] }, { accessFlags := 9, nameIndex := 33, descriptorIndex := 34, attributes := #[] }] 49 2 #[] #[])
  fields := #[]
  methods := #[k1m0, k1m1, k1m2]
  instanceTypes := #[]
  staticTypes := #[]
  resolved := Array.replicate 40 none
  statics := none }

def pool2 : Array CpInfo := pool [(1, .methodref 2 3), (0, .class_ 4), (0, .nameAndType 5 6), (0, u "java/lang/Object"), (0, u "<init>"), (0, u "()V"), (0, .fieldref 8 9), (0, .class_ 10), (0, .nameAndType 11 12), (0, u "com/example/darta/darta/experiment/SplitMix64"), (0, u "state"), (0, u "J"), (0, .long 11400714819323198485), (1, .methodref 8 16), (0, .nameAndType 17 18), (0, u "mix"), (0, u "(J)J"), (2, u "nextLong"), (0, u "()J"), (11, .long 13787848793156543929), (1, .long 10723151780598845931), (1, u "GOLDEN_GAMMA"), (1, u "(J)V"), (2, u "derive"), (0, u "(J[J)J")] 24

def k2c0 : Code := { maxStack := 3, maxLocals := 3, code := prog_58_method_1_code, exceptionTable := #[], attributes := #[] }
def k2m0 : Method := { name := "<init>", desc := "(J)V", sig := { parameters := [.long], returnType := none }, accessFlags := 0, code := some k2c0 }
def k2c1 : Code := { maxStack := 6, maxLocals := 10, code := prog_58_method_2_code, exceptionTable := #[], attributes := #[] }
def k2m1 : Method := { name := "derive", desc := "(J[J)J", sig := { parameters := [.long, (.array .long)], returnType := some .long }, accessFlags := 136, code := some k2c1 }
def k2c2 : Code := { maxStack := 5, maxLocals := 1, code := prog_58_method_3_code, exceptionTable := #[], attributes := #[] }
def k2m2 : Method := { name := "nextLong", desc := "()J", sig := { parameters := [], returnType := some .long }, accessFlags := 0, code := some k2c2 }
def k2c3 : Code := { maxStack := 5, maxLocals := 4, code := prog_58_method_6_code, exceptionTable := #[], attributes := #[] }
def k2m3 : Method := { name := "mix", desc := "(J)J", sig := { parameters := [.long], returnType := some .long }, accessFlags := 10, code := some k2c3 }
/-- com/example/darta/darta/experiment/SplitMix64 -/
def k2 : Class := { plain "com/example/darta/darta/experiment/SplitMix64" (some 0) with
  accessFlags := 32
  interfaces := #[]
  cf := some (fileOf pool2 8 #[] #[{ accessFlags := 0, nameIndex := 5, descriptorIndex := 40, attributes := #[] }, { accessFlags := 136, nameIndex := 43, descriptorIndex := 44, attributes := #[] }, { accessFlags := 0, nameIndex := 21, descriptorIndex := 22, attributes := #[] }, { accessFlags := 10, nameIndex := 17, descriptorIndex := 18, attributes := #[] }] 32 2 #[] #[{ accessFlags := 26, nameIndex := 38, descriptorIndex := 12, attributes := #[] }, { accessFlags := 2, nameIndex := 11, descriptorIndex := 12, attributes := #[] }])
  fields := #[{ name := "GOLDEN_GAMMA", type := .long, accessFlags := 26, slot := 0, constantValue := 0 }, { name := "state", type := .long, accessFlags := 2, slot := 0, constantValue := 0 }]
  methods := #[k2m0, k2m1, k2m2, k2m3]
  instanceTypes := #[.long]
  staticTypes := #[.long]
  resolved := Array.replicate 69 none
  statics := none }

def pool3 : Array CpInfo := pool [(1, u "java/lang/Cloneable"), (0, .class_ 1), (0, u "java/lang/Object"), (0, .class_ 3)] 3

/-- java/lang/Cloneable -/
def k3 : Class := { plain "java/lang/Cloneable" (some 0) with
  accessFlags := 1537
  interfaces := #[]
  cf := some (fileOf pool3 2 #[] #[] 1537 4 #[] #[])
  fields := #[]
  methods := #[]
  instanceTypes := #[]
  staticTypes := #[]
  resolved := Array.replicate 8 none
  statics := none }

def pool4 : Array CpInfo := pool [(1, u "java/io/Serializable"), (0, .class_ 1), (0, u "java/lang/Object"), (0, .class_ 3)] 3

/-- java/io/Serializable -/
def k4 : Class := { plain "java/io/Serializable" (some 0) with
  accessFlags := 1537
  interfaces := #[]
  cf := some (fileOf pool4 2 #[] #[] 1537 4 #[] #[])
  fields := #[]
  methods := #[]
  instanceTypes := #[]
  staticTypes := #[]
  resolved := Array.replicate 8 none
  statics := none }

/-- the primitive byte -/
def k5 : Class := { plain "byte" none with kind := .primitive 'B', accessFlags := 0x411 }
/-- [B -/
def k6 : Class := { plain "[B" (some 0) with kind := .array 5 .byte, interfaces := #[3, 4], accessFlags := 1041 }

/-- the primitive int -/
def k7 : Class := { plain "int" none with kind := .primitive 'I', accessFlags := 0x411 }
/-- [I -/
def k8 : Class := { plain "[I" (some 0) with kind := .array 7 .int, interfaces := #[3, 4], accessFlags := 1041 }

/-- the primitive long -/
def k9 : Class := { plain "long" none with kind := .primitive 'J', accessFlags := 0x411 }
/-- [J -/
def k10 : Class := { plain "[J" (some 0) with kind := .array 9 .long, interfaces := #[3, 4], accessFlags := 1041 }

def heap : Heap := #[]
def classes : Array Class := #[k0, k1, k2, k3, k4, k5, k6, k7, k8, k9, k10]
def interned : List (Array UInt16 × Addr) := []
def slotsUsed : Nat := 0
def theMethod : MethodId := ⟨1, 2⟩
def args0 : Array Value := #[.long 5, .long 7, .long 5, .int 7]
def aboutOver (below : List Frame) : State where
  vm := { classes := classes, interned := interned.toArray }
  heap := heap
  slotsUsed := slotsUsed
  threads := #[{ frames := .invoking theMethod args0 :: below }]
def below0 : List Frame := [.native { method := ⟨0, 0⟩, args := #[] }]
def about1 : State := aboutOver below0
def p0 : Program := .bare "" "" ""
def e0 : Env := launch0.env 0 0 0
theorem w_frames : about1.frames = Frame.invoking theMethod args0 :: below0 := rfl
set_option maxRecDepth 65536 in
theorem w_args : argsFit about1.vm theMethod args0 = true := by decide +kernel
set_option maxRecDepth 65536 in
theorem w_heap : heapFits about1 = true := by decide +kernel
set_option maxRecDepth 65536 in
theorem w_runnable : about1.curStatus? = some .runnable := by decide +kernel
set_option maxRecDepth 65536 in
theorem w_alone : about1.alone = true := by decide +kernel
set_option maxRecDepth 65536 in
theorem w_named : about1.methodNamed? x = some theMethod := by decide +kernel
set_option maxRecDepth 65536 in
theorem w_hears : about1.hears theMethod below0 = true := by decide +kernel
set_option maxRecDepth 65536 in
theorem w_ripe : about1.ripe theMethod args0 below0 = true := by decide +kernel
theorem w_running : about1.status = .running := rfl
set_option maxRecDepth 65536 in
theorem w_room : about1.hasRoom e0.platform room_1 = true :=
  launch0.hasRoom_least _ room_1 (by decide +kernel) (by decide +kernel) (by decide +kernel) (by decide +kernel) (by decide +kernel) (by decide +kernel)
theorem allAtoms_all (ts : List Jvm.Cond) (a : Array Jvm.Value) (st : Jvm.State) : (allAtoms ts).before a st = ts.all (fun c => c.before a st) := by
  induction ts with
  | nil => rfl
  | cons c t ih =>
    show (Jvm.Cond.and c (allAtoms t)).before a st = _
    rw [Jvm.Cond.before_and, ih, List.all_cons]
def words1 : List Jvm.Cond := Jvm.Cond.code x code maxLocals ret :: tables_1
/-- a 'code' word, met by the world's own term for the bytes: nothing is compared byte by byte -/
theorem code_word {y : MethodName} {bytes : ByteArray} {mx : Nat} {rt : Option FieldType} {a : Array Value} {s : State} {m : MethodId} {meth : Method} {c : Code} (h1 : s.methodNamed? y = some m) (h2 : s.vm.method? m = some meth) (h3 : meth.code = some c) (h4 : c.code = bytes)
    (h5 : (c.maxLocals == mx && c.exceptionTable.isEmpty && decide (c.maxStack ≤ mostOperands) && decide (meth.sig.returnType = rt) && !meth.locks && decide (parseMethodDescriptor y.desc = some meth.sig)) = true) : (Jvm.Cond.code y bytes mx rt).before a s = true := by
  simp only [Bool.and_eq_true, beq_iff_eq, Bool.not_eq_true', decide_eq_true_eq] at h5
  obtain ⟨⟨⟨⟨⟨g1, g2⟩, g3⟩, g4⟩, g5⟩, g6⟩ := h5
  simp [Cond.before, Cond.holds, Cond.value, h1, h2, h3, h4, g1, g2, g3, g4, g5, g6]
def isCode : Jvm.Cond → Bool
  | .code _ _ _ _ => true
  | _ => false
theorem all_split {L : List Jvm.Cond} {P : Jvm.Cond → Bool} (h1 : L.all (fun c => isCode c || P c) = true) (h2 : ∀ c ∈ L.filter isCode, P c = true) : L.all P = true := by
  refine List.all_eq_true.mpr fun c hc => ?_
  have h := List.all_eq_true.mp h1 c hc
  rcases Bool.eq_false_or_eq_true (isCode c) with hi | hi
  · exact h2 c (List.mem_filter.mpr ⟨hc, hi⟩)
  · simpa [hi] using h
set_option maxRecDepth 65536 in
theorem w_c0 : (Jvm.Cond.code x code maxLocals ret).before args0 about1 = true := code_word (m := ⟨1, 2⟩) (meth := k1m2) (c := k1c2) (by decide +kernel) rfl rfl rfl (by decide +kernel)
set_option maxRecDepth 65536 in
theorem w_c1 : (Jvm.Cond.code ({ cls := "com/example/darta/darta/experiment/SplitMix64DerivePinLaw", name := "step", desc := "(J)J" } : Jvm.MethodName) method_2_code (2 : Nat) (Option.some Jvm.ClassFile.FieldType.long)).before args0 about1 = true := code_word (m := ⟨1, 1⟩) (meth := k1m1) (c := k1c1) (by decide +kernel) rfl rfl rfl (by decide +kernel)
set_option maxRecDepth 65536 in
theorem w_c2 : (Jvm.Cond.code ({ cls := "com/example/darta/darta/experiment/SplitMix64", name := "<init>", desc := "(J)V" } : Jvm.MethodName) prog_58_method_1_code (3 : Nat) (Option.none : Option Jvm.ClassFile.FieldType)).before args0 about1 = true := code_word (m := ⟨2, 0⟩) (meth := k2m0) (c := k2c0) (by decide +kernel) rfl rfl rfl (by decide +kernel)
set_option maxRecDepth 65536 in
theorem w_c3 : (Jvm.Cond.code ({ cls := "java/lang/Object", name := "<init>", desc := "()V" } : Jvm.MethodName) object_method_1_code (1 : Nat) (Option.none : Option Jvm.ClassFile.FieldType)).before args0 about1 = true := code_word (m := ⟨0, 0⟩) (meth := k0m0) (c := k0c0) (by decide +kernel) rfl rfl rfl (by decide +kernel)
set_option maxRecDepth 65536 in
theorem w_c4 : (Jvm.Cond.code ({ cls := "com/example/darta/darta/experiment/SplitMix64", name := "nextLong", desc := "()J" } : Jvm.MethodName) prog_58_method_3_code (1 : Nat) (Option.some Jvm.ClassFile.FieldType.long)).before args0 about1 = true := code_word (m := ⟨2, 2⟩) (meth := k2m2) (c := k2c2) (by decide +kernel) rfl rfl rfl (by decide +kernel)
set_option maxRecDepth 65536 in
theorem w_c5 : (Jvm.Cond.code ({ cls := "com/example/darta/darta/experiment/SplitMix64", name := "mix", desc := "(J)J" } : Jvm.MethodName) prog_58_method_6_code (4 : Nat) (Option.some Jvm.ClassFile.FieldType.long)).before args0 about1 = true := code_word (m := ⟨2, 3⟩) (meth := k2m3) (c := k2c3) (by decide +kernel) rfl rfl rfl (by decide +kernel)
set_option maxRecDepth 65536 in
theorem w_c6 : (Jvm.Cond.code ({ cls := "com/example/darta/darta/experiment/SplitMix64", name := "derive", desc := "(J[J)J" } : Jvm.MethodName) prog_58_method_2_code (10 : Nat) (Option.some Jvm.ClassFile.FieldType.long)).before args0 about1 = true := code_word (m := ⟨2, 1⟩) (meth := k2m1) (c := k2c1) (by decide +kernel) rfl rfl rfl (by decide +kernel)
def codes1 : List Jvm.Cond := [Jvm.Cond.code x code maxLocals ret, Jvm.Cond.code ({ cls := "com/example/darta/darta/experiment/SplitMix64DerivePinLaw", name := "step", desc := "(J)J" } : Jvm.MethodName) method_2_code (2 : Nat) (Option.some Jvm.ClassFile.FieldType.long), Jvm.Cond.code ({ cls := "com/example/darta/darta/experiment/SplitMix64", name := "<init>", desc := "(J)V" } : Jvm.MethodName) prog_58_method_1_code (3 : Nat) (Option.none : Option Jvm.ClassFile.FieldType), Jvm.Cond.code ({ cls := "java/lang/Object", name := "<init>", desc := "()V" } : Jvm.MethodName) object_method_1_code (1 : Nat) (Option.none : Option Jvm.ClassFile.FieldType), Jvm.Cond.code ({ cls := "com/example/darta/darta/experiment/SplitMix64", name := "nextLong", desc := "()J" } : Jvm.MethodName) prog_58_method_3_code (1 : Nat) (Option.some Jvm.ClassFile.FieldType.long), Jvm.Cond.code ({ cls := "com/example/darta/darta/experiment/SplitMix64", name := "mix", desc := "(J)J" } : Jvm.MethodName) prog_58_method_6_code (4 : Nat) (Option.some Jvm.ClassFile.FieldType.long), Jvm.Cond.code ({ cls := "com/example/darta/darta/experiment/SplitMix64", name := "derive", desc := "(J[J)J" } : Jvm.MethodName) prog_58_method_2_code (10 : Nat) (Option.some Jvm.ClassFile.FieldType.long)]
set_option maxRecDepth 65536 in
theorem codes_eq : words1.filter isCode = codes1 := rfl
theorem w_codes : ∀ c ∈ words1.filter isCode, c.before args0 about1 = true := by
  rw [codes_eq]
  intro c hc
  simp only [codes1, List.mem_cons, List.not_mem_nil, or_false] at hc
  rcases hc with rfl | rfl | rfl | rfl | rfl | rfl | rfl
  · exact w_c0
  · exact w_c1
  · exact w_c2
  · exact w_c3
  · exact w_c4
  · exact w_c5
  · exact w_c6
set_option maxRecDepth 65536 in
theorem w_t1 : (words1.take 24).all (fun c => isCode c || c.before args0 about1) = true := by decide +kernel
set_option maxRecDepth 65536 in
theorem w_t2 : (words1.drop 24).all (fun c => isCode c || c.before args0 about1) = true := by decide +kernel
theorem w_tables : (allAtoms (Jvm.Cond.code x code maxLocals ret :: tables_1)).before args0 about1 = true := by
  rw [allAtoms_all]
  show words1.all (fun c => c.before args0 about1) = true
  refine all_split ?_ w_codes
  rw [← List.take_append_drop 24 words1, List.all_append, w_t1, w_t2]
  rfl
set_option maxRecDepth 65536 in
theorem w_case : (Jvm.Cond.and given_1 narrow_1).before args0 about1 = true := by decide +kernel
theorem w_applies : (headSpec (Jvm.Cond.code x code maxLocals ret :: tables_1) room_1).applies x e0.platform about1 = true :=
  (Spec.applies_iff w_frames).mpr ⟨w_running, w_runnable, w_alone, w_named, w_hears, w_ripe, w_room, w_tables⟩
theorem atStart : AtStart classFile x code maxLocals ret World_1 tables_1 room_1 Calls_1 rest_1 Pre_1 launch0 p0 e0 about1 theMethod args0 below0 :=
  ⟨lists_1, trivial, launch0.admits_env _ _ _, launch0.least_env, fairChoices_fair.cas, fairChoices_fair.clock, w_frames, w_args, w_heap, w_applies, trivial, trivial, w_case⟩
end start1
theorem witness_1 : WitnessClaimed_1 := ⟨start1.p0, start1.e0, start1.about1, start1.theMethod, start1.args0, start1.below0, start1.atStart⟩
end Jvm.Pilot.@@N@@
