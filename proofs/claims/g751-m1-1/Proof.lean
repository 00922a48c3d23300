import JvmDerived
import JvmDerived.Pilot.@@N@@Statement
import JvmDerived.Pilot.@@N@@Code
set_option linter.unusedVariables false
set_option linter.unusedSimpArgs false
namespace Jvm.Pilot.@@N@@
open Jvm Jvm.ClassFile Sem Op Lib Jvm.Free Jvm.Stand Jvm.LawKit Jvm.RoadKit Bundle Jvm.Pilot.@@N@@.Jvm.D
/-- the body's goal from a state on -/
def Go (p : Program) (e : Env) (below : List Frame) (P : Outcome → State → Prop) (U : State) : Prop :=
  ∃ s₂ o, Steps p.tables e below U s₂ ∧ s₂.status = .running ∧ Ended s₂ below o ∧ P o s₂
/-- the unsigned shifts, the remainders -/
def uI (x y : Int32) : Int32 := (x.toUInt32 >>> (y &&& 31).toUInt32).toInt32
def uL (x : Int64) (y : Int32) : Int64 := (x.toUInt64 >>> (y &&& 0x3f).toInt64.toUInt64).toInt64
def sL (x : Int64) (y : Int32) : Int64 := x >>> (y &&& 0x3f).toInt64
def lL (x : Int64) (y : Int32) : Int64 := x <<< (y &&& 0x3f).toInt64
theorem own_narZ {z : Int32} (h : z = 0 ∨ z = 1) : narrow .boolean (.int z) = .int z := by rcases h with rfl | rfl <;> rfl
section Own
variable {p : Program} {l : Launch} {e : Env} {R : Room} {s : State} {m : MethodId} {args : Array Value} {below : List Frame} {meth : Method} {c : Code} {T : State} {locs : List Loc} {cells slots : Nat} {P : Outcome → State → Prop} {pc pc' : Nat} {L L' : Array Slot} {S : List Value} {Z : State} {a0 : Array Value} {h : Heap}
theorem Go.via {U U' : State} (q : ∀ t, Steps p.tables e below U' t → Steps p.tables e below U t) (k : Go p e below P U') : Go p e below P U := by
  obtain ⟨s₂, o, h1, h2⟩ := k
  exact ⟨s₂, o, q _ h1, h2⟩
theorem Go.tr {U U' : State} (q : Steps p.tables e below U U') (k : Go p e below P U') : Go p e below P U := k.via fun _ h => q.trans h
theorem o_iload (X : Stand p l e R s m args below meth c T locs cells slots) (hx : p.tables.exec = Jvm.exec) {k : Nat} {v : Int32} (hd : decode c.code pc = .ok (.iload k, 2)) (hp : pc + 2 = pc') (hl : L[k]? = some (.val (.int v))) (K : Go p e below P (T.setTop (mkF m pc' L (.int v :: S)))) : Go p e below P (T.setTop (mkF m pc L (S))) := by
  subst hp; exact K.via fun t k => XS.iload X.here hx rfl hd hl k
theorem o_iloadN (X : Stand p l e R s m args below meth c T locs cells slots) (hx : p.tables.exec = Jvm.exec) {k : Fin 4} {v : Int32} (hd : decode c.code pc = .ok (.iload_n k, 1)) (hp : pc + 1 = pc') (hl : L[k.val]? = some (.val (.int v))) (K : Go p e below P (T.setTop (mkF m pc' L (.int v :: S)))) : Go p e below P (T.setTop (mkF m pc L (S))) := by
  subst hp; exact K.via fun t k => XS.iloadN X.here hx rfl hd hl k
theorem o_aload (X : Stand p l e R s m args below meth c T locs cells slots) (hx : p.tables.exec = Jvm.exec) {k : Nat} {v : Value} (hd : decode c.code pc = .ok (.aload k, 2)) (hp : pc + 2 = pc') (hl : L[k]? = some (.val v)) (hv : v.isRef = true) (K : Go p e below P (T.setTop (mkF m pc' L (v :: S)))) : Go p e below P (T.setTop (mkF m pc L (S))) := by
  subst hp; exact K.via fun t k => XS.aload X.here hx rfl hd hl hv k
theorem o_istore (X : Stand p l e R s m args below meth c T locs cells slots) (hx : p.tables.exec = Jvm.exec) {k : Nat} {x : Int32} (hd : decode c.code pc = .ok (.istore k, 2)) (hp : pc + 2 = pc') (hl : storeLocals L k (.int x) = some L') (K : Go p e below P (T.setTop (mkF m pc' L' (S)))) : Go p e below P (T.setTop (mkF m pc L (.int x :: S))) := by
  subst hp; exact K.via fun t k => XS.istore X.here hx rfl hd rfl hl k
theorem o_astore (X : Stand p l e R s m args below meth c T locs cells slots) (hx : p.tables.exec = Jvm.exec) {k : Nat} {x : Value} (hd : decode c.code pc = .ok (.astore k, 2)) (hp : pc + 2 = pc') (hv : x.isRef = true) (hl : storeLocals L k x = some L') (K : Go p e below P (T.setTop (mkF m pc' L' (S)))) : Go p e below P (T.setTop (mkF m pc L (x :: S))) := by
  subst hp; exact K.via fun t k => XS.astore X.here hx rfl hd rfl hv hl k
theorem o_iconst (X : Stand p l e R s m args below meth c T locs cells slots) (hx : p.tables.exec = Jvm.exec) {i : Int} (v : Int32) (hd : decode c.code pc = .ok (.iconst i, 1)) (hp : pc + 1 = pc') (hv : Int32.ofInt i = v) (K : Go p e below P (T.setTop (mkF m pc' L (.int v :: S)))) : Go p e below P (T.setTop (mkF m pc L (S))) := by
  subst hp; exact K.via fun t k => XS.iconst X.here hx rfl hd (hv ▸ k)
theorem o_bipush (X : Stand p l e R s m args below meth c T locs cells slots) (hx : p.tables.exec = Jvm.exec) {i : Int} (v : Int32) (hd : decode c.code pc = .ok (.bipush i, 2)) (hp : pc + 2 = pc') (hv : (Int8.ofInt i).toInt32 = v) (K : Go p e below P (T.setTop (mkF m pc' L (.int v :: S)))) : Go p e below P (T.setTop (mkF m pc L (S))) := by
  subst hp; exact K.via fun t k => XS.bipush X.here hx rfl hd (hv ▸ k)
theorem o_sipush (X : Stand p l e R s m args below meth c T locs cells slots) (hx : p.tables.exec = Jvm.exec) {i : Int} (v : Int32) (hd : decode c.code pc = .ok (.sipush i, 3)) (hp : pc + 3 = pc') (hv : (Int16.ofInt i).toInt32 = v) (K : Go p e below P (T.setTop (mkF m pc' L (.int v :: S)))) : Go p e below P (T.setTop (mkF m pc L (S))) := by
  subst hp; exact K.via fun t k => XS.sipush X.here hx rfl hd (hv ▸ k)
theorem o_iadd (X : Stand p l e R s m args below meth c T locs cells slots) (hx : p.tables.exec = Jvm.exec) {x y : Int32} (hd : decode c.code pc = .ok (.iadd, 1)) (hp : pc + 1 = pc')  (K : Go p e below P (T.setTop (mkF m pc' L (.int (x + y) :: S)))) : Go p e below P (T.setTop (mkF m pc L (.int y :: .int x :: S))) := by
  subst hp; exact K.via fun t k => XS.iadd X.here hx rfl hd rfl k
theorem o_isub (X : Stand p l e R s m args below meth c T locs cells slots) (hx : p.tables.exec = Jvm.exec) {x y : Int32} (hd : decode c.code pc = .ok (.isub, 1)) (hp : pc + 1 = pc')  (K : Go p e below P (T.setTop (mkF m pc' L (.int (x - y) :: S)))) : Go p e below P (T.setTop (mkF m pc L (.int y :: .int x :: S))) := by
  subst hp; exact K.via fun t k => XS.isub X.here hx rfl hd rfl k
theorem o_iand (X : Stand p l e R s m args below meth c T locs cells slots) (hx : p.tables.exec = Jvm.exec) {x y : Int32} (hd : decode c.code pc = .ok (.iand, 1)) (hp : pc + 1 = pc')  (K : Go p e below P (T.setTop (mkF m pc' L (.int (x &&& y) :: S)))) : Go p e below P (T.setTop (mkF m pc L (.int y :: .int x :: S))) := by
  subst hp; exact K.via fun t k => XS.iand X.here hx rfl hd rfl k
theorem o_irem (X : Stand p l e R s m args below meth c T locs cells slots) (hx : p.tables.exec = Jvm.exec) {x y : Int32} (hd : decode c.code pc = .ok (.irem, 1)) (hp : pc + 1 = pc') (hy : y ≠ 0) (K : Go p e below P (T.setTop (mkF m pc' L (.int (x % y) :: S)))) : Go p e below P (T.setTop (mkF m pc L (.int y :: .int x :: S))) := by
  subst hp; exact K.via fun t k => Jvm.RoadKit.iremM (g := mkF m pc L (.int y :: .int x :: S)) X hx rfl hd rfl hy k
theorem o_dup (X : Stand p l e R s m args below meth c T locs cells slots) (hx : p.tables.exec = Jvm.exec) {x : Value} (hd : decode c.code pc = .ok (.dup, 1)) (hp : pc + 1 = pc') (hc : x.category = 1) (K : Go p e below P (T.setTop (mkF m pc' L (x :: x :: S)))) : Go p e below P (T.setTop (mkF m pc L (x :: S))) := by
  subst hp; exact K.via fun t k => XS.dup X.here hx rfl hd rfl hc k
theorem o_goto (X : Stand p l e R s m args below meth c T locs cells slots) (hx : p.tables.exec = Jvm.exec) {o : Int} (hd : decode c.code pc = .ok (.goto o, 3)) (ho : 0 ≤ (pc : Int) + o) (hp : ((pc : Int) + o).toNat = pc') (K : Go p e below P (T.setTop (mkF m pc' L S))) : Go p e below P (T.setTop (mkF m pc L S)) :=
  K.via fun t k => XS.goto X.here hx rfl rfl hd ho hp k
theorem o_ifY (X : Stand p l e R s m args below meth c T locs cells slots) (hx : p.tables.exec = Jvm.exec) {cd : ClassFile.Cond} {x : Int32} {o : Int} (hd : decode c.code pc = .ok (.ifCond cd o, 3)) (hc : if_icmp.holds cd x 0 = true) (ho : 0 ≤ (pc : Int) + o) (hp : ((pc : Int) + o).toNat = pc') (K : Go p e below P (T.setTop (mkF m pc' L S))) : Go p e below P (T.setTop (mkF m pc L (.int x :: S))) :=
  K.via fun t k => XS.ifYes X.here hx rfl rfl hd rfl ((if0 _ _).trans hc) ho hp k
theorem o_ifN (X : Stand p l e R s m args below meth c T locs cells slots) (hx : p.tables.exec = Jvm.exec) {cd : ClassFile.Cond} {x : Int32} {o : Int} (hd : decode c.code pc = .ok (.ifCond cd o, 3)) (hc : if_icmp.holds cd x 0 = false) (hp : pc + 3 = pc') (K : Go p e below P (T.setTop (mkF m pc' L S))) : Go p e below P (T.setTop (mkF m pc L (.int x :: S))) := by
  subst hp; exact K.via fun t k => XS.ifNo X.here hx rfl hd rfl ((if0 _ _).trans hc) k
theorem o_cmpY (X : Stand p l e R s m args below meth c T locs cells slots) (hx : p.tables.exec = Jvm.exec) {cd : ClassFile.Cond} {x y : Int32} {o : Int} (hd : decode c.code pc = .ok (.if_icmp cd o, 3)) (hc : if_icmp.holds cd x y = true) (ho : 0 ≤ (pc : Int) + o) (hp : ((pc : Int) + o).toNat = pc') (K : Go p e below P (T.setTop (mkF m pc' L S))) : Go p e below P (T.setTop (mkF m pc L (.int y :: .int x :: S))) :=
  K.via fun t k => XS.icmpYes X.here hx rfl rfl hd rfl hc ho hp k
theorem o_cmpN (X : Stand p l e R s m args below meth c T locs cells slots) (hx : p.tables.exec = Jvm.exec) {cd : ClassFile.Cond} {x y : Int32} {o : Int} (hd : decode c.code pc = .ok (.if_icmp cd o, 3)) (hc : if_icmp.holds cd x y = false) (hp : pc + 3 = pc') (K : Go p e below P (T.setTop (mkF m pc' L S))) : Go p e below P (T.setTop (mkF m pc L (.int y :: .int x :: S))) := by
  subst hp; exact K.via fun t k => XS.icmpNo X.here hx rfl hd rfl hc k
theorem tltL {x y : Int64} (q : x < y) : if_icmp.holds .lt (lcmpW x y) 0 = true ∧ if_icmp.holds .ge (lcmpW x y) 0 = false ∧ if_icmp.holds .gt (lcmpW y x) 0 = true ∧ if_icmp.holds .le (lcmpW y x) 0 = false :=
  ⟨(tlt ((lw_lt x y).mpr q)).1, (tlt ((lw_lt x y).mpr q)).2.1, (tlt ((lw_gt y x).mpr q)).2.2.1, (tlt ((lw_gt y x).mpr q)).2.2.2⟩
theorem fltL {x y : Int64} (q : ¬ x < y) : if_icmp.holds .lt (lcmpW x y) 0 = false ∧ if_icmp.holds .ge (lcmpW x y) 0 = true ∧ if_icmp.holds .gt (lcmpW y x) 0 = false ∧ if_icmp.holds .le (lcmpW y x) 0 = true :=
  ⟨(flt (mt (lw_lt x y).mp q)).1, (flt (mt (lw_lt x y).mp q)).2.1, (flt (mt (lw_gt y x).mp q)).2.2.1, (flt (mt (lw_gt y x).mp q)).2.2.2⟩
theorem teqL {x y : Int64} (q : x = y) : if_icmp.holds .eq (lcmpW x y) 0 = true ∧ if_icmp.holds .ne (lcmpW x y) 0 = false := teq ((lw_eq x y).mpr q)
theorem feqL {x y : Int64} (q : ¬ x = y) : if_icmp.holds .eq (lcmpW x y) 0 = false ∧ if_icmp.holds .ne (lcmpW x y) 0 = true := feq (mt (lw_eq x y).mp q)
theorem o_ldcI (X : Stand p l e R s m args below meth c T locs cells slots) (hx : p.tables.exec = Jvm.exec) (hZ : Z.Warmed39 s.vm) {own : String} {index : Nat} (v : Int32) (hown : s.vm.findClass own = some m.cls) (w : (Cond.constant own index v).before a0 Z = true) (hd : decode c.code pc = .ok (.ldc index, 2)) (hp : pc + 2 = pc') (K : Go p e below P (T.setTop (mkF m pc' L (.int v :: S)))) : Go p e below P (T.setTop (mkF m pc L S)) := by
  subst hp; exact K.via (X.ldcInt hx hown (mvT hZ w) (g := mkF m pc L S) rfl hd)
/-- what a body's end owes -/
abbrev Owe (s : State) (Q : Option Value → Heap → List Loc → Prop) (C D : Nat) : Outcome → State → Prop := fun o U' => ∃ v L, o = .returned v ∧ Q v U'.heap L ∧ FrameEnd s o U' L C D
/-- a body's contract -/
abbrev Con (l : Launch) (y : MethodName) (bytes : ByteArray) (ml : Nat) (ret : Option FieldType) (ws : List Jvm.Cond) (rm : Room) (as' : Array Value) (Z : State) (h0 : Heap) (Q : Option Value → Heap → List Loc → Prop) (C D : Nat) : Prop :=
  MetFree l y (head1 (Jvm.Cond.code y bytes ml ret :: ws) rm) (fun b U => b = as' ∧ Z.Warmed39 U.vm ∧ U.heap = h0) (fun _ _ _ _ _ => True) (fun _ U o U' => ∃ v L, o = .returned v ∧ Q v U'.heap L ∧ FrameEnd U o U' L C D)
theorem own_body {y : MethodName} {bytes : ByteArray} {ml : Nat} {ret : Option FieldType} {ws : List Jvm.Cond} {rm : Room} {as' : Array Value} {h0 : Heap} {Q : Option Value → Heap → List Loc → Prop} {C D : Nat} (hpl : plainFor y = true)
    (K : ∀ (p : Program) (e : Env) (s : State) (m : MethodId) (below : List Frame) (meth : Method) (c : Code) (s₁ : State), p.tables.exec = Jvm.exec → c.code = bytes → meth.locks = false → c.maxLocals = ml → s.vm.findClass y.cls = some m.cls → meth.name = y.name → meth.sig.returnType = ret → Z.Warmed39 s.vm →
      Stand p l e rm s m as' below meth c s₁ [] 0 0 → s₁.heap = h0 → Go p e below (Owe s Q C D) (s₁.setTop (entryFrame m as' ml))) : Con l y bytes ml ret ws rm as' Z h0 Q C D := by
  refine MetFree.of_bodySF hpl hisR ?_
  intro p e s m args below meth c s₁ Bd hml0 hP hK
  obtain ⟨rfl, hZ, hh⟩ := hP
  exact K p e s m below meth c s₁ Bd.exec Bd.bytes (BodyLoose.notSynchronized Bd) hml0 (findClass_of_methodNamed Bd.named) (name_of_methodNamed Bd.named Bd.method).1 Bd.returns hZ (Stand.of_body Bd) (by rw [← hh, Bd.state]; rfl)
theorem o_ret (X : Stand p l e R s m args below meth c T locs cells slots) (hx : p.tables.exec = Jvm.exec) {Q : Option Value → Heap → List Loc → Prop} {C D : Nat} {w : Value} {t : FieldType} {i : Instr} (hlocks : meth.locks = false) (hret : meth.sig.returnType = some t) (hn : narrow t w = w)
    (hi : (i = .ireturn ∧ (t = .int ∨ t = .boolean ∨ t = .byte ∨ t = .char ∨ t = .short) ∧ ∃ z, w = .int z) ∨ (i = .lreturn ∧ t = .long ∧ ∃ z, w = .long z) ∨ (i = .dreturn ∧ t = .double ∧ ∃ z, w = .double z) ∨ (i = .freturn ∧ t = .float ∧ ∃ z, w = .float z) ∨ (i = .areturn ∧ t.isReference = true ∧ w.isRef = true))
    (hd : decode c.code pc = .ok (i, 1)) (hc : cells ≤ C) (hs : slots ≤ D) (hq : Q (some w) T.heap locs) : Go p e below (Owe s Q C D) (T.setTop (mkF m pc L (w :: S))) := by
  obtain ⟨fs, hr, hrun, hended, hW, hsame⟩ := X.leave (v := some w) (fun h => by rw [hret] at h; cases h) hlocks
  exact ⟨_, _, retOut X hx hret hn hi hd hr, hrun, hended, _, _, rfl, hq, ⟨_, rfl⟩, hW, hsame.mono hc hs⟩
theorem o_retZ (X : Stand p l e R s m args below meth c T locs cells slots) (hx : p.tables.exec = Jvm.exec) {Q : Option Value → Heap → List Loc → Prop} {C D : Nat} {z : Int32} (hz : narrow .boolean (.int z) = .int z) (hlocks : meth.locks = false) (hret : meth.sig.returnType = some .boolean) (hd : decode c.code pc = .ok (.ireturn, 1)) (hc : cells ≤ C) (hs : slots ≤ D) (hq : Q (some (.int z)) T.heap locs) : Go p e below (Owe s Q C D) (T.setTop (mkF m pc L (.int z :: S))) :=
  o_ret X hx hlocks hret hz (Or.inl ⟨rfl, Or.inr (Or.inl rfl), z, rfl⟩) hd hc hs hq
theorem o_callS (X : Stand p l e R s m args below meth c T locs cells slots) (hx : p.tables.exec = Jvm.exec) (hZ : Z.Warmed39 s.vm) {own : String} {index : Nat} {y : MethodName} {bytes : ByteArray} {maxL : Nat} {ret : Option FieldType} {rm : Room} (W : Nat) {argsL rest : List Value} {Q : Option Value → Heap → List Loc → Prop} {cells' slots' : Nat}
    (hown : s.vm.findClass own = some m.cls) (w1 : (Cond.methodLink own index y).before a0 Z = true) (w2 : (Cond.static y).before a0 Z = true) (w3 : (Cond.initialized y.cls).before a0 Z = true) (w4 : (Cond.code y bytes maxL ret).before a0 Z = true) (hy : y.cls ≠ "java/lang/invoke/MethodHandle" ∧ y.cls ≠ "java/lang/invoke/VarHandle")
    (hM : MetFree l y (head1 [Cond.code y bytes maxL ret] rm) (fun a U => a = argsL.toArray ∧ Z.Warmed39 U.vm ∧ U.heap = h) (fun _ _ _ _ _ => True) (fun _ U o U' => ∃ v L, o = .returned v ∧ Q v U'.heap L ∧ FrameEnd U o U' L rm.cells rm.slots))
    (hf : rm.frames + 1 ≤ R.frames) (hl : W + (maxL + 11) + rm.locals ≤ R.locals) (hcc : cells + rm.cells = cells') (hss : slots + rm.slots = slots') (hc : cells' ≤ R.cells) (hs : slots' ≤ R.slots) (eT : T.heap = h) (hsize : L.size = c.maxLocals) (hlen : ∀ sig, parseMethodDescriptor y.desc = some sig → argsL.length = sig.parameters.length) (hstk : S = argsL.reverse ++ rest)
    (hW : (rest.map fun v => v.category).sum = W) (hd : decode c.code pc = .ok (.invokestatic index, 3)) (hp : pc + 3 = pc') (K : ∀ T' v Lc, Stand p l e R s m args below meth c T' (locs ++ Lc) cells' slots' → Q v T'.heap Lc → Go p e below P (T'.setTop (mkF m pc' L (v.toList ++ rest)))) : Go p e below P (T.setTop (mkF m pc L S)) := by
  subst hp hcc hss
  obtain ⟨v, _, ⟨T', L', k', n'⟩, -, X', ⟨Lc, hQ, l', y', z'⟩, st⟩ := Jvm.LawKit.callS X hx hown (mvT hZ w1) (mvT hZ w2) (mvT hZ w3) (mvT hZ w4) hy (backOf (W := W) hM hZ w4 w3 hf hl) (g := mkF m pc L S) rfl hsize (argsL := argsL) (rest := rest) hlen hstk (by show 2 * 0 + _ ≤ _; rw [hW]; exact Nat.le_of_eq (by simp)) hd (fun _ _ => ⟨rfl, eT, hc, hs⟩)
  dsimp only [Pt.U, Pt.locs, Pt.cells, Pt.slots] at X' l' y' z' st hQ
  subst l' y' z'
  exact (K T' v Lc X' hQ).via st
theorem o_newP (X : Stand p l e R s m args below meth c T locs cells slots) (hx : p.tables.exec = Jvm.exec) (hZ : Z.Warmed39 s.vm) {aty : ArrayType} {n : Int32} {cells' slots' : Nat} (cap : Nat) (w : (Cond.arrayClass (newarray.typeOf aty)).before a0 Z = true) (eT : T.heap = h) (hd : decode c.code pc = .ok (.newarray aty, 2)) (hp : pc + 2 = pc') (hn : ¬ n < 0) (hcap : n.toNatClampNeg ≤ cap) (hb : cap * 8 ≤ 536870912) (hcc : cells + 1 = cells') (hss : slots + cap = slots') (hc : cells' ≤ R.cells) (hs : slots' ≤ R.slots)
    (K : ∀ T' h' a k, a = h.size → Stand p l e R s m args below meth c T' locs cells' slots' → T'.heap = h' → Ext h h' → Arv Z h' a k (newarray.typeOf aty) n [] (defaultValue (newarray.typeOf aty)) → Go p e below P (T'.setTop (mkF m pc' L (.ref a :: S)))) : Go p e below P (T.setTop (mkF m pc L (.int n :: S))) := by
  subst hp hcc hss
  obtain ⟨T', h', cA, X', e', E', A', st⟩ := newP X hx hZ w eT (g := mkF m pc L (.int n :: S)) rfl hd rfl hn hcap hb hc hs
  exact (K T' h' h.size cA rfl X' e' E' (Arv.new A' hn)).via st
theorem own_inb {Zx : State} {hh : Heap} {a : Addr} {k : ClassId} {ty : FieldType} {n j : Int32} {vs : List Value} {d : Value} (hj : ¬ j < 0 ∧ j < n) (V : Arv Zx hh a k ty n vs d) : ∃ cl : Cell, Arr Zx hh a cl ty ∧ cl.cls = k ∧ cl.slots.size = n.toNatClampNeg ∧ ¬ n < 0 ∧ Has cl vs d ∧ (∀ i, i < cl.slots.size → fits ty (vs.getD i d) = true) ∧ ¬ (j < 0 ∨ cl.slots.size ≤ j.toNatClampNeg) ∧ cl.slots[j.toNatClampNeg]? = some (vs.getD j.toNatClampNeg d) := by
  obtain ⟨cl, h1, h2, h3, h4, h5, h6⟩ := V
  have hin := inb_of h3 hj
  exact ⟨cl, h1, h2, h3, h4, h5, h6, hin, h5.at hin rfl⟩
theorem o_iaload (X : Stand p l e R s m args below meth c T locs cells slots) (hx : p.tables.exec = Jvm.exec) (hZ : Z.Warmed39 s.vm) {a : Addr} {k : ClassId} {n j : Int32} {vs : List Value} {d : Value} (v : Value) (eT : T.heap = h) (V : Arv Z h a k .int n vs d) (hj : ¬ j < 0 ∧ j < n) (hv : vs.getD j.toNatClampNeg d = v) (hd : decode c.code pc = .ok (.iaload, 1)) (hp : pc + 1 = pc') (K : Go p e below P (T.setTop (mkF m pc' L (v :: S)))) : Go p e below P (T.setTop (mkF m pc L (.int j :: .ref a :: S))) := by
  subst hp hv
  obtain ⟨cl, A, -, -, -, -, -, hin, hat⟩ := own_inb hj V
  exact K.via fun t k => X.iaload hx (j := j) (by rw [eT]; exact A.1) (State.isArrayOf_alike hZ.alike A.2.1) A.2.2 hin hat (g := mkF m pc L (.int j :: .ref a :: S)) rfl rfl hd t k
theorem o_iastore (X : Stand p l e R s m args below meth c T locs cells slots) (hx : p.tables.exec = Jvm.exec) (hZ : Z.Warmed39 s.vm) {a : Addr} {k : ClassId} {n j : Int32} {x : Int32} {vs vs' : List Value} {d : Value} (i : Nat) (eT : T.heap = h) (V : Arv Z h a k .int n vs d) (hj : ¬ j < 0 ∧ j < n) (hji : j.toNatClampNeg = i) (hi : i < vs.length) (hvs : vs.set i (.int x) = vs') (hd : decode c.code pc = .ok (.iastore, 1)) (hp : pc + 1 = pc')
    (K : ∀ T' h', Stand p l e R s m args below meth c T' (locs ++ [⟨a, i⟩]) cells slots → T'.heap = h' → Wr h h' a i (.int x) → Arv Z h' a k .int n vs' d → Go p e below P (T'.setTop (mkF m pc' L S))) : Go p e below P (T.setTop (mkF m pc L (.int x :: .int j :: .ref a :: S))) := by
  subst hp hvs hji
  obtain ⟨cl, A, q1, q2, q3, q4, q5, hin, hat⟩ := own_inb hj V
  obtain ⟨T', h', X', e', W', st⟩ := stI X hx hZ eT A hin (g := mkF m pc L (.int x :: .int j :: .ref a :: S)) rfl rfl hd
  exact (K T' h' X' e' W' (Arv.set A q1 q2 q3 q4 q5 rfl W' _ rfl hi)).via st
/-- a longer list said of an array: the rest holds its first value -/
theorem own_fill {Zx : State} {hh : Heap} {a : Addr} {k : ClassId} {ty : FieldType} {n : Int32} {d : Value} (i : Nat) (V : Arv Zx hh a k ty n [] d) : Arv Zx hh a k ty n (List.replicate i d) d := V.pad (pad_rep [] d i)
end Own
theorem pd_0 : parseMethodDescriptor "(I)Z" = some ⟨[.int], some .boolean⟩ := by decide +kernel
theorem d1_0 : decode prog_135_method_4_code 0 = .ok (.iload_n 0, 1) := by decide +kernel
theorem d1_1 : decode prog_135_method_4_code 1 = .ok (.bipush 65, 2) := by decide +kernel
theorem d1_3 : decode prog_135_method_4_code 3 = .ok (.if_icmp .lt 9, 3) := by decide +kernel
theorem d1_6 : decode prog_135_method_4_code 6 = .ok (.iload_n 0, 1) := by decide +kernel
theorem d1_7 : decode prog_135_method_4_code 7 = .ok (.bipush 90, 2) := by decide +kernel
theorem d1_9 : decode prog_135_method_4_code 9 = .ok (.if_icmp .le 182, 3) := by decide +kernel
theorem d1_12 : decode prog_135_method_4_code 12 = .ok (.iload_n 0, 1) := by decide +kernel
theorem d1_13 : decode prog_135_method_4_code 13 = .ok (.bipush 97, 2) := by decide +kernel
theorem d1_15 : decode prog_135_method_4_code 15 = .ok (.if_icmp .lt 9, 3) := by decide +kernel
theorem d1_18 : decode prog_135_method_4_code 18 = .ok (.iload_n 0, 1) := by decide +kernel
theorem d1_19 : decode prog_135_method_4_code 19 = .ok (.bipush 122, 2) := by decide +kernel
theorem d1_21 : decode prog_135_method_4_code 21 = .ok (.if_icmp .le 170, 3) := by decide +kernel
theorem d1_24 : decode prog_135_method_4_code 24 = .ok (.iload_n 0, 1) := by decide +kernel
theorem d1_25 : decode prog_135_method_4_code 25 = .ok (.bipush 95, 2) := by decide +kernel
theorem d1_27 : decode prog_135_method_4_code 27 = .ok (.if_icmp .eq 164, 3) := by decide +kernel
theorem d1_30 : decode prog_135_method_4_code 30 = .ok (.iload_n 0, 1) := by decide +kernel
theorem d1_31 : decode prog_135_method_4_code 31 = .ok (.sipush 192, 3) := by decide +kernel
theorem d1_34 : decode prog_135_method_4_code 34 = .ok (.if_icmp .lt 10, 3) := by decide +kernel
theorem d1_37 : decode prog_135_method_4_code 37 = .ok (.iload_n 0, 1) := by decide +kernel
theorem d1_38 : decode prog_135_method_4_code 38 = .ok (.sipush 214, 3) := by decide +kernel
theorem d1_41 : decode prog_135_method_4_code 41 = .ok (.if_icmp .le 150, 3) := by decide +kernel
theorem d1_44 : decode prog_135_method_4_code 44 = .ok (.iload_n 0, 1) := by decide +kernel
theorem d1_45 : decode prog_135_method_4_code 45 = .ok (.sipush 216, 3) := by decide +kernel
theorem d1_48 : decode prog_135_method_4_code 48 = .ok (.if_icmp .lt 10, 3) := by decide +kernel
theorem d1_51 : decode prog_135_method_4_code 51 = .ok (.iload_n 0, 1) := by decide +kernel
theorem d1_52 : decode prog_135_method_4_code 52 = .ok (.sipush 246, 3) := by decide +kernel
theorem d1_55 : decode prog_135_method_4_code 55 = .ok (.if_icmp .le 136, 3) := by decide +kernel
theorem d1_58 : decode prog_135_method_4_code 58 = .ok (.iload_n 0, 1) := by decide +kernel
theorem d1_59 : decode prog_135_method_4_code 59 = .ok (.sipush 248, 3) := by decide +kernel
theorem d1_62 : decode prog_135_method_4_code 62 = .ok (.if_icmp .lt 10, 3) := by decide +kernel
theorem d1_65 : decode prog_135_method_4_code 65 = .ok (.iload_n 0, 1) := by decide +kernel
theorem d1_66 : decode prog_135_method_4_code 66 = .ok (.sipush 767, 3) := by decide +kernel
theorem d1_69 : decode prog_135_method_4_code 69 = .ok (.if_icmp .le 122, 3) := by decide +kernel
theorem d1_72 : decode prog_135_method_4_code 72 = .ok (.iload_n 0, 1) := by decide +kernel
theorem d1_73 : decode prog_135_method_4_code 73 = .ok (.sipush 880, 3) := by decide +kernel
theorem d1_76 : decode prog_135_method_4_code 76 = .ok (.if_icmp .lt 10, 3) := by decide +kernel
theorem d1_79 : decode prog_135_method_4_code 79 = .ok (.iload_n 0, 1) := by decide +kernel
theorem d1_80 : decode prog_135_method_4_code 80 = .ok (.sipush 893, 3) := by decide +kernel
theorem d1_83 : decode prog_135_method_4_code 83 = .ok (.if_icmp .le 108, 3) := by decide +kernel
theorem d1_86 : decode prog_135_method_4_code 86 = .ok (.iload_n 0, 1) := by decide +kernel
theorem d1_87 : decode prog_135_method_4_code 87 = .ok (.sipush 895, 3) := by decide +kernel
theorem d1_90 : decode prog_135_method_4_code 90 = .ok (.if_icmp .lt 10, 3) := by decide +kernel
theorem d1_93 : decode prog_135_method_4_code 93 = .ok (.iload_n 0, 1) := by decide +kernel
theorem d1_94 : decode prog_135_method_4_code 94 = .ok (.sipush 8191, 3) := by decide +kernel
theorem d1_97 : decode prog_135_method_4_code 97 = .ok (.if_icmp .le 94, 3) := by decide +kernel
theorem d1_100 : decode prog_135_method_4_code 100 = .ok (.iload_n 0, 1) := by decide +kernel
theorem d1_101 : decode prog_135_method_4_code 101 = .ok (.sipush 8204, 3) := by decide +kernel
theorem d1_104 : decode prog_135_method_4_code 104 = .ok (.if_icmp .lt 10, 3) := by decide +kernel
theorem d1_107 : decode prog_135_method_4_code 107 = .ok (.iload_n 0, 1) := by decide +kernel
theorem d1_108 : decode prog_135_method_4_code 108 = .ok (.sipush 8205, 3) := by decide +kernel
theorem d1_111 : decode prog_135_method_4_code 111 = .ok (.if_icmp .le 80, 3) := by decide +kernel
theorem d1_114 : decode prog_135_method_4_code 114 = .ok (.iload_n 0, 1) := by decide +kernel
theorem d1_115 : decode prog_135_method_4_code 115 = .ok (.sipush 8304, 3) := by decide +kernel
theorem d1_118 : decode prog_135_method_4_code 118 = .ok (.if_icmp .lt 10, 3) := by decide +kernel
theorem d1_121 : decode prog_135_method_4_code 121 = .ok (.iload_n 0, 1) := by decide +kernel
theorem d1_122 : decode prog_135_method_4_code 122 = .ok (.sipush 8591, 3) := by decide +kernel
theorem d1_125 : decode prog_135_method_4_code 125 = .ok (.if_icmp .le 66, 3) := by decide +kernel
theorem d1_128 : decode prog_135_method_4_code 128 = .ok (.iload_n 0, 1) := by decide +kernel
theorem d1_129 : decode prog_135_method_4_code 129 = .ok (.sipush 11264, 3) := by decide +kernel
theorem d1_132 : decode prog_135_method_4_code 132 = .ok (.if_icmp .lt 10, 3) := by decide +kernel
theorem d1_135 : decode prog_135_method_4_code 135 = .ok (.iload_n 0, 1) := by decide +kernel
theorem d1_136 : decode prog_135_method_4_code 136 = .ok (.sipush 12271, 3) := by decide +kernel
theorem d1_139 : decode prog_135_method_4_code 139 = .ok (.if_icmp .le 52, 3) := by decide +kernel
theorem d1_142 : decode prog_135_method_4_code 142 = .ok (.iload_n 0, 1) := by decide +kernel
theorem d1_143 : decode prog_135_method_4_code 143 = .ok (.sipush 12289, 3) := by decide +kernel
theorem d1_146 : decode prog_135_method_4_code 146 = .ok (.if_icmp .lt 9, 3) := by decide +kernel
theorem d1_149 : decode prog_135_method_4_code 149 = .ok (.iload_n 0, 1) := by decide +kernel
theorem d1_150 : decode prog_135_method_4_code 150 = .ok (.ldc 39, 2) := by decide +kernel
theorem d1_152 : decode prog_135_method_4_code 152 = .ok (.if_icmp .le 39, 3) := by decide +kernel
theorem d1_155 : decode prog_135_method_4_code 155 = .ok (.iload_n 0, 1) := by decide +kernel
theorem d1_156 : decode prog_135_method_4_code 156 = .ok (.ldc 40, 2) := by decide +kernel
theorem d1_158 : decode prog_135_method_4_code 158 = .ok (.if_icmp .lt 9, 3) := by decide +kernel
theorem d1_161 : decode prog_135_method_4_code 161 = .ok (.iload_n 0, 1) := by decide +kernel
theorem d1_162 : decode prog_135_method_4_code 162 = .ok (.ldc 41, 2) := by decide +kernel
theorem d1_164 : decode prog_135_method_4_code 164 = .ok (.if_icmp .le 27, 3) := by decide +kernel
theorem d1_167 : decode prog_135_method_4_code 167 = .ok (.iload_n 0, 1) := by decide +kernel
theorem d1_168 : decode prog_135_method_4_code 168 = .ok (.ldc 42, 2) := by decide +kernel
theorem d1_170 : decode prog_135_method_4_code 170 = .ok (.if_icmp .lt 9, 3) := by decide +kernel
theorem d1_173 : decode prog_135_method_4_code 173 = .ok (.iload_n 0, 1) := by decide +kernel
theorem d1_174 : decode prog_135_method_4_code 174 = .ok (.ldc 43, 2) := by decide +kernel
theorem d1_176 : decode prog_135_method_4_code 176 = .ok (.if_icmp .le 15, 3) := by decide +kernel
theorem d1_179 : decode prog_135_method_4_code 179 = .ok (.iload_n 0, 1) := by decide +kernel
theorem d1_180 : decode prog_135_method_4_code 180 = .ok (.ldc 44, 2) := by decide +kernel
theorem d1_182 : decode prog_135_method_4_code 182 = .ok (.if_icmp .lt 13, 3) := by decide +kernel
theorem d1_185 : decode prog_135_method_4_code 185 = .ok (.iload_n 0, 1) := by decide +kernel
theorem d1_186 : decode prog_135_method_4_code 186 = .ok (.ldc 45, 2) := by decide +kernel
theorem d1_188 : decode prog_135_method_4_code 188 = .ok (.if_icmp .gt 7, 3) := by decide +kernel
theorem d1_191 : decode prog_135_method_4_code 191 = .ok (.iconst 1, 1) := by decide +kernel
theorem d1_192 : decode prog_135_method_4_code 192 = .ok (.goto 4, 3) := by decide +kernel
theorem d1_195 : decode prog_135_method_4_code 195 = .ok (.iconst 0, 1) := by decide +kernel
theorem d1_196 : decode prog_135_method_4_code 196 = .ok (.ireturn, 1) := by decide +kernel
theorem pn_1 : plainName "com/example/canopyguard/canopyguard/xml/XmlNames" = true := by first | (simp [plainName, overriddenIn]; done) | decide +kernel
theorem ef_1 (m : MethodId) (x0 : Int32) : entryFrame m #[(.int x0)] 1 = mkF m 0 #[.val (.int x0)] [] := by first | (simp [entryFrame, mkF, argsToLocals, Value.category]; done) | rfl
def own_f1_ret_m195 (x1 : Int32) : Int32 := (0 : Int32)
def own_f1_ret_m191 (x1 : Int32) : Int32 := (1 : Int32)
def own_f1_ret_m179 (x1 : Int32) : Int32 := (if x1 < (65536 : Int32) then (own_f1_ret_m195 x1) else (if (983039 : Int32) < x1 then (own_f1_ret_m195 x1) else (own_f1_ret_m191 x1)))
def own_f1_ret_m167 (x1 : Int32) : Int32 := (if x1 < (65008 : Int32) then (own_f1_ret_m179 x1) else (if (65533 : Int32) < x1 then (own_f1_ret_m179 x1) else (own_f1_ret_m191 x1)))
def own_f1_ret_m155 (x1 : Int32) : Int32 := (if x1 < (63744 : Int32) then (own_f1_ret_m167 x1) else (if (64975 : Int32) < x1 then (own_f1_ret_m167 x1) else (own_f1_ret_m191 x1)))
def own_f1_ret_m142 (x1 : Int32) : Int32 := (if x1 < (12289 : Int32) then (own_f1_ret_m155 x1) else (if (55295 : Int32) < x1 then (own_f1_ret_m155 x1) else (own_f1_ret_m191 x1)))
def own_f1_ret_m128 (x1 : Int32) : Int32 := (if x1 < (11264 : Int32) then (own_f1_ret_m142 x1) else (if (12271 : Int32) < x1 then (own_f1_ret_m142 x1) else (own_f1_ret_m191 x1)))
def own_f1_ret_m114 (x1 : Int32) : Int32 := (if x1 < (8304 : Int32) then (own_f1_ret_m128 x1) else (if (8591 : Int32) < x1 then (own_f1_ret_m128 x1) else (own_f1_ret_m191 x1)))
def own_f1_ret_m100 (x1 : Int32) : Int32 := (if x1 < (8204 : Int32) then (own_f1_ret_m114 x1) else (if (8205 : Int32) < x1 then (own_f1_ret_m114 x1) else (own_f1_ret_m191 x1)))
def own_f1_ret_m86 (x1 : Int32) : Int32 := (if x1 < (895 : Int32) then (own_f1_ret_m100 x1) else (if (8191 : Int32) < x1 then (own_f1_ret_m100 x1) else (own_f1_ret_m191 x1)))
def own_f1_ret_m72 (x1 : Int32) : Int32 := (if x1 < (880 : Int32) then (own_f1_ret_m86 x1) else (if (893 : Int32) < x1 then (own_f1_ret_m86 x1) else (own_f1_ret_m191 x1)))
def own_f1_ret_m58 (x1 : Int32) : Int32 := (if x1 < (248 : Int32) then (own_f1_ret_m72 x1) else (if (767 : Int32) < x1 then (own_f1_ret_m72 x1) else (own_f1_ret_m191 x1)))
def own_f1_ret_m44 (x1 : Int32) : Int32 := (if x1 < (216 : Int32) then (own_f1_ret_m58 x1) else (if (246 : Int32) < x1 then (own_f1_ret_m58 x1) else (own_f1_ret_m191 x1)))
def own_f1_ret_m24 (x1 : Int32) : Int32 := (if x1 = (95 : Int32) then (own_f1_ret_m191 x1) else (if x1 < (192 : Int32) then (own_f1_ret_m44 x1) else (if (214 : Int32) < x1 then (own_f1_ret_m44 x1) else (own_f1_ret_m191 x1))))
def own_f1_ret_m12 (x1 : Int32) : Int32 := (if x1 < (97 : Int32) then (own_f1_ret_m24 x1) else (if (122 : Int32) < x1 then (own_f1_ret_m24 x1) else (own_f1_ret_m191 x1)))
def own_f1_ret (x1 : Int32) : Int32 := (if x1 < (65 : Int32) then (own_f1_ret_m12 x1) else (if (90 : Int32) < x1 then (own_f1_ret_m12 x1) else (own_f1_ret_m191 x1)))
theorem own_f1_ret_m195_01 (x1 : Int32) : (own_f1_ret_m195 x1) = 0 ∨ (own_f1_ret_m195 x1) = 1 := by
  unfold own_f1_ret_m195
  repeat' split
  all_goals first | with_reducible exact Or.inl rfl | with_reducible exact Or.inr rfl
theorem own_f1_ret_m191_01 (x1 : Int32) : (own_f1_ret_m191 x1) = 0 ∨ (own_f1_ret_m191 x1) = 1 := by
  unfold own_f1_ret_m191
  repeat' split
  all_goals first | with_reducible exact Or.inl rfl | with_reducible exact Or.inr rfl | with_reducible exact own_f1_ret_m195_01 x1
theorem own_f1_ret_m179_01 (x1 : Int32) : (own_f1_ret_m179 x1) = 0 ∨ (own_f1_ret_m179 x1) = 1 := by
  unfold own_f1_ret_m179
  repeat' split
  all_goals first | with_reducible exact Or.inl rfl | with_reducible exact Or.inr rfl | with_reducible exact own_f1_ret_m195_01 x1 | with_reducible exact own_f1_ret_m191_01 x1
theorem own_f1_ret_m167_01 (x1 : Int32) : (own_f1_ret_m167 x1) = 0 ∨ (own_f1_ret_m167 x1) = 1 := by
  unfold own_f1_ret_m167
  repeat' split
  all_goals first | with_reducible exact Or.inl rfl | with_reducible exact Or.inr rfl | with_reducible exact own_f1_ret_m195_01 x1 | with_reducible exact own_f1_ret_m191_01 x1 | with_reducible exact own_f1_ret_m179_01 x1
theorem own_f1_ret_m155_01 (x1 : Int32) : (own_f1_ret_m155 x1) = 0 ∨ (own_f1_ret_m155 x1) = 1 := by
  unfold own_f1_ret_m155
  repeat' split
  all_goals first | with_reducible exact Or.inl rfl | with_reducible exact Or.inr rfl | with_reducible exact own_f1_ret_m195_01 x1 | with_reducible exact own_f1_ret_m191_01 x1 | with_reducible exact own_f1_ret_m179_01 x1 | with_reducible exact own_f1_ret_m167_01 x1
theorem own_f1_ret_m142_01 (x1 : Int32) : (own_f1_ret_m142 x1) = 0 ∨ (own_f1_ret_m142 x1) = 1 := by
  unfold own_f1_ret_m142
  repeat' split
  all_goals first | with_reducible exact Or.inl rfl | with_reducible exact Or.inr rfl | with_reducible exact own_f1_ret_m195_01 x1 | with_reducible exact own_f1_ret_m191_01 x1 | with_reducible exact own_f1_ret_m179_01 x1 | with_reducible exact own_f1_ret_m167_01 x1 | with_reducible exact own_f1_ret_m155_01 x1
theorem own_f1_ret_m128_01 (x1 : Int32) : (own_f1_ret_m128 x1) = 0 ∨ (own_f1_ret_m128 x1) = 1 := by
  unfold own_f1_ret_m128
  repeat' split
  all_goals first | with_reducible exact Or.inl rfl | with_reducible exact Or.inr rfl | with_reducible exact own_f1_ret_m195_01 x1 | with_reducible exact own_f1_ret_m191_01 x1 | with_reducible exact own_f1_ret_m179_01 x1 | with_reducible exact own_f1_ret_m167_01 x1 | with_reducible exact own_f1_ret_m155_01 x1 | with_reducible exact own_f1_ret_m142_01 x1
theorem own_f1_ret_m114_01 (x1 : Int32) : (own_f1_ret_m114 x1) = 0 ∨ (own_f1_ret_m114 x1) = 1 := by
  unfold own_f1_ret_m114
  repeat' split
  all_goals first | with_reducible exact Or.inl rfl | with_reducible exact Or.inr rfl | with_reducible exact own_f1_ret_m195_01 x1 | with_reducible exact own_f1_ret_m191_01 x1 | with_reducible exact own_f1_ret_m179_01 x1 | with_reducible exact own_f1_ret_m167_01 x1 | with_reducible exact own_f1_ret_m155_01 x1 | with_reducible exact own_f1_ret_m142_01 x1 | with_reducible exact own_f1_ret_m128_01 x1
theorem own_f1_ret_m100_01 (x1 : Int32) : (own_f1_ret_m100 x1) = 0 ∨ (own_f1_ret_m100 x1) = 1 := by
  unfold own_f1_ret_m100
  repeat' split
  all_goals first | with_reducible exact Or.inl rfl | with_reducible exact Or.inr rfl | with_reducible exact own_f1_ret_m195_01 x1 | with_reducible exact own_f1_ret_m191_01 x1 | with_reducible exact own_f1_ret_m179_01 x1 | with_reducible exact own_f1_ret_m167_01 x1 | with_reducible exact own_f1_ret_m155_01 x1 | with_reducible exact own_f1_ret_m142_01 x1 | with_reducible exact own_f1_ret_m128_01 x1 | with_reducible exact own_f1_ret_m114_01 x1
theorem own_f1_ret_m86_01 (x1 : Int32) : (own_f1_ret_m86 x1) = 0 ∨ (own_f1_ret_m86 x1) = 1 := by
  unfold own_f1_ret_m86
  repeat' split
  all_goals first | with_reducible exact Or.inl rfl | with_reducible exact Or.inr rfl | with_reducible exact own_f1_ret_m195_01 x1 | with_reducible exact own_f1_ret_m191_01 x1 | with_reducible exact own_f1_ret_m179_01 x1 | with_reducible exact own_f1_ret_m167_01 x1 | with_reducible exact own_f1_ret_m155_01 x1 | with_reducible exact own_f1_ret_m142_01 x1 | with_reducible exact own_f1_ret_m128_01 x1 | with_reducible exact own_f1_ret_m114_01 x1 | with_reducible exact own_f1_ret_m100_01 x1
theorem own_f1_ret_m72_01 (x1 : Int32) : (own_f1_ret_m72 x1) = 0 ∨ (own_f1_ret_m72 x1) = 1 := by
  unfold own_f1_ret_m72
  repeat' split
  all_goals first | with_reducible exact Or.inl rfl | with_reducible exact Or.inr rfl | with_reducible exact own_f1_ret_m195_01 x1 | with_reducible exact own_f1_ret_m191_01 x1 | with_reducible exact own_f1_ret_m179_01 x1 | with_reducible exact own_f1_ret_m167_01 x1 | with_reducible exact own_f1_ret_m155_01 x1 | with_reducible exact own_f1_ret_m142_01 x1 | with_reducible exact own_f1_ret_m128_01 x1 | with_reducible exact own_f1_ret_m114_01 x1 | with_reducible exact own_f1_ret_m100_01 x1 | with_reducible exact own_f1_ret_m86_01 x1
theorem own_f1_ret_m58_01 (x1 : Int32) : (own_f1_ret_m58 x1) = 0 ∨ (own_f1_ret_m58 x1) = 1 := by
  unfold own_f1_ret_m58
  repeat' split
  all_goals first | with_reducible exact Or.inl rfl | with_reducible exact Or.inr rfl | with_reducible exact own_f1_ret_m195_01 x1 | with_reducible exact own_f1_ret_m191_01 x1 | with_reducible exact own_f1_ret_m179_01 x1 | with_reducible exact own_f1_ret_m167_01 x1 | with_reducible exact own_f1_ret_m155_01 x1 | with_reducible exact own_f1_ret_m142_01 x1 | with_reducible exact own_f1_ret_m128_01 x1 | with_reducible exact own_f1_ret_m114_01 x1 | with_reducible exact own_f1_ret_m100_01 x1 | with_reducible exact own_f1_ret_m86_01 x1 | with_reducible exact own_f1_ret_m72_01 x1
theorem own_f1_ret_m44_01 (x1 : Int32) : (own_f1_ret_m44 x1) = 0 ∨ (own_f1_ret_m44 x1) = 1 := by
  unfold own_f1_ret_m44
  repeat' split
  all_goals first | with_reducible exact Or.inl rfl | with_reducible exact Or.inr rfl | with_reducible exact own_f1_ret_m195_01 x1 | with_reducible exact own_f1_ret_m191_01 x1 | with_reducible exact own_f1_ret_m179_01 x1 | with_reducible exact own_f1_ret_m167_01 x1 | with_reducible exact own_f1_ret_m155_01 x1 | with_reducible exact own_f1_ret_m142_01 x1 | with_reducible exact own_f1_ret_m128_01 x1 | with_reducible exact own_f1_ret_m114_01 x1 | with_reducible exact own_f1_ret_m100_01 x1 | with_reducible exact own_f1_ret_m86_01 x1 | with_reducible exact own_f1_ret_m72_01 x1 | with_reducible exact own_f1_ret_m58_01 x1
theorem own_f1_ret_m24_01 (x1 : Int32) : (own_f1_ret_m24 x1) = 0 ∨ (own_f1_ret_m24 x1) = 1 := by
  unfold own_f1_ret_m24
  repeat' split
  all_goals first | with_reducible exact Or.inl rfl | with_reducible exact Or.inr rfl | with_reducible exact own_f1_ret_m195_01 x1 | with_reducible exact own_f1_ret_m191_01 x1 | with_reducible exact own_f1_ret_m179_01 x1 | with_reducible exact own_f1_ret_m167_01 x1 | with_reducible exact own_f1_ret_m155_01 x1 | with_reducible exact own_f1_ret_m142_01 x1 | with_reducible exact own_f1_ret_m128_01 x1 | with_reducible exact own_f1_ret_m114_01 x1 | with_reducible exact own_f1_ret_m100_01 x1 | with_reducible exact own_f1_ret_m86_01 x1 | with_reducible exact own_f1_ret_m72_01 x1 | with_reducible exact own_f1_ret_m58_01 x1 | with_reducible exact own_f1_ret_m44_01 x1
theorem own_f1_ret_m12_01 (x1 : Int32) : (own_f1_ret_m12 x1) = 0 ∨ (own_f1_ret_m12 x1) = 1 := by
  unfold own_f1_ret_m12
  repeat' split
  all_goals first | with_reducible exact Or.inl rfl | with_reducible exact Or.inr rfl | with_reducible exact own_f1_ret_m195_01 x1 | with_reducible exact own_f1_ret_m191_01 x1 | with_reducible exact own_f1_ret_m179_01 x1 | with_reducible exact own_f1_ret_m167_01 x1 | with_reducible exact own_f1_ret_m155_01 x1 | with_reducible exact own_f1_ret_m142_01 x1 | with_reducible exact own_f1_ret_m128_01 x1 | with_reducible exact own_f1_ret_m114_01 x1 | with_reducible exact own_f1_ret_m100_01 x1 | with_reducible exact own_f1_ret_m86_01 x1 | with_reducible exact own_f1_ret_m72_01 x1 | with_reducible exact own_f1_ret_m58_01 x1 | with_reducible exact own_f1_ret_m44_01 x1 | with_reducible exact own_f1_ret_m24_01 x1
theorem own_f1_ret_01 (x1 : Int32) : (own_f1_ret x1) = 0 ∨ (own_f1_ret x1) = 1 := by
  unfold own_f1_ret
  repeat' split
  all_goals first | with_reducible exact Or.inl rfl | with_reducible exact Or.inr rfl | with_reducible exact own_f1_ret_m195_01 x1 | with_reducible exact own_f1_ret_m191_01 x1 | with_reducible exact own_f1_ret_m179_01 x1 | with_reducible exact own_f1_ret_m167_01 x1 | with_reducible exact own_f1_ret_m155_01 x1 | with_reducible exact own_f1_ret_m142_01 x1 | with_reducible exact own_f1_ret_m128_01 x1 | with_reducible exact own_f1_ret_m114_01 x1 | with_reducible exact own_f1_ret_m100_01 x1 | with_reducible exact own_f1_ret_m86_01 x1 | with_reducible exact own_f1_ret_m72_01 x1 | with_reducible exact own_f1_ret_m58_01 x1 | with_reducible exact own_f1_ret_m44_01 x1 | with_reducible exact own_f1_ret_m24_01 x1 | with_reducible exact own_f1_ret_m12_01 x1
def Q1 (Z : State) (x1 : Int32) (h0 : Heap) (n0 : Nat) (v : Option Value) (h : Heap) (L : List Loc) : Prop := v = some (.int (own_f1_ret x1)) ∧ Fr n0 L ∧ h = h0
set_option maxRecDepth 65536 in
set_option maxHeartbeats 40000000 in
theorem rm1 (l : Launch) (Z : State) (a0 : Array Value) (hw : ∀ d ∈ tables_1, d.before a0 Z = true) (ws : List Jvm.Cond) (x1 : Int32) (h0 : Heap) (n0 : Nat) (Z0 : n0 ≤ h0.size)  :
    Con l (⟨"com/example/canopyguard/canopyguard/xml/XmlNames", "isNcNameStart", "(I)Z"⟩ : MethodName) prog_135_method_4_code 1 (some .boolean) ws ({ frames := 0, cells := 0, slots := 0, locals := 0 } : Room) #[(.int x1)] Z h0 (Q1 Z x1 h0 n0) ({ frames := 0, cells := 0, slots := 0, locals := 0 } : Room).cells ({ frames := 0, cells := 0, slots := 0, locals := 0 } : Room).slots := by
  refine own_body (plainFor_of_name pn_1) ?_
  intro p e s m below meth c s₁ hx hby hlk hml hown hnm hrt hZ X0 e0
  have w : ∀ (k : Nat) (d : Jvm.Cond), tables_1[k]? = some d → d.before a0 Z = true := fun k d h => hw d (List.mem_of_getElem? h)
  have N0 := Fr.nil n0
  rw [ef_1]
  generalize hOWE : Owe s _ _ _ = OWE
  have M195 : (own_f1_ret x1) = (own_f1_ret_m195 x1) → Go p e below OWE (s₁.setTop (mkF m 195 #[.val (.int x1)] [])) := by
    intro hM195
    refine o_iconst X0 hx (0 : Int32) (hb hby d1_195) (pc' := 196) rfl (by decide) ?_
    rw [← hOWE]
    exact o_retZ X0 hx rfl hlk hrt (hb hby d1_196) (by decide) (by decide) (by rw [e0]; exact ⟨(by rw [hM195, own_f1_ret_m195]), N0, rfl⟩)
  have M191 : (own_f1_ret x1) = (own_f1_ret_m191 x1) → Go p e below OWE (s₁.setTop (mkF m 191 #[.val (.int x1)] [])) := by
    intro hM191
    refine o_iconst X0 hx (1 : Int32) (hb hby d1_191) (pc' := 192) rfl (by decide) ?_
    refine o_goto X0 hx (hb hby d1_192) (by decide) (pc' := 196) (by decide) ?_
    rw [← hOWE]
    exact o_retZ X0 hx rfl hlk hrt (hb hby d1_196) (by decide) (by decide) (by rw [e0]; exact ⟨(by rw [hM191, own_f1_ret_m191]), N0, rfl⟩)
  have M179 : (own_f1_ret x1) = (own_f1_ret_m179 x1) → Go p e below OWE (s₁.setTop (mkF m 179 #[.val (.int x1)] [])) := by
    intro hM179
    refine o_iloadN X0 hx (hb hby d1_179) (pc' := 180) rfl rfl ?_
    refine o_ldcI X0 hx hZ (65536 : Int32) hown (w 15 _ rfl) (hb hby d1_180) (pc' := 182) rfl ?_
    by_cases hc182_1 : x1 < (65536 : Int32)
    · refine o_cmpY X0 hx (hb hby d1_182) (tlt hc182_1).1 (by decide) (pc' := 195) (by decide) ?_
      exact M195 (by rw [hM179, own_f1_ret_m179, if_pos hc182_1])
    · refine o_cmpN X0 hx (hb hby d1_182) (flt hc182_1).1 (pc' := 185) rfl ?_
      refine o_iloadN X0 hx (hb hby d1_185) (pc' := 186) rfl rfl ?_
      refine o_ldcI X0 hx hZ (983039 : Int32) hown (w 19 _ rfl) (hb hby d1_186) (pc' := 188) rfl ?_
      by_cases hc188_2 : (983039 : Int32) < x1
      · refine o_cmpY X0 hx (hb hby d1_188) (tlt hc188_2).2.2.1 (by decide) (pc' := 195) (by decide) ?_
        exact M195 (by rw [hM179, own_f1_ret_m179, if_neg hc182_1, if_pos hc188_2])
      · refine o_cmpN X0 hx (hb hby d1_188) (flt hc188_2).2.2.1 (pc' := 191) rfl ?_
        exact M191 (by rw [hM179, own_f1_ret_m179, if_neg hc182_1, if_neg hc188_2])
  have M167 : (own_f1_ret x1) = (own_f1_ret_m167 x1) → Go p e below OWE (s₁.setTop (mkF m 167 #[.val (.int x1)] [])) := by
    intro hM167
    refine o_iloadN X0 hx (hb hby d1_167) (pc' := 168) rfl rfl ?_
    refine o_ldcI X0 hx hZ (65008 : Int32) hown (w 14 _ rfl) (hb hby d1_168) (pc' := 170) rfl ?_
    by_cases hc170_3 : x1 < (65008 : Int32)
    · refine o_cmpY X0 hx (hb hby d1_170) (tlt hc170_3).1 (by decide) (pc' := 179) (by decide) ?_
      exact M179 (by rw [hM167, own_f1_ret_m167, if_pos hc170_3])
    · refine o_cmpN X0 hx (hb hby d1_170) (flt hc170_3).1 (pc' := 173) rfl ?_
      refine o_iloadN X0 hx (hb hby d1_173) (pc' := 174) rfl rfl ?_
      refine o_ldcI X0 hx hZ (65533 : Int32) hown (w 18 _ rfl) (hb hby d1_174) (pc' := 176) rfl ?_
      by_cases hc176_4 : (65533 : Int32) < x1
      · refine o_cmpN X0 hx (hb hby d1_176) (tlt hc176_4).2.2.2 (pc' := 179) rfl ?_
        exact M179 (by rw [hM167, own_f1_ret_m167, if_neg hc170_3, if_pos hc176_4])
      · refine o_cmpY X0 hx (hb hby d1_176) (flt hc176_4).2.2.2 (by decide) (pc' := 191) (by decide) ?_
        exact M191 (by rw [hM167, own_f1_ret_m167, if_neg hc170_3, if_neg hc176_4])
  have M155 : (own_f1_ret x1) = (own_f1_ret_m155 x1) → Go p e below OWE (s₁.setTop (mkF m 155 #[.val (.int x1)] [])) := by
    intro hM155
    refine o_iloadN X0 hx (hb hby d1_155) (pc' := 156) rfl rfl ?_
    refine o_ldcI X0 hx hZ (63744 : Int32) hown (w 13 _ rfl) (hb hby d1_156) (pc' := 158) rfl ?_
    by_cases hc158_5 : x1 < (63744 : Int32)
    · refine o_cmpY X0 hx (hb hby d1_158) (tlt hc158_5).1 (by decide) (pc' := 167) (by decide) ?_
      exact M167 (by rw [hM155, own_f1_ret_m155, if_pos hc158_5])
    · refine o_cmpN X0 hx (hb hby d1_158) (flt hc158_5).1 (pc' := 161) rfl ?_
      refine o_iloadN X0 hx (hb hby d1_161) (pc' := 162) rfl rfl ?_
      refine o_ldcI X0 hx hZ (64975 : Int32) hown (w 17 _ rfl) (hb hby d1_162) (pc' := 164) rfl ?_
      by_cases hc164_6 : (64975 : Int32) < x1
      · refine o_cmpN X0 hx (hb hby d1_164) (tlt hc164_6).2.2.2 (pc' := 167) rfl ?_
        exact M167 (by rw [hM155, own_f1_ret_m155, if_neg hc158_5, if_pos hc164_6])
      · refine o_cmpY X0 hx (hb hby d1_164) (flt hc164_6).2.2.2 (by decide) (pc' := 191) (by decide) ?_
        exact M191 (by rw [hM155, own_f1_ret_m155, if_neg hc158_5, if_neg hc164_6])
  have M142 : (own_f1_ret x1) = (own_f1_ret_m142 x1) → Go p e below OWE (s₁.setTop (mkF m 142 #[.val (.int x1)] [])) := by
    intro hM142
    refine o_iloadN X0 hx (hb hby d1_142) (pc' := 143) rfl rfl ?_
    refine o_sipush X0 hx (12289 : Int32) (hb hby d1_143) (pc' := 146) rfl (by decide) ?_
    by_cases hc146_7 : x1 < (12289 : Int32)
    · refine o_cmpY X0 hx (hb hby d1_146) (tlt hc146_7).1 (by decide) (pc' := 155) (by decide) ?_
      exact M155 (by rw [hM142, own_f1_ret_m142, if_pos hc146_7])
    · refine o_cmpN X0 hx (hb hby d1_146) (flt hc146_7).1 (pc' := 149) rfl ?_
      refine o_iloadN X0 hx (hb hby d1_149) (pc' := 150) rfl rfl ?_
      refine o_ldcI X0 hx hZ (55295 : Int32) hown (w 16 _ rfl) (hb hby d1_150) (pc' := 152) rfl ?_
      by_cases hc152_8 : (55295 : Int32) < x1
      · refine o_cmpN X0 hx (hb hby d1_152) (tlt hc152_8).2.2.2 (pc' := 155) rfl ?_
        exact M155 (by rw [hM142, own_f1_ret_m142, if_neg hc146_7, if_pos hc152_8])
      · refine o_cmpY X0 hx (hb hby d1_152) (flt hc152_8).2.2.2 (by decide) (pc' := 191) (by decide) ?_
        exact M191 (by rw [hM142, own_f1_ret_m142, if_neg hc146_7, if_neg hc152_8])
  have M128 : (own_f1_ret x1) = (own_f1_ret_m128 x1) → Go p e below OWE (s₁.setTop (mkF m 128 #[.val (.int x1)] [])) := by
    intro hM128
    refine o_iloadN X0 hx (hb hby d1_128) (pc' := 129) rfl rfl ?_
    refine o_sipush X0 hx (11264 : Int32) (hb hby d1_129) (pc' := 132) rfl (by decide) ?_
    by_cases hc132_9 : x1 < (11264 : Int32)
    · refine o_cmpY X0 hx (hb hby d1_132) (tlt hc132_9).1 (by decide) (pc' := 142) (by decide) ?_
      exact M142 (by rw [hM128, own_f1_ret_m128, if_pos hc132_9])
    · refine o_cmpN X0 hx (hb hby d1_132) (flt hc132_9).1 (pc' := 135) rfl ?_
      refine o_iloadN X0 hx (hb hby d1_135) (pc' := 136) rfl rfl ?_
      refine o_sipush X0 hx (12271 : Int32) (hb hby d1_136) (pc' := 139) rfl (by decide) ?_
      by_cases hc139_10 : (12271 : Int32) < x1
      · refine o_cmpN X0 hx (hb hby d1_139) (tlt hc139_10).2.2.2 (pc' := 142) rfl ?_
        exact M142 (by rw [hM128, own_f1_ret_m128, if_neg hc132_9, if_pos hc139_10])
      · refine o_cmpY X0 hx (hb hby d1_139) (flt hc139_10).2.2.2 (by decide) (pc' := 191) (by decide) ?_
        exact M191 (by rw [hM128, own_f1_ret_m128, if_neg hc132_9, if_neg hc139_10])
  have M114 : (own_f1_ret x1) = (own_f1_ret_m114 x1) → Go p e below OWE (s₁.setTop (mkF m 114 #[.val (.int x1)] [])) := by
    intro hM114
    refine o_iloadN X0 hx (hb hby d1_114) (pc' := 115) rfl rfl ?_
    refine o_sipush X0 hx (8304 : Int32) (hb hby d1_115) (pc' := 118) rfl (by decide) ?_
    by_cases hc118_11 : x1 < (8304 : Int32)
    · refine o_cmpY X0 hx (hb hby d1_118) (tlt hc118_11).1 (by decide) (pc' := 128) (by decide) ?_
      exact M128 (by rw [hM114, own_f1_ret_m114, if_pos hc118_11])
    · refine o_cmpN X0 hx (hb hby d1_118) (flt hc118_11).1 (pc' := 121) rfl ?_
      refine o_iloadN X0 hx (hb hby d1_121) (pc' := 122) rfl rfl ?_
      refine o_sipush X0 hx (8591 : Int32) (hb hby d1_122) (pc' := 125) rfl (by decide) ?_
      by_cases hc125_12 : (8591 : Int32) < x1
      · refine o_cmpN X0 hx (hb hby d1_125) (tlt hc125_12).2.2.2 (pc' := 128) rfl ?_
        exact M128 (by rw [hM114, own_f1_ret_m114, if_neg hc118_11, if_pos hc125_12])
      · refine o_cmpY X0 hx (hb hby d1_125) (flt hc125_12).2.2.2 (by decide) (pc' := 191) (by decide) ?_
        exact M191 (by rw [hM114, own_f1_ret_m114, if_neg hc118_11, if_neg hc125_12])
  have M100 : (own_f1_ret x1) = (own_f1_ret_m100 x1) → Go p e below OWE (s₁.setTop (mkF m 100 #[.val (.int x1)] [])) := by
    intro hM100
    refine o_iloadN X0 hx (hb hby d1_100) (pc' := 101) rfl rfl ?_
    refine o_sipush X0 hx (8204 : Int32) (hb hby d1_101) (pc' := 104) rfl (by decide) ?_
    by_cases hc104_13 : x1 < (8204 : Int32)
    · refine o_cmpY X0 hx (hb hby d1_104) (tlt hc104_13).1 (by decide) (pc' := 114) (by decide) ?_
      exact M114 (by rw [hM100, own_f1_ret_m100, if_pos hc104_13])
    · refine o_cmpN X0 hx (hb hby d1_104) (flt hc104_13).1 (pc' := 107) rfl ?_
      refine o_iloadN X0 hx (hb hby d1_107) (pc' := 108) rfl rfl ?_
      refine o_sipush X0 hx (8205 : Int32) (hb hby d1_108) (pc' := 111) rfl (by decide) ?_
      by_cases hc111_14 : (8205 : Int32) < x1
      · refine o_cmpN X0 hx (hb hby d1_111) (tlt hc111_14).2.2.2 (pc' := 114) rfl ?_
        exact M114 (by rw [hM100, own_f1_ret_m100, if_neg hc104_13, if_pos hc111_14])
      · refine o_cmpY X0 hx (hb hby d1_111) (flt hc111_14).2.2.2 (by decide) (pc' := 191) (by decide) ?_
        exact M191 (by rw [hM100, own_f1_ret_m100, if_neg hc104_13, if_neg hc111_14])
  have M86 : (own_f1_ret x1) = (own_f1_ret_m86 x1) → Go p e below OWE (s₁.setTop (mkF m 86 #[.val (.int x1)] [])) := by
    intro hM86
    refine o_iloadN X0 hx (hb hby d1_86) (pc' := 87) rfl rfl ?_
    refine o_sipush X0 hx (895 : Int32) (hb hby d1_87) (pc' := 90) rfl (by decide) ?_
    by_cases hc90_15 : x1 < (895 : Int32)
    · refine o_cmpY X0 hx (hb hby d1_90) (tlt hc90_15).1 (by decide) (pc' := 100) (by decide) ?_
      exact M100 (by rw [hM86, own_f1_ret_m86, if_pos hc90_15])
    · refine o_cmpN X0 hx (hb hby d1_90) (flt hc90_15).1 (pc' := 93) rfl ?_
      refine o_iloadN X0 hx (hb hby d1_93) (pc' := 94) rfl rfl ?_
      refine o_sipush X0 hx (8191 : Int32) (hb hby d1_94) (pc' := 97) rfl (by decide) ?_
      by_cases hc97_16 : (8191 : Int32) < x1
      · refine o_cmpN X0 hx (hb hby d1_97) (tlt hc97_16).2.2.2 (pc' := 100) rfl ?_
        exact M100 (by rw [hM86, own_f1_ret_m86, if_neg hc90_15, if_pos hc97_16])
      · refine o_cmpY X0 hx (hb hby d1_97) (flt hc97_16).2.2.2 (by decide) (pc' := 191) (by decide) ?_
        exact M191 (by rw [hM86, own_f1_ret_m86, if_neg hc90_15, if_neg hc97_16])
  have M72 : (own_f1_ret x1) = (own_f1_ret_m72 x1) → Go p e below OWE (s₁.setTop (mkF m 72 #[.val (.int x1)] [])) := by
    intro hM72
    refine o_iloadN X0 hx (hb hby d1_72) (pc' := 73) rfl rfl ?_
    refine o_sipush X0 hx (880 : Int32) (hb hby d1_73) (pc' := 76) rfl (by decide) ?_
    by_cases hc76_17 : x1 < (880 : Int32)
    · refine o_cmpY X0 hx (hb hby d1_76) (tlt hc76_17).1 (by decide) (pc' := 86) (by decide) ?_
      exact M86 (by rw [hM72, own_f1_ret_m72, if_pos hc76_17])
    · refine o_cmpN X0 hx (hb hby d1_76) (flt hc76_17).1 (pc' := 79) rfl ?_
      refine o_iloadN X0 hx (hb hby d1_79) (pc' := 80) rfl rfl ?_
      refine o_sipush X0 hx (893 : Int32) (hb hby d1_80) (pc' := 83) rfl (by decide) ?_
      by_cases hc83_18 : (893 : Int32) < x1
      · refine o_cmpN X0 hx (hb hby d1_83) (tlt hc83_18).2.2.2 (pc' := 86) rfl ?_
        exact M86 (by rw [hM72, own_f1_ret_m72, if_neg hc76_17, if_pos hc83_18])
      · refine o_cmpY X0 hx (hb hby d1_83) (flt hc83_18).2.2.2 (by decide) (pc' := 191) (by decide) ?_
        exact M191 (by rw [hM72, own_f1_ret_m72, if_neg hc76_17, if_neg hc83_18])
  have M58 : (own_f1_ret x1) = (own_f1_ret_m58 x1) → Go p e below OWE (s₁.setTop (mkF m 58 #[.val (.int x1)] [])) := by
    intro hM58
    refine o_iloadN X0 hx (hb hby d1_58) (pc' := 59) rfl rfl ?_
    refine o_sipush X0 hx (248 : Int32) (hb hby d1_59) (pc' := 62) rfl (by decide) ?_
    by_cases hc62_19 : x1 < (248 : Int32)
    · refine o_cmpY X0 hx (hb hby d1_62) (tlt hc62_19).1 (by decide) (pc' := 72) (by decide) ?_
      exact M72 (by rw [hM58, own_f1_ret_m58, if_pos hc62_19])
    · refine o_cmpN X0 hx (hb hby d1_62) (flt hc62_19).1 (pc' := 65) rfl ?_
      refine o_iloadN X0 hx (hb hby d1_65) (pc' := 66) rfl rfl ?_
      refine o_sipush X0 hx (767 : Int32) (hb hby d1_66) (pc' := 69) rfl (by decide) ?_
      by_cases hc69_20 : (767 : Int32) < x1
      · refine o_cmpN X0 hx (hb hby d1_69) (tlt hc69_20).2.2.2 (pc' := 72) rfl ?_
        exact M72 (by rw [hM58, own_f1_ret_m58, if_neg hc62_19, if_pos hc69_20])
      · refine o_cmpY X0 hx (hb hby d1_69) (flt hc69_20).2.2.2 (by decide) (pc' := 191) (by decide) ?_
        exact M191 (by rw [hM58, own_f1_ret_m58, if_neg hc62_19, if_neg hc69_20])
  have M44 : (own_f1_ret x1) = (own_f1_ret_m44 x1) → Go p e below OWE (s₁.setTop (mkF m 44 #[.val (.int x1)] [])) := by
    intro hM44
    refine o_iloadN X0 hx (hb hby d1_44) (pc' := 45) rfl rfl ?_
    refine o_sipush X0 hx (216 : Int32) (hb hby d1_45) (pc' := 48) rfl (by decide) ?_
    by_cases hc48_21 : x1 < (216 : Int32)
    · refine o_cmpY X0 hx (hb hby d1_48) (tlt hc48_21).1 (by decide) (pc' := 58) (by decide) ?_
      exact M58 (by rw [hM44, own_f1_ret_m44, if_pos hc48_21])
    · refine o_cmpN X0 hx (hb hby d1_48) (flt hc48_21).1 (pc' := 51) rfl ?_
      refine o_iloadN X0 hx (hb hby d1_51) (pc' := 52) rfl rfl ?_
      refine o_sipush X0 hx (246 : Int32) (hb hby d1_52) (pc' := 55) rfl (by decide) ?_
      by_cases hc55_22 : (246 : Int32) < x1
      · refine o_cmpN X0 hx (hb hby d1_55) (tlt hc55_22).2.2.2 (pc' := 58) rfl ?_
        exact M58 (by rw [hM44, own_f1_ret_m44, if_neg hc48_21, if_pos hc55_22])
      · refine o_cmpY X0 hx (hb hby d1_55) (flt hc55_22).2.2.2 (by decide) (pc' := 191) (by decide) ?_
        exact M191 (by rw [hM44, own_f1_ret_m44, if_neg hc48_21, if_neg hc55_22])
  have M24 : (own_f1_ret x1) = (own_f1_ret_m24 x1) → Go p e below OWE (s₁.setTop (mkF m 24 #[.val (.int x1)] [])) := by
    intro hM24
    refine o_iloadN X0 hx (hb hby d1_24) (pc' := 25) rfl rfl ?_
    refine o_bipush X0 hx (95 : Int32) (hb hby d1_25) (pc' := 27) rfl (by decide) ?_
    by_cases hc27_23 : x1 = (95 : Int32)
    · refine o_cmpY X0 hx (hb hby d1_27) (teq hc27_23).1 (by decide) (pc' := 191) (by decide) ?_
      exact M191 (by rw [hM24, own_f1_ret_m24, if_pos hc27_23])
    · refine o_cmpN X0 hx (hb hby d1_27) (feq hc27_23).1 (pc' := 30) rfl ?_
      refine o_iloadN X0 hx (hb hby d1_30) (pc' := 31) rfl rfl ?_
      refine o_sipush X0 hx (192 : Int32) (hb hby d1_31) (pc' := 34) rfl (by decide) ?_
      by_cases hc34_24 : x1 < (192 : Int32)
      · refine o_cmpY X0 hx (hb hby d1_34) (tlt hc34_24).1 (by decide) (pc' := 44) (by decide) ?_
        exact M44 (by rw [hM24, own_f1_ret_m24, if_neg hc27_23, if_pos hc34_24])
      · refine o_cmpN X0 hx (hb hby d1_34) (flt hc34_24).1 (pc' := 37) rfl ?_
        refine o_iloadN X0 hx (hb hby d1_37) (pc' := 38) rfl rfl ?_
        refine o_sipush X0 hx (214 : Int32) (hb hby d1_38) (pc' := 41) rfl (by decide) ?_
        by_cases hc41_25 : (214 : Int32) < x1
        · refine o_cmpN X0 hx (hb hby d1_41) (tlt hc41_25).2.2.2 (pc' := 44) rfl ?_
          exact M44 (by rw [hM24, own_f1_ret_m24, if_neg hc27_23, if_neg hc34_24, if_pos hc41_25])
        · refine o_cmpY X0 hx (hb hby d1_41) (flt hc41_25).2.2.2 (by decide) (pc' := 191) (by decide) ?_
          exact M191 (by rw [hM24, own_f1_ret_m24, if_neg hc27_23, if_neg hc34_24, if_neg hc41_25])
  have M12 : (own_f1_ret x1) = (own_f1_ret_m12 x1) → Go p e below OWE (s₁.setTop (mkF m 12 #[.val (.int x1)] [])) := by
    intro hM12
    refine o_iloadN X0 hx (hb hby d1_12) (pc' := 13) rfl rfl ?_
    refine o_bipush X0 hx (97 : Int32) (hb hby d1_13) (pc' := 15) rfl (by decide) ?_
    by_cases hc15_26 : x1 < (97 : Int32)
    · refine o_cmpY X0 hx (hb hby d1_15) (tlt hc15_26).1 (by decide) (pc' := 24) (by decide) ?_
      exact M24 (by rw [hM12, own_f1_ret_m12, if_pos hc15_26])
    · refine o_cmpN X0 hx (hb hby d1_15) (flt hc15_26).1 (pc' := 18) rfl ?_
      refine o_iloadN X0 hx (hb hby d1_18) (pc' := 19) rfl rfl ?_
      refine o_bipush X0 hx (122 : Int32) (hb hby d1_19) (pc' := 21) rfl (by decide) ?_
      by_cases hc21_27 : (122 : Int32) < x1
      · refine o_cmpN X0 hx (hb hby d1_21) (tlt hc21_27).2.2.2 (pc' := 24) rfl ?_
        exact M24 (by rw [hM12, own_f1_ret_m12, if_neg hc15_26, if_pos hc21_27])
      · refine o_cmpY X0 hx (hb hby d1_21) (flt hc21_27).2.2.2 (by decide) (pc' := 191) (by decide) ?_
        exact M191 (by rw [hM12, own_f1_ret_m12, if_neg hc15_26, if_neg hc21_27])
  refine o_iloadN X0 hx (hb hby d1_0) (pc' := 1) rfl rfl ?_
  refine o_bipush X0 hx (65 : Int32) (hb hby d1_1) (pc' := 3) rfl (by decide) ?_
  by_cases hc3_28 : x1 < (65 : Int32)
  · refine o_cmpY X0 hx (hb hby d1_3) (tlt hc3_28).1 (by decide) (pc' := 12) (by decide) ?_
    exact M12 (by rw [own_f1_ret, if_pos hc3_28])
  · refine o_cmpN X0 hx (hb hby d1_3) (flt hc3_28).1 (pc' := 6) rfl ?_
    refine o_iloadN X0 hx (hb hby d1_6) (pc' := 7) rfl rfl ?_
    refine o_bipush X0 hx (90 : Int32) (hb hby d1_7) (pc' := 9) rfl (by decide) ?_
    by_cases hc9_29 : (90 : Int32) < x1
    · refine o_cmpN X0 hx (hb hby d1_9) (tlt hc9_29).2.2.2 (pc' := 12) rfl ?_
      exact M12 (by rw [own_f1_ret, if_neg hc3_28, if_pos hc9_29])
    · refine o_cmpY X0 hx (hb hby d1_9) (flt hc9_29).2.2.2 (by decide) (pc' := 191) (by decide) ?_
      exact M191 (by rw [own_f1_ret, if_neg hc3_28, if_neg hc9_29])
theorem pn_0 : plainName "com/example/canopyguard/canopyguard/xml/XmlNamesIsNcNameStartPinLaw" = true := by first | (simp [plainName, overriddenIn]; done) | decide +kernel
theorem ef_0 (m : MethodId) (x0 : Int32) (x1 : Int32) (x2 : Int32) (x3 : Int32) : entryFrame m #[(.int x0), (.int x1), (.int x2), (.int x3)] maxLocals = mkF m 0 #[.val (.int x0), .val (.int x1), .val (.int x2), .val (.int x3), .unset, .unset, .unset, .unset, .unset, .unset] [] := by first | (simp [entryFrame, mkF, argsToLocals, Value.category, maxLocals]; done) | rfl
def own_law_x0 (q0 : Int32) (q1 : Int32) (q2 : Int32) (q3 : Int32) : Int32 := ((q0 &&& (2147483647 : Int32)) % (15 : Int32))
def own_law_x1 (q0 : Int32) (q1 : Int32) (q2 : Int32) (q3 : Int32) : Int32 := ((65 : Int32) + ((q1 &&& (2147483647 : Int32)) % (26 : Int32)))
def own_law_x2 (q0 : Int32) (q1 : Int32) (q2 : Int32) (q3 : Int32) : Int32 := (own_f1_ret (own_law_x1 q0 q1 q2 q3))
def own_law_x3 (q0 : Int32) (q1 : Int32) (q2 : Int32) (q3 : Int32) : Int32 := ((91 : Int32) + ((q2 &&& (2147483647 : Int32)) % (4 : Int32)))
def own_law_v294_1_S0 (q0 : Int32) (q1 : Int32) (q2 : Int32) (q3 : Int32) : Int32 := (if (own_law_x2 q0 q1 q2 q3) = (0 : Int32) then (0 : Int32) else (if (own_f1_ret (own_law_x3 q0 q1 q2 q3)) = (0 : Int32) then (1 : Int32) else (0 : Int32)))
theorem own_law_v294_1_S0_01 (q0 : Int32) (q1 : Int32) (q2 : Int32) (q3 : Int32) : (own_law_v294_1_S0 q0 q1 q2 q3) = 0 ∨ (own_law_v294_1_S0 q0 q1 q2 q3) = 1 := by
  unfold own_law_v294_1_S0
  by_cases h0 : (own_law_x2 q0 q1 q2 q3) = (0 : Int32)
  · rw [if_pos h0]
    exact Or.inl rfl
  · rw [if_neg h0]
    by_cases h1 : (own_f1_ret (own_law_x3 q0 q1 q2 q3)) = (0 : Int32)
    · rw [if_pos h1]
      exact Or.inr rfl
    · rw [if_neg h1]
      exact Or.inl rfl
def own_law_v325_2_S0 (q0 : Int32) (q1 : Int32) (q2 : Int32) (q3 : Int32) : Int32 := (if (own_law_v294_1_S0 q0 q1 q2 q3) = (0 : Int32) then (0 : Int32) else (if (own_f1_ret q3) = (0 : Int32) then (1 : Int32) else (0 : Int32)))
theorem own_law_v325_2_S0_01 (q0 : Int32) (q1 : Int32) (q2 : Int32) (q3 : Int32) : (own_law_v325_2_S0 q0 q1 q2 q3) = 0 ∨ (own_law_v325_2_S0 q0 q1 q2 q3) = 1 := by
  unfold own_law_v325_2_S0
  by_cases h0 : (own_law_v294_1_S0 q0 q1 q2 q3) = (0 : Int32)
  · rw [if_pos h0]
    exact Or.inl rfl
  · rw [if_neg h0]
    by_cases h1 : (own_f1_ret q3) = (0 : Int32)
    · rw [if_pos h1]
      exact Or.inr rfl
    · rw [if_neg h1]
      exact Or.inl rfl
def own_law_v327_4_L8 (q0 : Int32) (q1 : Int32) (q2 : Int32) (q3 : Int32) : Int32 := (if q3 < (65 : Int32) then (own_law_v325_2_S0 q0 q1 q2 q3) else (if (983039 : Int32) < q3 then (own_law_v325_2_S0 q0 q1 q2 q3) else (own_law_v294_1_S0 q0 q1 q2 q3)))
theorem own_law_v327_4_L8_01 (q0 : Int32) (q1 : Int32) (q2 : Int32) (q3 : Int32) : (own_law_v327_4_L8 q0 q1 q2 q3) = 0 ∨ (own_law_v327_4_L8 q0 q1 q2 q3) = 1 := by
  unfold own_law_v327_4_L8
  by_cases h0 : q3 < (65 : Int32)
  · rw [if_pos h0]
    exact (own_law_v325_2_S0_01 q0 q1 q2 q3)
  · rw [if_neg h0]
    by_cases h1 : (983039 : Int32) < q3
    · rw [if_pos h1]
      exact (own_law_v325_2_S0_01 q0 q1 q2 q3)
    · rw [if_neg h1]
      exact (own_law_v294_1_S0_01 q0 q1 q2 q3)
def own_law_x4 (q0 : Int32) (q1 : Int32) (q2 : Int32) (q3 : Int32) : Int32 := ((95 : Int32) + ((q1 &&& (2147483647 : Int32)) % (1 : Int32)))
def own_law_x5 (q0 : Int32) (q1 : Int32) (q2 : Int32) (q3 : Int32) : Int32 := (own_f1_ret (own_law_x4 q0 q1 q2 q3))
def own_law_x6 (q0 : Int32) (q1 : Int32) (q2 : Int32) (q3 : Int32) : Int32 := ((96 : Int32) + ((q2 &&& (2147483647 : Int32)) % (1 : Int32)))
def own_law_v294_7_S0 (q0 : Int32) (q1 : Int32) (q2 : Int32) (q3 : Int32) : Int32 := (if (own_law_x5 q0 q1 q2 q3) = (0 : Int32) then (0 : Int32) else (if (own_f1_ret (own_law_x6 q0 q1 q2 q3)) = (0 : Int32) then (1 : Int32) else (0 : Int32)))
theorem own_law_v294_7_S0_01 (q0 : Int32) (q1 : Int32) (q2 : Int32) (q3 : Int32) : (own_law_v294_7_S0 q0 q1 q2 q3) = 0 ∨ (own_law_v294_7_S0 q0 q1 q2 q3) = 1 := by
  unfold own_law_v294_7_S0
  by_cases h0 : (own_law_x5 q0 q1 q2 q3) = (0 : Int32)
  · rw [if_pos h0]
    exact Or.inl rfl
  · rw [if_neg h0]
    by_cases h1 : (own_f1_ret (own_law_x6 q0 q1 q2 q3)) = (0 : Int32)
    · rw [if_pos h1]
      exact Or.inr rfl
    · rw [if_neg h1]
      exact Or.inl rfl
def own_law_v325_8_S0 (q0 : Int32) (q1 : Int32) (q2 : Int32) (q3 : Int32) : Int32 := (if (own_law_v294_7_S0 q0 q1 q2 q3) = (0 : Int32) then (0 : Int32) else (if (own_f1_ret q3) = (0 : Int32) then (1 : Int32) else (0 : Int32)))
theorem own_law_v325_8_S0_01 (q0 : Int32) (q1 : Int32) (q2 : Int32) (q3 : Int32) : (own_law_v325_8_S0 q0 q1 q2 q3) = 0 ∨ (own_law_v325_8_S0 q0 q1 q2 q3) = 1 := by
  unfold own_law_v325_8_S0
  by_cases h0 : (own_law_v294_7_S0 q0 q1 q2 q3) = (0 : Int32)
  · rw [if_pos h0]
    exact Or.inl rfl
  · rw [if_neg h0]
    by_cases h1 : (own_f1_ret q3) = (0 : Int32)
    · rw [if_pos h1]
      exact Or.inr rfl
    · rw [if_neg h1]
      exact Or.inl rfl
def own_law_v327_10_L8 (q0 : Int32) (q1 : Int32) (q2 : Int32) (q3 : Int32) : Int32 := (if q3 < (65 : Int32) then (own_law_v325_8_S0 q0 q1 q2 q3) else (if (983039 : Int32) < q3 then (own_law_v325_8_S0 q0 q1 q2 q3) else (own_law_v294_7_S0 q0 q1 q2 q3)))
theorem own_law_v327_10_L8_01 (q0 : Int32) (q1 : Int32) (q2 : Int32) (q3 : Int32) : (own_law_v327_10_L8 q0 q1 q2 q3) = 0 ∨ (own_law_v327_10_L8 q0 q1 q2 q3) = 1 := by
  unfold own_law_v327_10_L8
  by_cases h0 : q3 < (65 : Int32)
  · rw [if_pos h0]
    exact (own_law_v325_8_S0_01 q0 q1 q2 q3)
  · rw [if_neg h0]
    by_cases h1 : (983039 : Int32) < q3
    · rw [if_pos h1]
      exact (own_law_v325_8_S0_01 q0 q1 q2 q3)
    · rw [if_neg h1]
      exact (own_law_v294_7_S0_01 q0 q1 q2 q3)
def own_law_x7 (q0 : Int32) (q1 : Int32) (q2 : Int32) (q3 : Int32) : Int32 := ((97 : Int32) + ((q1 &&& (2147483647 : Int32)) % (26 : Int32)))
def own_law_x8 (q0 : Int32) (q1 : Int32) (q2 : Int32) (q3 : Int32) : Int32 := (own_f1_ret (own_law_x7 q0 q1 q2 q3))
def own_law_x9 (q0 : Int32) (q1 : Int32) (q2 : Int32) (q3 : Int32) : Int32 := ((123 : Int32) + ((q2 &&& (2147483647 : Int32)) % (69 : Int32)))
def own_law_v294_13_S0 (q0 : Int32) (q1 : Int32) (q2 : Int32) (q3 : Int32) : Int32 := (if (own_law_x8 q0 q1 q2 q3) = (0 : Int32) then (0 : Int32) else (if (own_f1_ret (own_law_x9 q0 q1 q2 q3)) = (0 : Int32) then (1 : Int32) else (0 : Int32)))
theorem own_law_v294_13_S0_01 (q0 : Int32) (q1 : Int32) (q2 : Int32) (q3 : Int32) : (own_law_v294_13_S0 q0 q1 q2 q3) = 0 ∨ (own_law_v294_13_S0 q0 q1 q2 q3) = 1 := by
  unfold own_law_v294_13_S0
  by_cases h0 : (own_law_x8 q0 q1 q2 q3) = (0 : Int32)
  · rw [if_pos h0]
    exact Or.inl rfl
  · rw [if_neg h0]
    by_cases h1 : (own_f1_ret (own_law_x9 q0 q1 q2 q3)) = (0 : Int32)
    · rw [if_pos h1]
      exact Or.inr rfl
    · rw [if_neg h1]
      exact Or.inl rfl
def own_law_v325_14_S0 (q0 : Int32) (q1 : Int32) (q2 : Int32) (q3 : Int32) : Int32 := (if (own_law_v294_13_S0 q0 q1 q2 q3) = (0 : Int32) then (0 : Int32) else (if (own_f1_ret q3) = (0 : Int32) then (1 : Int32) else (0 : Int32)))
theorem own_law_v325_14_S0_01 (q0 : Int32) (q1 : Int32) (q2 : Int32) (q3 : Int32) : (own_law_v325_14_S0 q0 q1 q2 q3) = 0 ∨ (own_law_v325_14_S0 q0 q1 q2 q3) = 1 := by
  unfold own_law_v325_14_S0
  by_cases h0 : (own_law_v294_13_S0 q0 q1 q2 q3) = (0 : Int32)
  · rw [if_pos h0]
    exact Or.inl rfl
  · rw [if_neg h0]
    by_cases h1 : (own_f1_ret q3) = (0 : Int32)
    · rw [if_pos h1]
      exact Or.inr rfl
    · rw [if_neg h1]
      exact Or.inl rfl
def own_law_v327_16_L8 (q0 : Int32) (q1 : Int32) (q2 : Int32) (q3 : Int32) : Int32 := (if q3 < (65 : Int32) then (own_law_v325_14_S0 q0 q1 q2 q3) else (if (983039 : Int32) < q3 then (own_law_v325_14_S0 q0 q1 q2 q3) else (own_law_v294_13_S0 q0 q1 q2 q3)))
theorem own_law_v327_16_L8_01 (q0 : Int32) (q1 : Int32) (q2 : Int32) (q3 : Int32) : (own_law_v327_16_L8 q0 q1 q2 q3) = 0 ∨ (own_law_v327_16_L8 q0 q1 q2 q3) = 1 := by
  unfold own_law_v327_16_L8
  by_cases h0 : q3 < (65 : Int32)
  · rw [if_pos h0]
    exact (own_law_v325_14_S0_01 q0 q1 q2 q3)
  · rw [if_neg h0]
    by_cases h1 : (983039 : Int32) < q3
    · rw [if_pos h1]
      exact (own_law_v325_14_S0_01 q0 q1 q2 q3)
    · rw [if_neg h1]
      exact (own_law_v294_13_S0_01 q0 q1 q2 q3)
def own_law_x10 (q0 : Int32) (q1 : Int32) (q2 : Int32) (q3 : Int32) : Int32 := ((192 : Int32) + ((q1 &&& (2147483647 : Int32)) % (23 : Int32)))
def own_law_x11 (q0 : Int32) (q1 : Int32) (q2 : Int32) (q3 : Int32) : Int32 := (own_f1_ret (own_law_x10 q0 q1 q2 q3))
def own_law_x12 (q0 : Int32) (q1 : Int32) (q2 : Int32) (q3 : Int32) : Int32 := ((215 : Int32) + ((q2 &&& (2147483647 : Int32)) % (1 : Int32)))
def own_law_v294_19_S0 (q0 : Int32) (q1 : Int32) (q2 : Int32) (q3 : Int32) : Int32 := (if (own_law_x11 q0 q1 q2 q3) = (0 : Int32) then (0 : Int32) else (if (own_f1_ret (own_law_x12 q0 q1 q2 q3)) = (0 : Int32) then (1 : Int32) else (0 : Int32)))
theorem own_law_v294_19_S0_01 (q0 : Int32) (q1 : Int32) (q2 : Int32) (q3 : Int32) : (own_law_v294_19_S0 q0 q1 q2 q3) = 0 ∨ (own_law_v294_19_S0 q0 q1 q2 q3) = 1 := by
  unfold own_law_v294_19_S0
  by_cases h0 : (own_law_x11 q0 q1 q2 q3) = (0 : Int32)
  · rw [if_pos h0]
    exact Or.inl rfl
  · rw [if_neg h0]
    by_cases h1 : (own_f1_ret (own_law_x12 q0 q1 q2 q3)) = (0 : Int32)
    · rw [if_pos h1]
      exact Or.inr rfl
    · rw [if_neg h1]
      exact Or.inl rfl
def own_law_v325_20_S0 (q0 : Int32) (q1 : Int32) (q2 : Int32) (q3 : Int32) : Int32 := (if (own_law_v294_19_S0 q0 q1 q2 q3) = (0 : Int32) then (0 : Int32) else (if (own_f1_ret q3) = (0 : Int32) then (1 : Int32) else (0 : Int32)))
theorem own_law_v325_20_S0_01 (q0 : Int32) (q1 : Int32) (q2 : Int32) (q3 : Int32) : (own_law_v325_20_S0 q0 q1 q2 q3) = 0 ∨ (own_law_v325_20_S0 q0 q1 q2 q3) = 1 := by
  unfold own_law_v325_20_S0
  by_cases h0 : (own_law_v294_19_S0 q0 q1 q2 q3) = (0 : Int32)
  · rw [if_pos h0]
    exact Or.inl rfl
  · rw [if_neg h0]
    by_cases h1 : (own_f1_ret q3) = (0 : Int32)
    · rw [if_pos h1]
      exact Or.inr rfl
    · rw [if_neg h1]
      exact Or.inl rfl
def own_law_v327_22_L8 (q0 : Int32) (q1 : Int32) (q2 : Int32) (q3 : Int32) : Int32 := (if q3 < (65 : Int32) then (own_law_v325_20_S0 q0 q1 q2 q3) else (if (983039 : Int32) < q3 then (own_law_v325_20_S0 q0 q1 q2 q3) else (own_law_v294_19_S0 q0 q1 q2 q3)))
theorem own_law_v327_22_L8_01 (q0 : Int32) (q1 : Int32) (q2 : Int32) (q3 : Int32) : (own_law_v327_22_L8 q0 q1 q2 q3) = 0 ∨ (own_law_v327_22_L8 q0 q1 q2 q3) = 1 := by
  unfold own_law_v327_22_L8
  by_cases h0 : q3 < (65 : Int32)
  · rw [if_pos h0]
    exact (own_law_v325_20_S0_01 q0 q1 q2 q3)
  · rw [if_neg h0]
    by_cases h1 : (983039 : Int32) < q3
    · rw [if_pos h1]
      exact (own_law_v325_20_S0_01 q0 q1 q2 q3)
    · rw [if_neg h1]
      exact (own_law_v294_19_S0_01 q0 q1 q2 q3)
def own_law_x13 (q0 : Int32) (q1 : Int32) (q2 : Int32) (q3 : Int32) : Int32 := ((216 : Int32) + ((q1 &&& (2147483647 : Int32)) % (31 : Int32)))
def own_law_x14 (q0 : Int32) (q1 : Int32) (q2 : Int32) (q3 : Int32) : Int32 := (own_f1_ret (own_law_x13 q0 q1 q2 q3))
def own_law_x15 (q0 : Int32) (q1 : Int32) (q2 : Int32) (q3 : Int32) : Int32 := ((247 : Int32) + ((q2 &&& (2147483647 : Int32)) % (1 : Int32)))
def own_law_v294_25_S0 (q0 : Int32) (q1 : Int32) (q2 : Int32) (q3 : Int32) : Int32 := (if (own_law_x14 q0 q1 q2 q3) = (0 : Int32) then (0 : Int32) else (if (own_f1_ret (own_law_x15 q0 q1 q2 q3)) = (0 : Int32) then (1 : Int32) else (0 : Int32)))
theorem own_law_v294_25_S0_01 (q0 : Int32) (q1 : Int32) (q2 : Int32) (q3 : Int32) : (own_law_v294_25_S0 q0 q1 q2 q3) = 0 ∨ (own_law_v294_25_S0 q0 q1 q2 q3) = 1 := by
  unfold own_law_v294_25_S0
  by_cases h0 : (own_law_x14 q0 q1 q2 q3) = (0 : Int32)
  · rw [if_pos h0]
    exact Or.inl rfl
  · rw [if_neg h0]
    by_cases h1 : (own_f1_ret (own_law_x15 q0 q1 q2 q3)) = (0 : Int32)
    · rw [if_pos h1]
      exact Or.inr rfl
    · rw [if_neg h1]
      exact Or.inl rfl
def own_law_v325_26_S0 (q0 : Int32) (q1 : Int32) (q2 : Int32) (q3 : Int32) : Int32 := (if (own_law_v294_25_S0 q0 q1 q2 q3) = (0 : Int32) then (0 : Int32) else (if (own_f1_ret q3) = (0 : Int32) then (1 : Int32) else (0 : Int32)))
theorem own_law_v325_26_S0_01 (q0 : Int32) (q1 : Int32) (q2 : Int32) (q3 : Int32) : (own_law_v325_26_S0 q0 q1 q2 q3) = 0 ∨ (own_law_v325_26_S0 q0 q1 q2 q3) = 1 := by
  unfold own_law_v325_26_S0
  by_cases h0 : (own_law_v294_25_S0 q0 q1 q2 q3) = (0 : Int32)
  · rw [if_pos h0]
    exact Or.inl rfl
  · rw [if_neg h0]
    by_cases h1 : (own_f1_ret q3) = (0 : Int32)
    · rw [if_pos h1]
      exact Or.inr rfl
    · rw [if_neg h1]
      exact Or.inl rfl
def own_law_v327_28_L8 (q0 : Int32) (q1 : Int32) (q2 : Int32) (q3 : Int32) : Int32 := (if q3 < (65 : Int32) then (own_law_v325_26_S0 q0 q1 q2 q3) else (if (983039 : Int32) < q3 then (own_law_v325_26_S0 q0 q1 q2 q3) else (own_law_v294_25_S0 q0 q1 q2 q3)))
theorem own_law_v327_28_L8_01 (q0 : Int32) (q1 : Int32) (q2 : Int32) (q3 : Int32) : (own_law_v327_28_L8 q0 q1 q2 q3) = 0 ∨ (own_law_v327_28_L8 q0 q1 q2 q3) = 1 := by
  unfold own_law_v327_28_L8
  by_cases h0 : q3 < (65 : Int32)
  · rw [if_pos h0]
    exact (own_law_v325_26_S0_01 q0 q1 q2 q3)
  · rw [if_neg h0]
    by_cases h1 : (983039 : Int32) < q3
    · rw [if_pos h1]
      exact (own_law_v325_26_S0_01 q0 q1 q2 q3)
    · rw [if_neg h1]
      exact (own_law_v294_25_S0_01 q0 q1 q2 q3)
def own_law_x16 (q0 : Int32) (q1 : Int32) (q2 : Int32) (q3 : Int32) : Int32 := ((248 : Int32) + ((q1 &&& (2147483647 : Int32)) % (520 : Int32)))
def own_law_x17 (q0 : Int32) (q1 : Int32) (q2 : Int32) (q3 : Int32) : Int32 := (own_f1_ret (own_law_x16 q0 q1 q2 q3))
def own_law_x18 (q0 : Int32) (q1 : Int32) (q2 : Int32) (q3 : Int32) : Int32 := ((768 : Int32) + ((q2 &&& (2147483647 : Int32)) % (112 : Int32)))
def own_law_v294_31_S0 (q0 : Int32) (q1 : Int32) (q2 : Int32) (q3 : Int32) : Int32 := (if (own_law_x17 q0 q1 q2 q3) = (0 : Int32) then (0 : Int32) else (if (own_f1_ret (own_law_x18 q0 q1 q2 q3)) = (0 : Int32) then (1 : Int32) else (0 : Int32)))
theorem own_law_v294_31_S0_01 (q0 : Int32) (q1 : Int32) (q2 : Int32) (q3 : Int32) : (own_law_v294_31_S0 q0 q1 q2 q3) = 0 ∨ (own_law_v294_31_S0 q0 q1 q2 q3) = 1 := by
  unfold own_law_v294_31_S0
  by_cases h0 : (own_law_x17 q0 q1 q2 q3) = (0 : Int32)
  · rw [if_pos h0]
    exact Or.inl rfl
  · rw [if_neg h0]
    by_cases h1 : (own_f1_ret (own_law_x18 q0 q1 q2 q3)) = (0 : Int32)
    · rw [if_pos h1]
      exact Or.inr rfl
    · rw [if_neg h1]
      exact Or.inl rfl
def own_law_v325_32_S0 (q0 : Int32) (q1 : Int32) (q2 : Int32) (q3 : Int32) : Int32 := (if (own_law_v294_31_S0 q0 q1 q2 q3) = (0 : Int32) then (0 : Int32) else (if (own_f1_ret q3) = (0 : Int32) then (1 : Int32) else (0 : Int32)))
theorem own_law_v325_32_S0_01 (q0 : Int32) (q1 : Int32) (q2 : Int32) (q3 : Int32) : (own_law_v325_32_S0 q0 q1 q2 q3) = 0 ∨ (own_law_v325_32_S0 q0 q1 q2 q3) = 1 := by
  unfold own_law_v325_32_S0
  by_cases h0 : (own_law_v294_31_S0 q0 q1 q2 q3) = (0 : Int32)
  · rw [if_pos h0]
    exact Or.inl rfl
  · rw [if_neg h0]
    by_cases h1 : (own_f1_ret q3) = (0 : Int32)
    · rw [if_pos h1]
      exact Or.inr rfl
    · rw [if_neg h1]
      exact Or.inl rfl
def own_law_v327_34_L8 (q0 : Int32) (q1 : Int32) (q2 : Int32) (q3 : Int32) : Int32 := (if q3 < (65 : Int32) then (own_law_v325_32_S0 q0 q1 q2 q3) else (if (983039 : Int32) < q3 then (own_law_v325_32_S0 q0 q1 q2 q3) else (own_law_v294_31_S0 q0 q1 q2 q3)))
theorem own_law_v327_34_L8_01 (q0 : Int32) (q1 : Int32) (q2 : Int32) (q3 : Int32) : (own_law_v327_34_L8 q0 q1 q2 q3) = 0 ∨ (own_law_v327_34_L8 q0 q1 q2 q3) = 1 := by
  unfold own_law_v327_34_L8
  by_cases h0 : q3 < (65 : Int32)
  · rw [if_pos h0]
    exact (own_law_v325_32_S0_01 q0 q1 q2 q3)
  · rw [if_neg h0]
    by_cases h1 : (983039 : Int32) < q3
    · rw [if_pos h1]
      exact (own_law_v325_32_S0_01 q0 q1 q2 q3)
    · rw [if_neg h1]
      exact (own_law_v294_31_S0_01 q0 q1 q2 q3)
def own_law_x19 (q0 : Int32) (q1 : Int32) (q2 : Int32) (q3 : Int32) : Int32 := ((880 : Int32) + ((q1 &&& (2147483647 : Int32)) % (14 : Int32)))
def own_law_x20 (q0 : Int32) (q1 : Int32) (q2 : Int32) (q3 : Int32) : Int32 := (own_f1_ret (own_law_x19 q0 q1 q2 q3))
def own_law_x21 (q0 : Int32) (q1 : Int32) (q2 : Int32) (q3 : Int32) : Int32 := ((894 : Int32) + ((q2 &&& (2147483647 : Int32)) % (1 : Int32)))
def own_law_v294_37_S0 (q0 : Int32) (q1 : Int32) (q2 : Int32) (q3 : Int32) : Int32 := (if (own_law_x20 q0 q1 q2 q3) = (0 : Int32) then (0 : Int32) else (if (own_f1_ret (own_law_x21 q0 q1 q2 q3)) = (0 : Int32) then (1 : Int32) else (0 : Int32)))
theorem own_law_v294_37_S0_01 (q0 : Int32) (q1 : Int32) (q2 : Int32) (q3 : Int32) : (own_law_v294_37_S0 q0 q1 q2 q3) = 0 ∨ (own_law_v294_37_S0 q0 q1 q2 q3) = 1 := by
  unfold own_law_v294_37_S0
  by_cases h0 : (own_law_x20 q0 q1 q2 q3) = (0 : Int32)
  · rw [if_pos h0]
    exact Or.inl rfl
  · rw [if_neg h0]
    by_cases h1 : (own_f1_ret (own_law_x21 q0 q1 q2 q3)) = (0 : Int32)
    · rw [if_pos h1]
      exact Or.inr rfl
    · rw [if_neg h1]
      exact Or.inl rfl
def own_law_v325_38_S0 (q0 : Int32) (q1 : Int32) (q2 : Int32) (q3 : Int32) : Int32 := (if (own_law_v294_37_S0 q0 q1 q2 q3) = (0 : Int32) then (0 : Int32) else (if (own_f1_ret q3) = (0 : Int32) then (1 : Int32) else (0 : Int32)))
theorem own_law_v325_38_S0_01 (q0 : Int32) (q1 : Int32) (q2 : Int32) (q3 : Int32) : (own_law_v325_38_S0 q0 q1 q2 q3) = 0 ∨ (own_law_v325_38_S0 q0 q1 q2 q3) = 1 := by
  unfold own_law_v325_38_S0
  by_cases h0 : (own_law_v294_37_S0 q0 q1 q2 q3) = (0 : Int32)
  · rw [if_pos h0]
    exact Or.inl rfl
  · rw [if_neg h0]
    by_cases h1 : (own_f1_ret q3) = (0 : Int32)
    · rw [if_pos h1]
      exact Or.inr rfl
    · rw [if_neg h1]
      exact Or.inl rfl
def own_law_v327_40_L8 (q0 : Int32) (q1 : Int32) (q2 : Int32) (q3 : Int32) : Int32 := (if q3 < (65 : Int32) then (own_law_v325_38_S0 q0 q1 q2 q3) else (if (983039 : Int32) < q3 then (own_law_v325_38_S0 q0 q1 q2 q3) else (own_law_v294_37_S0 q0 q1 q2 q3)))
theorem own_law_v327_40_L8_01 (q0 : Int32) (q1 : Int32) (q2 : Int32) (q3 : Int32) : (own_law_v327_40_L8 q0 q1 q2 q3) = 0 ∨ (own_law_v327_40_L8 q0 q1 q2 q3) = 1 := by
  unfold own_law_v327_40_L8
  by_cases h0 : q3 < (65 : Int32)
  · rw [if_pos h0]
    exact (own_law_v325_38_S0_01 q0 q1 q2 q3)
  · rw [if_neg h0]
    by_cases h1 : (983039 : Int32) < q3
    · rw [if_pos h1]
      exact (own_law_v325_38_S0_01 q0 q1 q2 q3)
    · rw [if_neg h1]
      exact (own_law_v294_37_S0_01 q0 q1 q2 q3)
def own_law_x22 (q0 : Int32) (q1 : Int32) (q2 : Int32) (q3 : Int32) : Int32 := ((895 : Int32) + ((q1 &&& (2147483647 : Int32)) % (7297 : Int32)))
def own_law_x23 (q0 : Int32) (q1 : Int32) (q2 : Int32) (q3 : Int32) : Int32 := (own_f1_ret (own_law_x22 q0 q1 q2 q3))
def own_law_x24 (q0 : Int32) (q1 : Int32) (q2 : Int32) (q3 : Int32) : Int32 := ((8192 : Int32) + ((q2 &&& (2147483647 : Int32)) % (12 : Int32)))
def own_law_v294_43_S0 (q0 : Int32) (q1 : Int32) (q2 : Int32) (q3 : Int32) : Int32 := (if (own_law_x23 q0 q1 q2 q3) = (0 : Int32) then (0 : Int32) else (if (own_f1_ret (own_law_x24 q0 q1 q2 q3)) = (0 : Int32) then (1 : Int32) else (0 : Int32)))
theorem own_law_v294_43_S0_01 (q0 : Int32) (q1 : Int32) (q2 : Int32) (q3 : Int32) : (own_law_v294_43_S0 q0 q1 q2 q3) = 0 ∨ (own_law_v294_43_S0 q0 q1 q2 q3) = 1 := by
  unfold own_law_v294_43_S0
  by_cases h0 : (own_law_x23 q0 q1 q2 q3) = (0 : Int32)
  · rw [if_pos h0]
    exact Or.inl rfl
  · rw [if_neg h0]
    by_cases h1 : (own_f1_ret (own_law_x24 q0 q1 q2 q3)) = (0 : Int32)
    · rw [if_pos h1]
      exact Or.inr rfl
    · rw [if_neg h1]
      exact Or.inl rfl
def own_law_v325_44_S0 (q0 : Int32) (q1 : Int32) (q2 : Int32) (q3 : Int32) : Int32 := (if (own_law_v294_43_S0 q0 q1 q2 q3) = (0 : Int32) then (0 : Int32) else (if (own_f1_ret q3) = (0 : Int32) then (1 : Int32) else (0 : Int32)))
theorem own_law_v325_44_S0_01 (q0 : Int32) (q1 : Int32) (q2 : Int32) (q3 : Int32) : (own_law_v325_44_S0 q0 q1 q2 q3) = 0 ∨ (own_law_v325_44_S0 q0 q1 q2 q3) = 1 := by
  unfold own_law_v325_44_S0
  by_cases h0 : (own_law_v294_43_S0 q0 q1 q2 q3) = (0 : Int32)
  · rw [if_pos h0]
    exact Or.inl rfl
  · rw [if_neg h0]
    by_cases h1 : (own_f1_ret q3) = (0 : Int32)
    · rw [if_pos h1]
      exact Or.inr rfl
    · rw [if_neg h1]
      exact Or.inl rfl
def own_law_v327_46_L8 (q0 : Int32) (q1 : Int32) (q2 : Int32) (q3 : Int32) : Int32 := (if q3 < (65 : Int32) then (own_law_v325_44_S0 q0 q1 q2 q3) else (if (983039 : Int32) < q3 then (own_law_v325_44_S0 q0 q1 q2 q3) else (own_law_v294_43_S0 q0 q1 q2 q3)))
theorem own_law_v327_46_L8_01 (q0 : Int32) (q1 : Int32) (q2 : Int32) (q3 : Int32) : (own_law_v327_46_L8 q0 q1 q2 q3) = 0 ∨ (own_law_v327_46_L8 q0 q1 q2 q3) = 1 := by
  unfold own_law_v327_46_L8
  by_cases h0 : q3 < (65 : Int32)
  · rw [if_pos h0]
    exact (own_law_v325_44_S0_01 q0 q1 q2 q3)
  · rw [if_neg h0]
    by_cases h1 : (983039 : Int32) < q3
    · rw [if_pos h1]
      exact (own_law_v325_44_S0_01 q0 q1 q2 q3)
    · rw [if_neg h1]
      exact (own_law_v294_43_S0_01 q0 q1 q2 q3)
def own_law_x25 (q0 : Int32) (q1 : Int32) (q2 : Int32) (q3 : Int32) : Int32 := ((8204 : Int32) + ((q1 &&& (2147483647 : Int32)) % (2 : Int32)))
def own_law_x26 (q0 : Int32) (q1 : Int32) (q2 : Int32) (q3 : Int32) : Int32 := (own_f1_ret (own_law_x25 q0 q1 q2 q3))
def own_law_x27 (q0 : Int32) (q1 : Int32) (q2 : Int32) (q3 : Int32) : Int32 := ((8206 : Int32) + ((q2 &&& (2147483647 : Int32)) % (98 : Int32)))
def own_law_v294_49_S0 (q0 : Int32) (q1 : Int32) (q2 : Int32) (q3 : Int32) : Int32 := (if (own_law_x26 q0 q1 q2 q3) = (0 : Int32) then (0 : Int32) else (if (own_f1_ret (own_law_x27 q0 q1 q2 q3)) = (0 : Int32) then (1 : Int32) else (0 : Int32)))
theorem own_law_v294_49_S0_01 (q0 : Int32) (q1 : Int32) (q2 : Int32) (q3 : Int32) : (own_law_v294_49_S0 q0 q1 q2 q3) = 0 ∨ (own_law_v294_49_S0 q0 q1 q2 q3) = 1 := by
  unfold own_law_v294_49_S0
  by_cases h0 : (own_law_x26 q0 q1 q2 q3) = (0 : Int32)
  · rw [if_pos h0]
    exact Or.inl rfl
  · rw [if_neg h0]
    by_cases h1 : (own_f1_ret (own_law_x27 q0 q1 q2 q3)) = (0 : Int32)
    · rw [if_pos h1]
      exact Or.inr rfl
    · rw [if_neg h1]
      exact Or.inl rfl
def own_law_v325_50_S0 (q0 : Int32) (q1 : Int32) (q2 : Int32) (q3 : Int32) : Int32 := (if (own_law_v294_49_S0 q0 q1 q2 q3) = (0 : Int32) then (0 : Int32) else (if (own_f1_ret q3) = (0 : Int32) then (1 : Int32) else (0 : Int32)))
theorem own_law_v325_50_S0_01 (q0 : Int32) (q1 : Int32) (q2 : Int32) (q3 : Int32) : (own_law_v325_50_S0 q0 q1 q2 q3) = 0 ∨ (own_law_v325_50_S0 q0 q1 q2 q3) = 1 := by
  unfold own_law_v325_50_S0
  by_cases h0 : (own_law_v294_49_S0 q0 q1 q2 q3) = (0 : Int32)
  · rw [if_pos h0]
    exact Or.inl rfl
  · rw [if_neg h0]
    by_cases h1 : (own_f1_ret q3) = (0 : Int32)
    · rw [if_pos h1]
      exact Or.inr rfl
    · rw [if_neg h1]
      exact Or.inl rfl
def own_law_v327_52_L8 (q0 : Int32) (q1 : Int32) (q2 : Int32) (q3 : Int32) : Int32 := (if q3 < (65 : Int32) then (own_law_v325_50_S0 q0 q1 q2 q3) else (if (983039 : Int32) < q3 then (own_law_v325_50_S0 q0 q1 q2 q3) else (own_law_v294_49_S0 q0 q1 q2 q3)))
theorem own_law_v327_52_L8_01 (q0 : Int32) (q1 : Int32) (q2 : Int32) (q3 : Int32) : (own_law_v327_52_L8 q0 q1 q2 q3) = 0 ∨ (own_law_v327_52_L8 q0 q1 q2 q3) = 1 := by
  unfold own_law_v327_52_L8
  by_cases h0 : q3 < (65 : Int32)
  · rw [if_pos h0]
    exact (own_law_v325_50_S0_01 q0 q1 q2 q3)
  · rw [if_neg h0]
    by_cases h1 : (983039 : Int32) < q3
    · rw [if_pos h1]
      exact (own_law_v325_50_S0_01 q0 q1 q2 q3)
    · rw [if_neg h1]
      exact (own_law_v294_49_S0_01 q0 q1 q2 q3)
def own_law_x28 (q0 : Int32) (q1 : Int32) (q2 : Int32) (q3 : Int32) : Int32 := ((8304 : Int32) + ((q1 &&& (2147483647 : Int32)) % (288 : Int32)))
def own_law_x29 (q0 : Int32) (q1 : Int32) (q2 : Int32) (q3 : Int32) : Int32 := (own_f1_ret (own_law_x28 q0 q1 q2 q3))
def own_law_x30 (q0 : Int32) (q1 : Int32) (q2 : Int32) (q3 : Int32) : Int32 := ((8592 : Int32) + ((q2 &&& (2147483647 : Int32)) % (2672 : Int32)))
def own_law_v294_55_S0 (q0 : Int32) (q1 : Int32) (q2 : Int32) (q3 : Int32) : Int32 := (if (own_law_x29 q0 q1 q2 q3) = (0 : Int32) then (0 : Int32) else (if (own_f1_ret (own_law_x30 q0 q1 q2 q3)) = (0 : Int32) then (1 : Int32) else (0 : Int32)))
theorem own_law_v294_55_S0_01 (q0 : Int32) (q1 : Int32) (q2 : Int32) (q3 : Int32) : (own_law_v294_55_S0 q0 q1 q2 q3) = 0 ∨ (own_law_v294_55_S0 q0 q1 q2 q3) = 1 := by
  unfold own_law_v294_55_S0
  by_cases h0 : (own_law_x29 q0 q1 q2 q3) = (0 : Int32)
  · rw [if_pos h0]
    exact Or.inl rfl
  · rw [if_neg h0]
    by_cases h1 : (own_f1_ret (own_law_x30 q0 q1 q2 q3)) = (0 : Int32)
    · rw [if_pos h1]
      exact Or.inr rfl
    · rw [if_neg h1]
      exact Or.inl rfl
def own_law_v325_56_S0 (q0 : Int32) (q1 : Int32) (q2 : Int32) (q3 : Int32) : Int32 := (if (own_law_v294_55_S0 q0 q1 q2 q3) = (0 : Int32) then (0 : Int32) else (if (own_f1_ret q3) = (0 : Int32) then (1 : Int32) else (0 : Int32)))
theorem own_law_v325_56_S0_01 (q0 : Int32) (q1 : Int32) (q2 : Int32) (q3 : Int32) : (own_law_v325_56_S0 q0 q1 q2 q3) = 0 ∨ (own_law_v325_56_S0 q0 q1 q2 q3) = 1 := by
  unfold own_law_v325_56_S0
  by_cases h0 : (own_law_v294_55_S0 q0 q1 q2 q3) = (0 : Int32)
  · rw [if_pos h0]
    exact Or.inl rfl
  · rw [if_neg h0]
    by_cases h1 : (own_f1_ret q3) = (0 : Int32)
    · rw [if_pos h1]
      exact Or.inr rfl
    · rw [if_neg h1]
      exact Or.inl rfl
def own_law_v327_58_L8 (q0 : Int32) (q1 : Int32) (q2 : Int32) (q3 : Int32) : Int32 := (if q3 < (65 : Int32) then (own_law_v325_56_S0 q0 q1 q2 q3) else (if (983039 : Int32) < q3 then (own_law_v325_56_S0 q0 q1 q2 q3) else (own_law_v294_55_S0 q0 q1 q2 q3)))
theorem own_law_v327_58_L8_01 (q0 : Int32) (q1 : Int32) (q2 : Int32) (q3 : Int32) : (own_law_v327_58_L8 q0 q1 q2 q3) = 0 ∨ (own_law_v327_58_L8 q0 q1 q2 q3) = 1 := by
  unfold own_law_v327_58_L8
  by_cases h0 : q3 < (65 : Int32)
  · rw [if_pos h0]
    exact (own_law_v325_56_S0_01 q0 q1 q2 q3)
  · rw [if_neg h0]
    by_cases h1 : (983039 : Int32) < q3
    · rw [if_pos h1]
      exact (own_law_v325_56_S0_01 q0 q1 q2 q3)
    · rw [if_neg h1]
      exact (own_law_v294_55_S0_01 q0 q1 q2 q3)
def own_law_x31 (q0 : Int32) (q1 : Int32) (q2 : Int32) (q3 : Int32) : Int32 := ((11264 : Int32) + ((q1 &&& (2147483647 : Int32)) % (1008 : Int32)))
def own_law_x32 (q0 : Int32) (q1 : Int32) (q2 : Int32) (q3 : Int32) : Int32 := (own_f1_ret (own_law_x31 q0 q1 q2 q3))
def own_law_x33 (q0 : Int32) (q1 : Int32) (q2 : Int32) (q3 : Int32) : Int32 := ((12272 : Int32) + ((q2 &&& (2147483647 : Int32)) % (17 : Int32)))
def own_law_v294_61_S0 (q0 : Int32) (q1 : Int32) (q2 : Int32) (q3 : Int32) : Int32 := (if (own_law_x32 q0 q1 q2 q3) = (0 : Int32) then (0 : Int32) else (if (own_f1_ret (own_law_x33 q0 q1 q2 q3)) = (0 : Int32) then (1 : Int32) else (0 : Int32)))
theorem own_law_v294_61_S0_01 (q0 : Int32) (q1 : Int32) (q2 : Int32) (q3 : Int32) : (own_law_v294_61_S0 q0 q1 q2 q3) = 0 ∨ (own_law_v294_61_S0 q0 q1 q2 q3) = 1 := by
  unfold own_law_v294_61_S0
  by_cases h0 : (own_law_x32 q0 q1 q2 q3) = (0 : Int32)
  · rw [if_pos h0]
    exact Or.inl rfl
  · rw [if_neg h0]
    by_cases h1 : (own_f1_ret (own_law_x33 q0 q1 q2 q3)) = (0 : Int32)
    · rw [if_pos h1]
      exact Or.inr rfl
    · rw [if_neg h1]
      exact Or.inl rfl
def own_law_v325_62_S0 (q0 : Int32) (q1 : Int32) (q2 : Int32) (q3 : Int32) : Int32 := (if (own_law_v294_61_S0 q0 q1 q2 q3) = (0 : Int32) then (0 : Int32) else (if (own_f1_ret q3) = (0 : Int32) then (1 : Int32) else (0 : Int32)))
theorem own_law_v325_62_S0_01 (q0 : Int32) (q1 : Int32) (q2 : Int32) (q3 : Int32) : (own_law_v325_62_S0 q0 q1 q2 q3) = 0 ∨ (own_law_v325_62_S0 q0 q1 q2 q3) = 1 := by
  unfold own_law_v325_62_S0
  by_cases h0 : (own_law_v294_61_S0 q0 q1 q2 q3) = (0 : Int32)
  · rw [if_pos h0]
    exact Or.inl rfl
  · rw [if_neg h0]
    by_cases h1 : (own_f1_ret q3) = (0 : Int32)
    · rw [if_pos h1]
      exact Or.inr rfl
    · rw [if_neg h1]
      exact Or.inl rfl
def own_law_v327_64_L8 (q0 : Int32) (q1 : Int32) (q2 : Int32) (q3 : Int32) : Int32 := (if q3 < (65 : Int32) then (own_law_v325_62_S0 q0 q1 q2 q3) else (if (983039 : Int32) < q3 then (own_law_v325_62_S0 q0 q1 q2 q3) else (own_law_v294_61_S0 q0 q1 q2 q3)))
theorem own_law_v327_64_L8_01 (q0 : Int32) (q1 : Int32) (q2 : Int32) (q3 : Int32) : (own_law_v327_64_L8 q0 q1 q2 q3) = 0 ∨ (own_law_v327_64_L8 q0 q1 q2 q3) = 1 := by
  unfold own_law_v327_64_L8
  by_cases h0 : q3 < (65 : Int32)
  · rw [if_pos h0]
    exact (own_law_v325_62_S0_01 q0 q1 q2 q3)
  · rw [if_neg h0]
    by_cases h1 : (983039 : Int32) < q3
    · rw [if_pos h1]
      exact (own_law_v325_62_S0_01 q0 q1 q2 q3)
    · rw [if_neg h1]
      exact (own_law_v294_61_S0_01 q0 q1 q2 q3)
def own_law_x34 (q0 : Int32) (q1 : Int32) (q2 : Int32) (q3 : Int32) : Int32 := ((12289 : Int32) + ((q1 &&& (2147483647 : Int32)) % (43007 : Int32)))
def own_law_x35 (q0 : Int32) (q1 : Int32) (q2 : Int32) (q3 : Int32) : Int32 := (own_f1_ret (own_law_x34 q0 q1 q2 q3))
def own_law_x36 (q0 : Int32) (q1 : Int32) (q2 : Int32) (q3 : Int32) : Int32 := ((55296 : Int32) + ((q2 &&& (2147483647 : Int32)) % (8448 : Int32)))
def own_law_v294_67_S0 (q0 : Int32) (q1 : Int32) (q2 : Int32) (q3 : Int32) : Int32 := (if (own_law_x35 q0 q1 q2 q3) = (0 : Int32) then (0 : Int32) else (if (own_f1_ret (own_law_x36 q0 q1 q2 q3)) = (0 : Int32) then (1 : Int32) else (0 : Int32)))
theorem own_law_v294_67_S0_01 (q0 : Int32) (q1 : Int32) (q2 : Int32) (q3 : Int32) : (own_law_v294_67_S0 q0 q1 q2 q3) = 0 ∨ (own_law_v294_67_S0 q0 q1 q2 q3) = 1 := by
  unfold own_law_v294_67_S0
  by_cases h0 : (own_law_x35 q0 q1 q2 q3) = (0 : Int32)
  · rw [if_pos h0]
    exact Or.inl rfl
  · rw [if_neg h0]
    by_cases h1 : (own_f1_ret (own_law_x36 q0 q1 q2 q3)) = (0 : Int32)
    · rw [if_pos h1]
      exact Or.inr rfl
    · rw [if_neg h1]
      exact Or.inl rfl
def own_law_v325_68_S0 (q0 : Int32) (q1 : Int32) (q2 : Int32) (q3 : Int32) : Int32 := (if (own_law_v294_67_S0 q0 q1 q2 q3) = (0 : Int32) then (0 : Int32) else (if (own_f1_ret q3) = (0 : Int32) then (1 : Int32) else (0 : Int32)))
theorem own_law_v325_68_S0_01 (q0 : Int32) (q1 : Int32) (q2 : Int32) (q3 : Int32) : (own_law_v325_68_S0 q0 q1 q2 q3) = 0 ∨ (own_law_v325_68_S0 q0 q1 q2 q3) = 1 := by
  unfold own_law_v325_68_S0
  by_cases h0 : (own_law_v294_67_S0 q0 q1 q2 q3) = (0 : Int32)
  · rw [if_pos h0]
    exact Or.inl rfl
  · rw [if_neg h0]
    by_cases h1 : (own_f1_ret q3) = (0 : Int32)
    · rw [if_pos h1]
      exact Or.inr rfl
    · rw [if_neg h1]
      exact Or.inl rfl
def own_law_v327_70_L8 (q0 : Int32) (q1 : Int32) (q2 : Int32) (q3 : Int32) : Int32 := (if q3 < (65 : Int32) then (own_law_v325_68_S0 q0 q1 q2 q3) else (if (983039 : Int32) < q3 then (own_law_v325_68_S0 q0 q1 q2 q3) else (own_law_v294_67_S0 q0 q1 q2 q3)))
theorem own_law_v327_70_L8_01 (q0 : Int32) (q1 : Int32) (q2 : Int32) (q3 : Int32) : (own_law_v327_70_L8 q0 q1 q2 q3) = 0 ∨ (own_law_v327_70_L8 q0 q1 q2 q3) = 1 := by
  unfold own_law_v327_70_L8
  by_cases h0 : q3 < (65 : Int32)
  · rw [if_pos h0]
    exact (own_law_v325_68_S0_01 q0 q1 q2 q3)
  · rw [if_neg h0]
    by_cases h1 : (983039 : Int32) < q3
    · rw [if_pos h1]
      exact (own_law_v325_68_S0_01 q0 q1 q2 q3)
    · rw [if_neg h1]
      exact (own_law_v294_67_S0_01 q0 q1 q2 q3)
def own_law_x37 (q0 : Int32) (q1 : Int32) (q2 : Int32) (q3 : Int32) : Int32 := ((63744 : Int32) + ((q1 &&& (2147483647 : Int32)) % (1232 : Int32)))
def own_law_x38 (q0 : Int32) (q1 : Int32) (q2 : Int32) (q3 : Int32) : Int32 := (own_f1_ret (own_law_x37 q0 q1 q2 q3))
def own_law_x39 (q0 : Int32) (q1 : Int32) (q2 : Int32) (q3 : Int32) : Int32 := ((64976 : Int32) + ((q2 &&& (2147483647 : Int32)) % (32 : Int32)))
def own_law_v294_73_S0 (q0 : Int32) (q1 : Int32) (q2 : Int32) (q3 : Int32) : Int32 := (if (own_law_x38 q0 q1 q2 q3) = (0 : Int32) then (0 : Int32) else (if (own_f1_ret (own_law_x39 q0 q1 q2 q3)) = (0 : Int32) then (1 : Int32) else (0 : Int32)))
theorem own_law_v294_73_S0_01 (q0 : Int32) (q1 : Int32) (q2 : Int32) (q3 : Int32) : (own_law_v294_73_S0 q0 q1 q2 q3) = 0 ∨ (own_law_v294_73_S0 q0 q1 q2 q3) = 1 := by
  unfold own_law_v294_73_S0
  by_cases h0 : (own_law_x38 q0 q1 q2 q3) = (0 : Int32)
  · rw [if_pos h0]
    exact Or.inl rfl
  · rw [if_neg h0]
    by_cases h1 : (own_f1_ret (own_law_x39 q0 q1 q2 q3)) = (0 : Int32)
    · rw [if_pos h1]
      exact Or.inr rfl
    · rw [if_neg h1]
      exact Or.inl rfl
def own_law_v325_74_S0 (q0 : Int32) (q1 : Int32) (q2 : Int32) (q3 : Int32) : Int32 := (if (own_law_v294_73_S0 q0 q1 q2 q3) = (0 : Int32) then (0 : Int32) else (if (own_f1_ret q3) = (0 : Int32) then (1 : Int32) else (0 : Int32)))
theorem own_law_v325_74_S0_01 (q0 : Int32) (q1 : Int32) (q2 : Int32) (q3 : Int32) : (own_law_v325_74_S0 q0 q1 q2 q3) = 0 ∨ (own_law_v325_74_S0 q0 q1 q2 q3) = 1 := by
  unfold own_law_v325_74_S0
  by_cases h0 : (own_law_v294_73_S0 q0 q1 q2 q3) = (0 : Int32)
  · rw [if_pos h0]
    exact Or.inl rfl
  · rw [if_neg h0]
    by_cases h1 : (own_f1_ret q3) = (0 : Int32)
    · rw [if_pos h1]
      exact Or.inr rfl
    · rw [if_neg h1]
      exact Or.inl rfl
def own_law_v327_76_L8 (q0 : Int32) (q1 : Int32) (q2 : Int32) (q3 : Int32) : Int32 := (if q3 < (65 : Int32) then (own_law_v325_74_S0 q0 q1 q2 q3) else (if (983039 : Int32) < q3 then (own_law_v325_74_S0 q0 q1 q2 q3) else (own_law_v294_73_S0 q0 q1 q2 q3)))
theorem own_law_v327_76_L8_01 (q0 : Int32) (q1 : Int32) (q2 : Int32) (q3 : Int32) : (own_law_v327_76_L8 q0 q1 q2 q3) = 0 ∨ (own_law_v327_76_L8 q0 q1 q2 q3) = 1 := by
  unfold own_law_v327_76_L8
  by_cases h0 : q3 < (65 : Int32)
  · rw [if_pos h0]
    exact (own_law_v325_74_S0_01 q0 q1 q2 q3)
  · rw [if_neg h0]
    by_cases h1 : (983039 : Int32) < q3
    · rw [if_pos h1]
      exact (own_law_v325_74_S0_01 q0 q1 q2 q3)
    · rw [if_neg h1]
      exact (own_law_v294_73_S0_01 q0 q1 q2 q3)
def own_law_x40 (q0 : Int32) (q1 : Int32) (q2 : Int32) (q3 : Int32) : Int32 := ((65008 : Int32) + ((q1 &&& (2147483647 : Int32)) % (526 : Int32)))
def own_law_x41 (q0 : Int32) (q1 : Int32) (q2 : Int32) (q3 : Int32) : Int32 := (own_f1_ret (own_law_x40 q0 q1 q2 q3))
def own_law_x42 (q0 : Int32) (q1 : Int32) (q2 : Int32) (q3 : Int32) : Int32 := ((65534 : Int32) + ((q2 &&& (2147483647 : Int32)) % (2 : Int32)))
def own_law_v294_79_S0 (q0 : Int32) (q1 : Int32) (q2 : Int32) (q3 : Int32) : Int32 := (if (own_law_x41 q0 q1 q2 q3) = (0 : Int32) then (0 : Int32) else (if (own_f1_ret (own_law_x42 q0 q1 q2 q3)) = (0 : Int32) then (1 : Int32) else (0 : Int32)))
theorem own_law_v294_79_S0_01 (q0 : Int32) (q1 : Int32) (q2 : Int32) (q3 : Int32) : (own_law_v294_79_S0 q0 q1 q2 q3) = 0 ∨ (own_law_v294_79_S0 q0 q1 q2 q3) = 1 := by
  unfold own_law_v294_79_S0
  by_cases h0 : (own_law_x41 q0 q1 q2 q3) = (0 : Int32)
  · rw [if_pos h0]
    exact Or.inl rfl
  · rw [if_neg h0]
    by_cases h1 : (own_f1_ret (own_law_x42 q0 q1 q2 q3)) = (0 : Int32)
    · rw [if_pos h1]
      exact Or.inr rfl
    · rw [if_neg h1]
      exact Or.inl rfl
def own_law_v325_80_S0 (q0 : Int32) (q1 : Int32) (q2 : Int32) (q3 : Int32) : Int32 := (if (own_law_v294_79_S0 q0 q1 q2 q3) = (0 : Int32) then (0 : Int32) else (if (own_f1_ret q3) = (0 : Int32) then (1 : Int32) else (0 : Int32)))
theorem own_law_v325_80_S0_01 (q0 : Int32) (q1 : Int32) (q2 : Int32) (q3 : Int32) : (own_law_v325_80_S0 q0 q1 q2 q3) = 0 ∨ (own_law_v325_80_S0 q0 q1 q2 q3) = 1 := by
  unfold own_law_v325_80_S0
  by_cases h0 : (own_law_v294_79_S0 q0 q1 q2 q3) = (0 : Int32)
  · rw [if_pos h0]
    exact Or.inl rfl
  · rw [if_neg h0]
    by_cases h1 : (own_f1_ret q3) = (0 : Int32)
    · rw [if_pos h1]
      exact Or.inr rfl
    · rw [if_neg h1]
      exact Or.inl rfl
def own_law_v327_82_L8 (q0 : Int32) (q1 : Int32) (q2 : Int32) (q3 : Int32) : Int32 := (if q3 < (65 : Int32) then (own_law_v325_80_S0 q0 q1 q2 q3) else (if (983039 : Int32) < q3 then (own_law_v325_80_S0 q0 q1 q2 q3) else (own_law_v294_79_S0 q0 q1 q2 q3)))
theorem own_law_v327_82_L8_01 (q0 : Int32) (q1 : Int32) (q2 : Int32) (q3 : Int32) : (own_law_v327_82_L8 q0 q1 q2 q3) = 0 ∨ (own_law_v327_82_L8 q0 q1 q2 q3) = 1 := by
  unfold own_law_v327_82_L8
  by_cases h0 : q3 < (65 : Int32)
  · rw [if_pos h0]
    exact (own_law_v325_80_S0_01 q0 q1 q2 q3)
  · rw [if_neg h0]
    by_cases h1 : (983039 : Int32) < q3
    · rw [if_pos h1]
      exact (own_law_v325_80_S0_01 q0 q1 q2 q3)
    · rw [if_neg h1]
      exact (own_law_v294_79_S0_01 q0 q1 q2 q3)
def own_law_x43 (q0 : Int32) (q1 : Int32) (q2 : Int32) (q3 : Int32) : Int32 := ((65536 : Int32) + ((q1 &&& (2147483647 : Int32)) % (917504 : Int32)))
def own_law_x44 (q0 : Int32) (q1 : Int32) (q2 : Int32) (q3 : Int32) : Int32 := (own_f1_ret (own_law_x43 q0 q1 q2 q3))
def own_law_v325_85_S0 (q0 : Int32) (q1 : Int32) (q2 : Int32) (q3 : Int32) : Int32 := (if (own_law_x44 q0 q1 q2 q3) = (0 : Int32) then (0 : Int32) else (if (own_f1_ret q3) = (0 : Int32) then (1 : Int32) else (0 : Int32)))
theorem own_law_v325_85_S0_01 (q0 : Int32) (q1 : Int32) (q2 : Int32) (q3 : Int32) : (own_law_v325_85_S0 q0 q1 q2 q3) = 0 ∨ (own_law_v325_85_S0 q0 q1 q2 q3) = 1 := by
  unfold own_law_v325_85_S0
  by_cases h0 : (own_law_x44 q0 q1 q2 q3) = (0 : Int32)
  · rw [if_pos h0]
    exact Or.inl rfl
  · rw [if_neg h0]
    by_cases h1 : (own_f1_ret q3) = (0 : Int32)
    · rw [if_pos h1]
      exact Or.inr rfl
    · rw [if_neg h1]
      exact Or.inl rfl
def own_law_v327_87_L8 (q0 : Int32) (q1 : Int32) (q2 : Int32) (q3 : Int32) : Int32 := (if q3 < (65 : Int32) then (own_law_v325_85_S0 q0 q1 q2 q3) else (if (983039 : Int32) < q3 then (own_law_v325_85_S0 q0 q1 q2 q3) else (own_law_x44 q0 q1 q2 q3)))
theorem own_law_v327_87_L8_01 (q0 : Int32) (q1 : Int32) (q2 : Int32) (q3 : Int32) : (own_law_v327_87_L8 q0 q1 q2 q3) = 0 ∨ (own_law_v327_87_L8 q0 q1 q2 q3) = 1 := by
  unfold own_law_v327_87_L8
  by_cases h0 : q3 < (65 : Int32)
  · rw [if_pos h0]
    exact (own_law_v325_85_S0_01 q0 q1 q2 q3)
  · rw [if_neg h0]
    by_cases h1 : (983039 : Int32) < q3
    · rw [if_pos h1]
      exact (own_law_v325_85_S0_01 q0 q1 q2 q3)
    · rw [if_neg h1]
      exact (own_f1_ret_01 (own_law_x43 q0 q1 q2 q3))
def own_law_ret_j327_4 (q0 : Int32) (q1 : Int32) (q2 : Int32) (q3 : Int32) : Int32 := (own_law_v327_4_L8 q0 q1 q2 q3)
def own_law_ret_j294_1 (q0 : Int32) (q1 : Int32) (q2 : Int32) (q3 : Int32) : Int32 := (own_law_ret_j327_4 q0 q1 q2 q3)
def own_law_ret_j327_10 (q0 : Int32) (q1 : Int32) (q2 : Int32) (q3 : Int32) : Int32 := (own_law_v327_10_L8 q0 q1 q2 q3)
def own_law_ret_j294_7 (q0 : Int32) (q1 : Int32) (q2 : Int32) (q3 : Int32) : Int32 := (own_law_ret_j327_10 q0 q1 q2 q3)
def own_law_ret_j327_16 (q0 : Int32) (q1 : Int32) (q2 : Int32) (q3 : Int32) : Int32 := (own_law_v327_16_L8 q0 q1 q2 q3)
def own_law_ret_j294_13 (q0 : Int32) (q1 : Int32) (q2 : Int32) (q3 : Int32) : Int32 := (own_law_ret_j327_16 q0 q1 q2 q3)
def own_law_ret_j327_22 (q0 : Int32) (q1 : Int32) (q2 : Int32) (q3 : Int32) : Int32 := (own_law_v327_22_L8 q0 q1 q2 q3)
def own_law_ret_j294_19 (q0 : Int32) (q1 : Int32) (q2 : Int32) (q3 : Int32) : Int32 := (own_law_ret_j327_22 q0 q1 q2 q3)
def own_law_ret_j327_28 (q0 : Int32) (q1 : Int32) (q2 : Int32) (q3 : Int32) : Int32 := (own_law_v327_28_L8 q0 q1 q2 q3)
def own_law_ret_j294_25 (q0 : Int32) (q1 : Int32) (q2 : Int32) (q3 : Int32) : Int32 := (own_law_ret_j327_28 q0 q1 q2 q3)
def own_law_ret_j327_34 (q0 : Int32) (q1 : Int32) (q2 : Int32) (q3 : Int32) : Int32 := (own_law_v327_34_L8 q0 q1 q2 q3)
def own_law_ret_j294_31 (q0 : Int32) (q1 : Int32) (q2 : Int32) (q3 : Int32) : Int32 := (own_law_ret_j327_34 q0 q1 q2 q3)
def own_law_ret_j327_40 (q0 : Int32) (q1 : Int32) (q2 : Int32) (q3 : Int32) : Int32 := (own_law_v327_40_L8 q0 q1 q2 q3)
def own_law_ret_j294_37 (q0 : Int32) (q1 : Int32) (q2 : Int32) (q3 : Int32) : Int32 := (own_law_ret_j327_40 q0 q1 q2 q3)
def own_law_ret_j327_46 (q0 : Int32) (q1 : Int32) (q2 : Int32) (q3 : Int32) : Int32 := (own_law_v327_46_L8 q0 q1 q2 q3)
def own_law_ret_j294_43 (q0 : Int32) (q1 : Int32) (q2 : Int32) (q3 : Int32) : Int32 := (own_law_ret_j327_46 q0 q1 q2 q3)
def own_law_ret_j327_52 (q0 : Int32) (q1 : Int32) (q2 : Int32) (q3 : Int32) : Int32 := (own_law_v327_52_L8 q0 q1 q2 q3)
def own_law_ret_j294_49 (q0 : Int32) (q1 : Int32) (q2 : Int32) (q3 : Int32) : Int32 := (own_law_ret_j327_52 q0 q1 q2 q3)
def own_law_ret_j327_58 (q0 : Int32) (q1 : Int32) (q2 : Int32) (q3 : Int32) : Int32 := (own_law_v327_58_L8 q0 q1 q2 q3)
def own_law_ret_j294_55 (q0 : Int32) (q1 : Int32) (q2 : Int32) (q3 : Int32) : Int32 := (own_law_ret_j327_58 q0 q1 q2 q3)
def own_law_ret_j327_64 (q0 : Int32) (q1 : Int32) (q2 : Int32) (q3 : Int32) : Int32 := (own_law_v327_64_L8 q0 q1 q2 q3)
def own_law_ret_j294_61 (q0 : Int32) (q1 : Int32) (q2 : Int32) (q3 : Int32) : Int32 := (own_law_ret_j327_64 q0 q1 q2 q3)
def own_law_ret_j327_70 (q0 : Int32) (q1 : Int32) (q2 : Int32) (q3 : Int32) : Int32 := (own_law_v327_70_L8 q0 q1 q2 q3)
def own_law_ret_j294_67 (q0 : Int32) (q1 : Int32) (q2 : Int32) (q3 : Int32) : Int32 := (own_law_ret_j327_70 q0 q1 q2 q3)
def own_law_ret_j327_76 (q0 : Int32) (q1 : Int32) (q2 : Int32) (q3 : Int32) : Int32 := (own_law_v327_76_L8 q0 q1 q2 q3)
def own_law_ret_j294_73 (q0 : Int32) (q1 : Int32) (q2 : Int32) (q3 : Int32) : Int32 := (own_law_ret_j327_76 q0 q1 q2 q3)
def own_law_ret_j327_82 (q0 : Int32) (q1 : Int32) (q2 : Int32) (q3 : Int32) : Int32 := (own_law_v327_82_L8 q0 q1 q2 q3)
def own_law_ret_j294_79 (q0 : Int32) (q1 : Int32) (q2 : Int32) (q3 : Int32) : Int32 := (own_law_ret_j327_82 q0 q1 q2 q3)
def own_law_ret_j327_87 (q0 : Int32) (q1 : Int32) (q2 : Int32) (q3 : Int32) : Int32 := (own_law_v327_87_L8 q0 q1 q2 q3)
def own_law_ret (q0 : Int32) (q1 : Int32) (q2 : Int32) (q3 : Int32) : Int32 := (if (own_law_x0 q0 q1 q2 q3) = (0 : Int32) then (own_law_ret_j294_1 q0 q1 q2 q3) else (if (own_law_x0 q0 q1 q2 q3) = (1 : Int32) then (own_law_ret_j294_7 q0 q1 q2 q3) else (if (own_law_x0 q0 q1 q2 q3) = (2 : Int32) then (own_law_ret_j294_13 q0 q1 q2 q3) else (if (own_law_x0 q0 q1 q2 q3) = (3 : Int32) then (own_law_ret_j294_19 q0 q1 q2 q3) else (if (own_law_x0 q0 q1 q2 q3) = (4 : Int32) then (own_law_ret_j294_25 q0 q1 q2 q3) else (if (own_law_x0 q0 q1 q2 q3) = (5 : Int32) then (own_law_ret_j294_31 q0 q1 q2 q3) else (if (own_law_x0 q0 q1 q2 q3) = (6 : Int32) then (own_law_ret_j294_37 q0 q1 q2 q3) else (if (own_law_x0 q0 q1 q2 q3) = (7 : Int32) then (own_law_ret_j294_43 q0 q1 q2 q3) else (if (own_law_x0 q0 q1 q2 q3) = (8 : Int32) then (own_law_ret_j294_49 q0 q1 q2 q3) else (if (own_law_x0 q0 q1 q2 q3) = (9 : Int32) then (own_law_ret_j294_55 q0 q1 q2 q3) else (if (own_law_x0 q0 q1 q2 q3) = (10 : Int32) then (own_law_ret_j294_61 q0 q1 q2 q3) else (if (own_law_x0 q0 q1 q2 q3) = (11 : Int32) then (own_law_ret_j294_67 q0 q1 q2 q3) else (if (own_law_x0 q0 q1 q2 q3) = (12 : Int32) then (own_law_ret_j294_73 q0 q1 q2 q3) else (if (own_law_x0 q0 q1 q2 q3) = (13 : Int32) then (own_law_ret_j294_79 q0 q1 q2 q3) else (own_law_ret_j327_87 q0 q1 q2 q3)))))))))))))))
theorem own_i15 (q0 q1 q2 q3 : Int32) : own_law_x0 q0 q1 q2 q3 = (0 : Int32) ∨ own_law_x0 q0 q1 q2 q3 = (1 : Int32) ∨ own_law_x0 q0 q1 q2 q3 = (2 : Int32) ∨ own_law_x0 q0 q1 q2 q3 = (3 : Int32) ∨ own_law_x0 q0 q1 q2 q3 = (4 : Int32) ∨ own_law_x0 q0 q1 q2 q3 = (5 : Int32) ∨ own_law_x0 q0 q1 q2 q3 = (6 : Int32) ∨ own_law_x0 q0 q1 q2 q3 = (7 : Int32) ∨ own_law_x0 q0 q1 q2 q3 = (8 : Int32) ∨ own_law_x0 q0 q1 q2 q3 = (9 : Int32) ∨ own_law_x0 q0 q1 q2 q3 = (10 : Int32) ∨ own_law_x0 q0 q1 q2 q3 = (11 : Int32) ∨ own_law_x0 q0 q1 q2 q3 = (12 : Int32) ∨ own_law_x0 q0 q1 q2 q3 = (13 : Int32) ∨ own_law_x0 q0 q1 q2 q3 = (14 : Int32) := by
  have h1 := c_and q0 2147483647 (by decide)
  have h2 := (c_irem (q0 &&& 2147483647) 15 15 (by decide)).1 h1.1
  unfold own_law_x0
  simp only [← Int32.toInt_inj, show (0 : Int32).toInt = 0 from rfl, show (1 : Int32).toInt = 1 from rfl, show (2 : Int32).toInt = 2 from rfl, show (3 : Int32).toInt = 3 from rfl, show (4 : Int32).toInt = 4 from rfl, show (5 : Int32).toInt = 5 from rfl, show (6 : Int32).toInt = 6 from rfl, show (7 : Int32).toInt = 7 from rfl, show (8 : Int32).toInt = 8 from rfl, show (9 : Int32).toInt = 9 from rfl, show (10 : Int32).toInt = 10 from rfl, show (11 : Int32).toInt = 11 from rfl, show (12 : Int32).toInt = 12 from rfl, show (13 : Int32).toInt = 13 from rfl, show (14 : Int32).toInt = 14 from rfl]
  omega
def Q0 (Z : State) (q0 : Int32) (q1 : Int32) (q2 : Int32) (q3 : Int32) (h0 : Heap) (n0 : Nat) (v : Option Value) (h : Heap) (L : List Loc) : Prop := v = some (.int (own_law_ret q0 q1 q2 q3)) ∧ Fr n0 L
set_option maxRecDepth 65536 in
set_option maxHeartbeats 40000000 in
theorem rm0 (l : Launch) (Z : State) (a0 : Array Value) (hw : ∀ d ∈ tables_1, d.before a0 Z = true) (ws : List Jvm.Cond) (q0 : Int32) (q1 : Int32) (q2 : Int32) (q3 : Int32) (h0 : Heap) (n0 : Nat) (Z0 : n0 ≤ h0.size)  :
    Con l x code maxLocals ret ws room_1 #[(.int q0), (.int q1), (.int q2), (.int q3)] Z h0 (Q0 Z q0 q1 q2 q3 h0 n0) 2 30 := by
  refine own_body (plainFor_of_name pn_0) ?_
  intro p e s m below meth c s₁ hx hby hlk hml hown hnm hrt hZ X0 e0
  have w : ∀ (k : Nat) (d : Jvm.Cond), tables_1[k]? = some d → d.before a0 Z = true := fun k d h => hw d (List.mem_of_getElem? h)
  have N0 := Fr.nil n0
  have hml : c.maxLocals = 10 := hml
  rw [ef_0]
  generalize hOWE : Owe s _ _ _ = OWE
  refine o_bipush X0 hx (15 : Int32) (hb hby at_0) (pc' := 2) rfl (by decide) ?_
  refine o_newP X0 hx hZ 15 (w 0 _ rfl) e0 (hb hby at_2) (pc' := 4) rfl (by decide) (by decide) (by decide) (cells' := 1) rfl (slots' := 15) rfl (by decide) (by decide) ?_
  intro T1 h1 b1 k1 qa1 X1 e1 Ex1 A1
  have g_b1 : n0 ≤ b1 := by rw [qa1]; exact Z0
  have Z1 : n0 ≤ h1.size := Nat.le_trans Z0 Ex1.1
  have V1_ : Arv Z h1 b1 k1 .int (15 : Int32) [.int (0 : Int32), .int (0 : Int32), .int (0 : Int32), .int (0 : Int32), .int (0 : Int32), .int (0 : Int32), .int (0 : Int32), .int (0 : Int32), .int (0 : Int32), .int (0 : Int32), .int (0 : Int32), .int (0 : Int32), .int (0 : Int32), .int (0 : Int32), .int (0 : Int32)] (.int (0 : Int32)) := own_fill 15 A1
  refine o_dup X1 hx (hb hby at_4) (pc' := 5) rfl rfl ?_
  refine o_iconst X1 hx (0 : Int32) (hb hby at_5) (pc' := 6) rfl (by decide) ?_
  refine o_bipush X1 hx (65 : Int32) (hb hby at_6) (pc' := 8) rfl (by decide) ?_
  refine o_iastore X1 hx hZ 0 e1 V1_ (by decide) (by decide) (by exact (by decide : 0 < 15)) (vs' := [.int (65 : Int32), .int (0 : Int32), .int (0 : Int32), .int (0 : Int32), .int (0 : Int32), .int (0 : Int32), .int (0 : Int32), .int (0 : Int32), .int (0 : Int32), .int (0 : Int32), .int (0 : Int32), .int (0 : Int32), .int (0 : Int32), .int (0 : Int32), .int (0 : Int32)]) rfl (hb hby at_8) (pc' := 9) rfl ?_
  intro T3 h3 X3 e3 W3 V3_
  have N3 := Fr.snoc X3 N0 g_b1
  have Z3 : n0 ≤ h3.size := by rw [W3.size]; exact Z1
  refine o_dup X3 hx (hb hby at_9) (pc' := 10) rfl rfl ?_
  refine o_iconst X3 hx (1 : Int32) (hb hby at_10) (pc' := 11) rfl (by decide) ?_
  refine o_bipush X3 hx (95 : Int32) (hb hby at_11) (pc' := 13) rfl (by decide) ?_
  refine o_iastore X3 hx hZ 1 e3 V3_ (by decide) (by decide) (by exact (by decide : 1 < 15)) (vs' := [.int (65 : Int32), .int (95 : Int32), .int (0 : Int32), .int (0 : Int32), .int (0 : Int32), .int (0 : Int32), .int (0 : Int32), .int (0 : Int32), .int (0 : Int32), .int (0 : Int32), .int (0 : Int32), .int (0 : Int32), .int (0 : Int32), .int (0 : Int32), .int (0 : Int32)]) rfl (hb hby at_13) (pc' := 14) rfl ?_
  intro T5 h5 X5 e5 W5 V5_
  have N5 := Fr.snoc X5 N3 g_b1
  have Z5 : n0 ≤ h5.size := by rw [W5.size]; exact Z3
  refine o_dup X5 hx (hb hby at_14) (pc' := 15) rfl rfl ?_
  refine o_iconst X5 hx (2 : Int32) (hb hby at_15) (pc' := 16) rfl (by decide) ?_
  refine o_bipush X5 hx (97 : Int32) (hb hby at_16) (pc' := 18) rfl (by decide) ?_
  refine o_iastore X5 hx hZ 2 e5 V5_ (by decide) (by decide) (by exact (by decide : 2 < 15)) (vs' := [.int (65 : Int32), .int (95 : Int32), .int (97 : Int32), .int (0 : Int32), .int (0 : Int32), .int (0 : Int32), .int (0 : Int32), .int (0 : Int32), .int (0 : Int32), .int (0 : Int32), .int (0 : Int32), .int (0 : Int32), .int (0 : Int32), .int (0 : Int32), .int (0 : Int32)]) rfl (hb hby at_18) (pc' := 19) rfl ?_
  intro T7 h7 X7 e7 W7 V7_
  have N7 := Fr.snoc X7 N5 g_b1
  have Z7 : n0 ≤ h7.size := by rw [W7.size]; exact Z5
  refine o_dup X7 hx (hb hby at_19) (pc' := 20) rfl rfl ?_
  refine o_iconst X7 hx (3 : Int32) (hb hby at_20) (pc' := 21) rfl (by decide) ?_
  refine o_sipush X7 hx (192 : Int32) (hb hby at_21) (pc' := 24) rfl (by decide) ?_
  refine o_iastore X7 hx hZ 3 e7 V7_ (by decide) (by decide) (by exact (by decide : 3 < 15)) (vs' := [.int (65 : Int32), .int (95 : Int32), .int (97 : Int32), .int (192 : Int32), .int (0 : Int32), .int (0 : Int32), .int (0 : Int32), .int (0 : Int32), .int (0 : Int32), .int (0 : Int32), .int (0 : Int32), .int (0 : Int32), .int (0 : Int32), .int (0 : Int32), .int (0 : Int32)]) rfl (hb hby at_24) (pc' := 25) rfl ?_
  intro T9 h9 X9 e9 W9 V9_
  have N9 := Fr.snoc X9 N7 g_b1
  have Z9 : n0 ≤ h9.size := by rw [W9.size]; exact Z7
  refine o_dup X9 hx (hb hby at_25) (pc' := 26) rfl rfl ?_
  refine o_iconst X9 hx (4 : Int32) (hb hby at_26) (pc' := 27) rfl (by decide) ?_
  refine o_sipush X9 hx (216 : Int32) (hb hby at_27) (pc' := 30) rfl (by decide) ?_
  refine o_iastore X9 hx hZ 4 e9 V9_ (by decide) (by decide) (by exact (by decide : 4 < 15)) (vs' := [.int (65 : Int32), .int (95 : Int32), .int (97 : Int32), .int (192 : Int32), .int (216 : Int32), .int (0 : Int32), .int (0 : Int32), .int (0 : Int32), .int (0 : Int32), .int (0 : Int32), .int (0 : Int32), .int (0 : Int32), .int (0 : Int32), .int (0 : Int32), .int (0 : Int32)]) rfl (hb hby at_30) (pc' := 31) rfl ?_
  intro T11 h11 X11 e11 W11 V11_
  have N11 := Fr.snoc X11 N9 g_b1
  have Z11 : n0 ≤ h11.size := by rw [W11.size]; exact Z9
  refine o_dup X11 hx (hb hby at_31) (pc' := 32) rfl rfl ?_
  refine o_iconst X11 hx (5 : Int32) (hb hby at_32) (pc' := 33) rfl (by decide) ?_
  refine o_sipush X11 hx (248 : Int32) (hb hby at_33) (pc' := 36) rfl (by decide) ?_
  refine o_iastore X11 hx hZ 5 e11 V11_ (by decide) (by decide) (by exact (by decide : 5 < 15)) (vs' := [.int (65 : Int32), .int (95 : Int32), .int (97 : Int32), .int (192 : Int32), .int (216 : Int32), .int (248 : Int32), .int (0 : Int32), .int (0 : Int32), .int (0 : Int32), .int (0 : Int32), .int (0 : Int32), .int (0 : Int32), .int (0 : Int32), .int (0 : Int32), .int (0 : Int32)]) rfl (hb hby at_36) (pc' := 37) rfl ?_
  intro T13 h13 X13 e13 W13 V13_
  have N13 := Fr.snoc X13 N11 g_b1
  have Z13 : n0 ≤ h13.size := by rw [W13.size]; exact Z11
  refine o_dup X13 hx (hb hby at_37) (pc' := 38) rfl rfl ?_
  refine o_bipush X13 hx (6 : Int32) (hb hby at_38) (pc' := 40) rfl (by decide) ?_
  refine o_sipush X13 hx (880 : Int32) (hb hby at_40) (pc' := 43) rfl (by decide) ?_
  refine o_iastore X13 hx hZ 6 e13 V13_ (by decide) (by decide) (by exact (by decide : 6 < 15)) (vs' := [.int (65 : Int32), .int (95 : Int32), .int (97 : Int32), .int (192 : Int32), .int (216 : Int32), .int (248 : Int32), .int (880 : Int32), .int (0 : Int32), .int (0 : Int32), .int (0 : Int32), .int (0 : Int32), .int (0 : Int32), .int (0 : Int32), .int (0 : Int32), .int (0 : Int32)]) rfl (hb hby at_43) (pc' := 44) rfl ?_
  intro T15 h15 X15 e15 W15 V15_
  have N15 := Fr.snoc X15 N13 g_b1
  have Z15 : n0 ≤ h15.size := by rw [W15.size]; exact Z13
  refine o_dup X15 hx (hb hby at_44) (pc' := 45) rfl rfl ?_
  refine o_bipush X15 hx (7 : Int32) (hb hby at_45) (pc' := 47) rfl (by decide) ?_
  refine o_sipush X15 hx (895 : Int32) (hb hby at_47) (pc' := 50) rfl (by decide) ?_
  refine o_iastore X15 hx hZ 7 e15 V15_ (by decide) (by decide) (by exact (by decide : 7 < 15)) (vs' := [.int (65 : Int32), .int (95 : Int32), .int (97 : Int32), .int (192 : Int32), .int (216 : Int32), .int (248 : Int32), .int (880 : Int32), .int (895 : Int32), .int (0 : Int32), .int (0 : Int32), .int (0 : Int32), .int (0 : Int32), .int (0 : Int32), .int (0 : Int32), .int (0 : Int32)]) rfl (hb hby at_50) (pc' := 51) rfl ?_
  intro T17 h17 X17 e17 W17 V17_
  have N17 := Fr.snoc X17 N15 g_b1
  have Z17 : n0 ≤ h17.size := by rw [W17.size]; exact Z15
  refine o_dup X17 hx (hb hby at_51) (pc' := 52) rfl rfl ?_
  refine o_bipush X17 hx (8 : Int32) (hb hby at_52) (pc' := 54) rfl (by decide) ?_
  refine o_sipush X17 hx (8204 : Int32) (hb hby at_54) (pc' := 57) rfl (by decide) ?_
  refine o_iastore X17 hx hZ 8 e17 V17_ (by decide) (by decide) (by exact (by decide : 8 < 15)) (vs' := [.int (65 : Int32), .int (95 : Int32), .int (97 : Int32), .int (192 : Int32), .int (216 : Int32), .int (248 : Int32), .int (880 : Int32), .int (895 : Int32), .int (8204 : Int32), .int (0 : Int32), .int (0 : Int32), .int (0 : Int32), .int (0 : Int32), .int (0 : Int32), .int (0 : Int32)]) rfl (hb hby at_57) (pc' := 58) rfl ?_
  intro T19 h19 X19 e19 W19 V19_
  have N19 := Fr.snoc X19 N17 g_b1
  have Z19 : n0 ≤ h19.size := by rw [W19.size]; exact Z17
  refine o_dup X19 hx (hb hby at_58) (pc' := 59) rfl rfl ?_
  refine o_bipush X19 hx (9 : Int32) (hb hby at_59) (pc' := 61) rfl (by decide) ?_
  refine o_sipush X19 hx (8304 : Int32) (hb hby at_61) (pc' := 64) rfl (by decide) ?_
  refine o_iastore X19 hx hZ 9 e19 V19_ (by decide) (by decide) (by exact (by decide : 9 < 15)) (vs' := [.int (65 : Int32), .int (95 : Int32), .int (97 : Int32), .int (192 : Int32), .int (216 : Int32), .int (248 : Int32), .int (880 : Int32), .int (895 : Int32), .int (8204 : Int32), .int (8304 : Int32), .int (0 : Int32), .int (0 : Int32), .int (0 : Int32), .int (0 : Int32), .int (0 : Int32)]) rfl (hb hby at_64) (pc' := 65) rfl ?_
  intro T21 h21 X21 e21 W21 V21_
  have N21 := Fr.snoc X21 N19 g_b1
  have Z21 : n0 ≤ h21.size := by rw [W21.size]; exact Z19
  refine o_dup X21 hx (hb hby at_65) (pc' := 66) rfl rfl ?_
  refine o_bipush X21 hx (10 : Int32) (hb hby at_66) (pc' := 68) rfl (by decide) ?_
  refine o_sipush X21 hx (11264 : Int32) (hb hby at_68) (pc' := 71) rfl (by decide) ?_
  refine o_iastore X21 hx hZ 10 e21 V21_ (by decide) (by decide) (by exact (by decide : 10 < 15)) (vs' := [.int (65 : Int32), .int (95 : Int32), .int (97 : Int32), .int (192 : Int32), .int (216 : Int32), .int (248 : Int32), .int (880 : Int32), .int (895 : Int32), .int (8204 : Int32), .int (8304 : Int32), .int (11264 : Int32), .int (0 : Int32), .int (0 : Int32), .int (0 : Int32), .int (0 : Int32)]) rfl (hb hby at_71) (pc' := 72) rfl ?_
  intro T23 h23 X23 e23 W23 V23_
  have N23 := Fr.snoc X23 N21 g_b1
  have Z23 : n0 ≤ h23.size := by rw [W23.size]; exact Z21
  refine o_dup X23 hx (hb hby at_72) (pc' := 73) rfl rfl ?_
  refine o_bipush X23 hx (11 : Int32) (hb hby at_73) (pc' := 75) rfl (by decide) ?_
  refine o_sipush X23 hx (12289 : Int32) (hb hby at_75) (pc' := 78) rfl (by decide) ?_
  refine o_iastore X23 hx hZ 11 e23 V23_ (by decide) (by decide) (by exact (by decide : 11 < 15)) (vs' := [.int (65 : Int32), .int (95 : Int32), .int (97 : Int32), .int (192 : Int32), .int (216 : Int32), .int (248 : Int32), .int (880 : Int32), .int (895 : Int32), .int (8204 : Int32), .int (8304 : Int32), .int (11264 : Int32), .int (12289 : Int32), .int (0 : Int32), .int (0 : Int32), .int (0 : Int32)]) rfl (hb hby at_78) (pc' := 79) rfl ?_
  intro T25 h25 X25 e25 W25 V25_
  have N25 := Fr.snoc X25 N23 g_b1
  have Z25 : n0 ≤ h25.size := by rw [W25.size]; exact Z23
  refine o_dup X25 hx (hb hby at_79) (pc' := 80) rfl rfl ?_
  refine o_bipush X25 hx (12 : Int32) (hb hby at_80) (pc' := 82) rfl (by decide) ?_
  refine o_ldcI X25 hx hZ (63744 : Int32) hown (w 1 _ rfl) (hb hby at_82) (pc' := 84) rfl ?_
  refine o_iastore X25 hx hZ 12 e25 V25_ (by decide) (by decide) (by exact (by decide : 12 < 15)) (vs' := [.int (65 : Int32), .int (95 : Int32), .int (97 : Int32), .int (192 : Int32), .int (216 : Int32), .int (248 : Int32), .int (880 : Int32), .int (895 : Int32), .int (8204 : Int32), .int (8304 : Int32), .int (11264 : Int32), .int (12289 : Int32), .int (63744 : Int32), .int (0 : Int32), .int (0 : Int32)]) rfl (hb hby at_84) (pc' := 85) rfl ?_
  intro T27 h27 X27 e27 W27 V27_
  have N27 := Fr.snoc X27 N25 g_b1
  have Z27 : n0 ≤ h27.size := by rw [W27.size]; exact Z25
  refine o_dup X27 hx (hb hby at_85) (pc' := 86) rfl rfl ?_
  refine o_bipush X27 hx (13 : Int32) (hb hby at_86) (pc' := 88) rfl (by decide) ?_
  refine o_ldcI X27 hx hZ (65008 : Int32) hown (w 2 _ rfl) (hb hby at_88) (pc' := 90) rfl ?_
  refine o_iastore X27 hx hZ 13 e27 V27_ (by decide) (by decide) (by exact (by decide : 13 < 15)) (vs' := [.int (65 : Int32), .int (95 : Int32), .int (97 : Int32), .int (192 : Int32), .int (216 : Int32), .int (248 : Int32), .int (880 : Int32), .int (895 : Int32), .int (8204 : Int32), .int (8304 : Int32), .int (11264 : Int32), .int (12289 : Int32), .int (63744 : Int32), .int (65008 : Int32), .int (0 : Int32)]) rfl (hb hby at_90) (pc' := 91) rfl ?_
  intro T29 h29 X29 e29 W29 V29_
  have N29 := Fr.snoc X29 N27 g_b1
  have Z29 : n0 ≤ h29.size := by rw [W29.size]; exact Z27
  refine o_dup X29 hx (hb hby at_91) (pc' := 92) rfl rfl ?_
  refine o_bipush X29 hx (14 : Int32) (hb hby at_92) (pc' := 94) rfl (by decide) ?_
  refine o_ldcI X29 hx hZ (65536 : Int32) hown (w 3 _ rfl) (hb hby at_94) (pc' := 96) rfl ?_
  refine o_iastore X29 hx hZ 14 e29 V29_ (by decide) (by decide) (by exact (by decide : 14 < 15)) (vs' := [.int (65 : Int32), .int (95 : Int32), .int (97 : Int32), .int (192 : Int32), .int (216 : Int32), .int (248 : Int32), .int (880 : Int32), .int (895 : Int32), .int (8204 : Int32), .int (8304 : Int32), .int (11264 : Int32), .int (12289 : Int32), .int (63744 : Int32), .int (65008 : Int32), .int (65536 : Int32)]) rfl (hb hby at_96) (pc' := 97) rfl ?_
  intro T31 h31 X31 e31 W31 V31_
  have N31 := Fr.snoc X31 N29 g_b1
  have Z31 : n0 ≤ h31.size := by rw [W31.size]; exact Z29
  refine o_astore X31 hx (hb hby at_97) (pc' := 99) rfl (L' := #[.val (.int q0), .val (.int q1), .val (.int q2), .val (.int q3), .val (.ref b1), .unset, .unset, .unset, .unset, .unset]) rfl rfl ?_
  refine o_bipush X31 hx (15 : Int32) (hb hby at_99) (pc' := 101) rfl (by decide) ?_
  refine o_newP X31 hx hZ 15 (w 0 _ rfl) e31 (hb hby at_101) (pc' := 103) rfl (by decide) (by decide) (by decide) (cells' := 2) rfl (slots' := 30) rfl (by decide) (by decide) ?_
  intro T33 h33 b33 k33 qa33 X33 e33 Ex33 A33
  have g_b33 : n0 ≤ b33 := by rw [qa33]; exact Z31
  have ne_b1_b33 : b1 ≠ b33 := by rw [qa33]; exact Nat.ne_of_lt V31_.lt
  have V34_b1 := Arv.ext V31_ Ex33
  have Z33 : n0 ≤ h33.size := Nat.le_trans Z31 Ex33.1
  have V33_ : Arv Z h33 b33 k33 .int (15 : Int32) [.int (0 : Int32), .int (0 : Int32), .int (0 : Int32), .int (0 : Int32), .int (0 : Int32), .int (0 : Int32), .int (0 : Int32), .int (0 : Int32), .int (0 : Int32), .int (0 : Int32), .int (0 : Int32), .int (0 : Int32), .int (0 : Int32), .int (0 : Int32), .int (0 : Int32)] (.int (0 : Int32)) := own_fill 15 A33
  refine o_dup X33 hx (hb hby at_103) (pc' := 104) rfl rfl ?_
  refine o_iconst X33 hx (0 : Int32) (hb hby at_104) (pc' := 105) rfl (by decide) ?_
  refine o_bipush X33 hx (90 : Int32) (hb hby at_105) (pc' := 107) rfl (by decide) ?_
  refine o_iastore X33 hx hZ 0 e33 V33_ (by decide) (by decide) (by exact (by decide : 0 < 15)) (vs' := [.int (90 : Int32), .int (0 : Int32), .int (0 : Int32), .int (0 : Int32), .int (0 : Int32), .int (0 : Int32), .int (0 : Int32), .int (0 : Int32), .int (0 : Int32), .int (0 : Int32), .int (0 : Int32), .int (0 : Int32), .int (0 : Int32), .int (0 : Int32), .int (0 : Int32)]) rfl (hb hby at_107) (pc' := 108) rfl ?_
  intro T35 h35 X35 e35 W35 V35_
  have V36_b1 := Arv.other V34_b1 W35 ne_b1_b33
  have N35 := Fr.snoc X35 N31 g_b33
  have Z35 : n0 ≤ h35.size := by rw [W35.size]; exact Z33
  refine o_dup X35 hx (hb hby at_108) (pc' := 109) rfl rfl ?_
  refine o_iconst X35 hx (1 : Int32) (hb hby at_109) (pc' := 110) rfl (by decide) ?_
  refine o_bipush X35 hx (95 : Int32) (hb hby at_110) (pc' := 112) rfl (by decide) ?_
  refine o_iastore X35 hx hZ 1 e35 V35_ (by decide) (by decide) (by exact (by decide : 1 < 15)) (vs' := [.int (90 : Int32), .int (95 : Int32), .int (0 : Int32), .int (0 : Int32), .int (0 : Int32), .int (0 : Int32), .int (0 : Int32), .int (0 : Int32), .int (0 : Int32), .int (0 : Int32), .int (0 : Int32), .int (0 : Int32), .int (0 : Int32), .int (0 : Int32), .int (0 : Int32)]) rfl (hb hby at_112) (pc' := 113) rfl ?_
  intro T37 h37 X37 e37 W37 V37_
  have V38_b1 := Arv.other V36_b1 W37 ne_b1_b33
  have N37 := Fr.snoc X37 N35 g_b33
  have Z37 : n0 ≤ h37.size := by rw [W37.size]; exact Z35
  refine o_dup X37 hx (hb hby at_113) (pc' := 114) rfl rfl ?_
  refine o_iconst X37 hx (2 : Int32) (hb hby at_114) (pc' := 115) rfl (by decide) ?_
  refine o_bipush X37 hx (122 : Int32) (hb hby at_115) (pc' := 117) rfl (by decide) ?_
  refine o_iastore X37 hx hZ 2 e37 V37_ (by decide) (by decide) (by exact (by decide : 2 < 15)) (vs' := [.int (90 : Int32), .int (95 : Int32), .int (122 : Int32), .int (0 : Int32), .int (0 : Int32), .int (0 : Int32), .int (0 : Int32), .int (0 : Int32), .int (0 : Int32), .int (0 : Int32), .int (0 : Int32), .int (0 : Int32), .int (0 : Int32), .int (0 : Int32), .int (0 : Int32)]) rfl (hb hby at_117) (pc' := 118) rfl ?_
  intro T39 h39 X39 e39 W39 V39_
  have V40_b1 := Arv.other V38_b1 W39 ne_b1_b33
  have N39 := Fr.snoc X39 N37 g_b33
  have Z39 : n0 ≤ h39.size := by rw [W39.size]; exact Z37
  refine o_dup X39 hx (hb hby at_118) (pc' := 119) rfl rfl ?_
  refine o_iconst X39 hx (3 : Int32) (hb hby at_119) (pc' := 120) rfl (by decide) ?_
  refine o_sipush X39 hx (214 : Int32) (hb hby at_120) (pc' := 123) rfl (by decide) ?_
  refine o_iastore X39 hx hZ 3 e39 V39_ (by decide) (by decide) (by exact (by decide : 3 < 15)) (vs' := [.int (90 : Int32), .int (95 : Int32), .int (122 : Int32), .int (214 : Int32), .int (0 : Int32), .int (0 : Int32), .int (0 : Int32), .int (0 : Int32), .int (0 : Int32), .int (0 : Int32), .int (0 : Int32), .int (0 : Int32), .int (0 : Int32), .int (0 : Int32), .int (0 : Int32)]) rfl (hb hby at_123) (pc' := 124) rfl ?_
  intro T41 h41 X41 e41 W41 V41_
  have V42_b1 := Arv.other V40_b1 W41 ne_b1_b33
  have N41 := Fr.snoc X41 N39 g_b33
  have Z41 : n0 ≤ h41.size := by rw [W41.size]; exact Z39
  refine o_dup X41 hx (hb hby at_124) (pc' := 125) rfl rfl ?_
  refine o_iconst X41 hx (4 : Int32) (hb hby at_125) (pc' := 126) rfl (by decide) ?_
  refine o_sipush X41 hx (246 : Int32) (hb hby at_126) (pc' := 129) rfl (by decide) ?_
  refine o_iastore X41 hx hZ 4 e41 V41_ (by decide) (by decide) (by exact (by decide : 4 < 15)) (vs' := [.int (90 : Int32), .int (95 : Int32), .int (122 : Int32), .int (214 : Int32), .int (246 : Int32), .int (0 : Int32), .int (0 : Int32), .int (0 : Int32), .int (0 : Int32), .int (0 : Int32), .int (0 : Int32), .int (0 : Int32), .int (0 : Int32), .int (0 : Int32), .int (0 : Int32)]) rfl (hb hby at_129) (pc' := 130) rfl ?_
  intro T43 h43 X43 e43 W43 V43_
  have V44_b1 := Arv.other V42_b1 W43 ne_b1_b33
  have N43 := Fr.snoc X43 N41 g_b33
  have Z43 : n0 ≤ h43.size := by rw [W43.size]; exact Z41
  refine o_dup X43 hx (hb hby at_130) (pc' := 131) rfl rfl ?_
  refine o_iconst X43 hx (5 : Int32) (hb hby at_131) (pc' := 132) rfl (by decide) ?_
  refine o_sipush X43 hx (767 : Int32) (hb hby at_132) (pc' := 135) rfl (by decide) ?_
  refine o_iastore X43 hx hZ 5 e43 V43_ (by decide) (by decide) (by exact (by decide : 5 < 15)) (vs' := [.int (90 : Int32), .int (95 : Int32), .int (122 : Int32), .int (214 : Int32), .int (246 : Int32), .int (767 : Int32), .int (0 : Int32), .int (0 : Int32), .int (0 : Int32), .int (0 : Int32), .int (0 : Int32), .int (0 : Int32), .int (0 : Int32), .int (0 : Int32), .int (0 : Int32)]) rfl (hb hby at_135) (pc' := 136) rfl ?_
  intro T45 h45 X45 e45 W45 V45_
  have V46_b1 := Arv.other V44_b1 W45 ne_b1_b33
  have N45 := Fr.snoc X45 N43 g_b33
  have Z45 : n0 ≤ h45.size := by rw [W45.size]; exact Z43
  refine o_dup X45 hx (hb hby at_136) (pc' := 137) rfl rfl ?_
  refine o_bipush X45 hx (6 : Int32) (hb hby at_137) (pc' := 139) rfl (by decide) ?_
  refine o_sipush X45 hx (893 : Int32) (hb hby at_139) (pc' := 142) rfl (by decide) ?_
  refine o_iastore X45 hx hZ 6 e45 V45_ (by decide) (by decide) (by exact (by decide : 6 < 15)) (vs' := [.int (90 : Int32), .int (95 : Int32), .int (122 : Int32), .int (214 : Int32), .int (246 : Int32), .int (767 : Int32), .int (893 : Int32), .int (0 : Int32), .int (0 : Int32), .int (0 : Int32), .int (0 : Int32), .int (0 : Int32), .int (0 : Int32), .int (0 : Int32), .int (0 : Int32)]) rfl (hb hby at_142) (pc' := 143) rfl ?_
  intro T47 h47 X47 e47 W47 V47_
  have V48_b1 := Arv.other V46_b1 W47 ne_b1_b33
  have N47 := Fr.snoc X47 N45 g_b33
  have Z47 : n0 ≤ h47.size := by rw [W47.size]; exact Z45
  refine o_dup X47 hx (hb hby at_143) (pc' := 144) rfl rfl ?_
  refine o_bipush X47 hx (7 : Int32) (hb hby at_144) (pc' := 146) rfl (by decide) ?_
  refine o_sipush X47 hx (8191 : Int32) (hb hby at_146) (pc' := 149) rfl (by decide) ?_
  refine o_iastore X47 hx hZ 7 e47 V47_ (by decide) (by decide) (by exact (by decide : 7 < 15)) (vs' := [.int (90 : Int32), .int (95 : Int32), .int (122 : Int32), .int (214 : Int32), .int (246 : Int32), .int (767 : Int32), .int (893 : Int32), .int (8191 : Int32), .int (0 : Int32), .int (0 : Int32), .int (0 : Int32), .int (0 : Int32), .int (0 : Int32), .int (0 : Int32), .int (0 : Int32)]) rfl (hb hby at_149) (pc' := 150) rfl ?_
  intro T49 h49 X49 e49 W49 V49_
  have V50_b1 := Arv.other V48_b1 W49 ne_b1_b33
  have N49 := Fr.snoc X49 N47 g_b33
  have Z49 : n0 ≤ h49.size := by rw [W49.size]; exact Z47
  refine o_dup X49 hx (hb hby at_150) (pc' := 151) rfl rfl ?_
  refine o_bipush X49 hx (8 : Int32) (hb hby at_151) (pc' := 153) rfl (by decide) ?_
  refine o_sipush X49 hx (8205 : Int32) (hb hby at_153) (pc' := 156) rfl (by decide) ?_
  refine o_iastore X49 hx hZ 8 e49 V49_ (by decide) (by decide) (by exact (by decide : 8 < 15)) (vs' := [.int (90 : Int32), .int (95 : Int32), .int (122 : Int32), .int (214 : Int32), .int (246 : Int32), .int (767 : Int32), .int (893 : Int32), .int (8191 : Int32), .int (8205 : Int32), .int (0 : Int32), .int (0 : Int32), .int (0 : Int32), .int (0 : Int32), .int (0 : Int32), .int (0 : Int32)]) rfl (hb hby at_156) (pc' := 157) rfl ?_
  intro T51 h51 X51 e51 W51 V51_
  have V52_b1 := Arv.other V50_b1 W51 ne_b1_b33
  have N51 := Fr.snoc X51 N49 g_b33
  have Z51 : n0 ≤ h51.size := by rw [W51.size]; exact Z49
  refine o_dup X51 hx (hb hby at_157) (pc' := 158) rfl rfl ?_
  refine o_bipush X51 hx (9 : Int32) (hb hby at_158) (pc' := 160) rfl (by decide) ?_
  refine o_sipush X51 hx (8591 : Int32) (hb hby at_160) (pc' := 163) rfl (by decide) ?_
  refine o_iastore X51 hx hZ 9 e51 V51_ (by decide) (by decide) (by exact (by decide : 9 < 15)) (vs' := [.int (90 : Int32), .int (95 : Int32), .int (122 : Int32), .int (214 : Int32), .int (246 : Int32), .int (767 : Int32), .int (893 : Int32), .int (8191 : Int32), .int (8205 : Int32), .int (8591 : Int32), .int (0 : Int32), .int (0 : Int32), .int (0 : Int32), .int (0 : Int32), .int (0 : Int32)]) rfl (hb hby at_163) (pc' := 164) rfl ?_
  intro T53 h53 X53 e53 W53 V53_
  have V54_b1 := Arv.other V52_b1 W53 ne_b1_b33
  have N53 := Fr.snoc X53 N51 g_b33
  have Z53 : n0 ≤ h53.size := by rw [W53.size]; exact Z51
  refine o_dup X53 hx (hb hby at_164) (pc' := 165) rfl rfl ?_
  refine o_bipush X53 hx (10 : Int32) (hb hby at_165) (pc' := 167) rfl (by decide) ?_
  refine o_sipush X53 hx (12271 : Int32) (hb hby at_167) (pc' := 170) rfl (by decide) ?_
  refine o_iastore X53 hx hZ 10 e53 V53_ (by decide) (by decide) (by exact (by decide : 10 < 15)) (vs' := [.int (90 : Int32), .int (95 : Int32), .int (122 : Int32), .int (214 : Int32), .int (246 : Int32), .int (767 : Int32), .int (893 : Int32), .int (8191 : Int32), .int (8205 : Int32), .int (8591 : Int32), .int (12271 : Int32), .int (0 : Int32), .int (0 : Int32), .int (0 : Int32), .int (0 : Int32)]) rfl (hb hby at_170) (pc' := 171) rfl ?_
  intro T55 h55 X55 e55 W55 V55_
  have V56_b1 := Arv.other V54_b1 W55 ne_b1_b33
  have N55 := Fr.snoc X55 N53 g_b33
  have Z55 : n0 ≤ h55.size := by rw [W55.size]; exact Z53
  refine o_dup X55 hx (hb hby at_171) (pc' := 172) rfl rfl ?_
  refine o_bipush X55 hx (11 : Int32) (hb hby at_172) (pc' := 174) rfl (by decide) ?_
  refine o_ldcI X55 hx hZ (55295 : Int32) hown (w 4 _ rfl) (hb hby at_174) (pc' := 176) rfl ?_
  refine o_iastore X55 hx hZ 11 e55 V55_ (by decide) (by decide) (by exact (by decide : 11 < 15)) (vs' := [.int (90 : Int32), .int (95 : Int32), .int (122 : Int32), .int (214 : Int32), .int (246 : Int32), .int (767 : Int32), .int (893 : Int32), .int (8191 : Int32), .int (8205 : Int32), .int (8591 : Int32), .int (12271 : Int32), .int (55295 : Int32), .int (0 : Int32), .int (0 : Int32), .int (0 : Int32)]) rfl (hb hby at_176) (pc' := 177) rfl ?_
  intro T57 h57 X57 e57 W57 V57_
  have V58_b1 := Arv.other V56_b1 W57 ne_b1_b33
  have N57 := Fr.snoc X57 N55 g_b33
  have Z57 : n0 ≤ h57.size := by rw [W57.size]; exact Z55
  refine o_dup X57 hx (hb hby at_177) (pc' := 178) rfl rfl ?_
  refine o_bipush X57 hx (12 : Int32) (hb hby at_178) (pc' := 180) rfl (by decide) ?_
  refine o_ldcI X57 hx hZ (64975 : Int32) hown (w 5 _ rfl) (hb hby at_180) (pc' := 182) rfl ?_
  refine o_iastore X57 hx hZ 12 e57 V57_ (by decide) (by decide) (by exact (by decide : 12 < 15)) (vs' := [.int (90 : Int32), .int (95 : Int32), .int (122 : Int32), .int (214 : Int32), .int (246 : Int32), .int (767 : Int32), .int (893 : Int32), .int (8191 : Int32), .int (8205 : Int32), .int (8591 : Int32), .int (12271 : Int32), .int (55295 : Int32), .int (64975 : Int32), .int (0 : Int32), .int (0 : Int32)]) rfl (hb hby at_182) (pc' := 183) rfl ?_
  intro T59 h59 X59 e59 W59 V59_
  have V60_b1 := Arv.other V58_b1 W59 ne_b1_b33
  have N59 := Fr.snoc X59 N57 g_b33
  have Z59 : n0 ≤ h59.size := by rw [W59.size]; exact Z57
  refine o_dup X59 hx (hb hby at_183) (pc' := 184) rfl rfl ?_
  refine o_bipush X59 hx (13 : Int32) (hb hby at_184) (pc' := 186) rfl (by decide) ?_
  refine o_ldcI X59 hx hZ (65533 : Int32) hown (w 6 _ rfl) (hb hby at_186) (pc' := 188) rfl ?_
  refine o_iastore X59 hx hZ 13 e59 V59_ (by decide) (by decide) (by exact (by decide : 13 < 15)) (vs' := [.int (90 : Int32), .int (95 : Int32), .int (122 : Int32), .int (214 : Int32), .int (246 : Int32), .int (767 : Int32), .int (893 : Int32), .int (8191 : Int32), .int (8205 : Int32), .int (8591 : Int32), .int (12271 : Int32), .int (55295 : Int32), .int (64975 : Int32), .int (65533 : Int32), .int (0 : Int32)]) rfl (hb hby at_188) (pc' := 189) rfl ?_
  intro T61 h61 X61 e61 W61 V61_
  have V62_b1 := Arv.other V60_b1 W61 ne_b1_b33
  have N61 := Fr.snoc X61 N59 g_b33
  have Z61 : n0 ≤ h61.size := by rw [W61.size]; exact Z59
  refine o_dup X61 hx (hb hby at_189) (pc' := 190) rfl rfl ?_
  refine o_bipush X61 hx (14 : Int32) (hb hby at_190) (pc' := 192) rfl (by decide) ?_
  refine o_ldcI X61 hx hZ (983039 : Int32) hown (w 7 _ rfl) (hb hby at_192) (pc' := 194) rfl ?_
  refine o_iastore X61 hx hZ 14 e61 V61_ (by decide) (by decide) (by exact (by decide : 14 < 15)) (vs' := [.int (90 : Int32), .int (95 : Int32), .int (122 : Int32), .int (214 : Int32), .int (246 : Int32), .int (767 : Int32), .int (893 : Int32), .int (8191 : Int32), .int (8205 : Int32), .int (8591 : Int32), .int (12271 : Int32), .int (55295 : Int32), .int (64975 : Int32), .int (65533 : Int32), .int (983039 : Int32)]) rfl (hb hby at_194) (pc' := 195) rfl ?_
  intro T63 h63 X63 e63 W63 V63_
  have V64_b1 := Arv.other V62_b1 W63 ne_b1_b33
  have N63 := Fr.snoc X63 N61 g_b33
  have Z63 : n0 ≤ h63.size := by rw [W63.size]; exact Z61
  refine o_astore X63 hx (hb hby at_195) (pc' := 197) rfl (L' := #[.val (.int q0), .val (.int q1), .val (.int q2), .val (.int q3), .val (.ref b1), .val (.ref b33), .unset, .unset, .unset, .unset]) rfl rfl ?_
  refine o_iloadN X63 hx (hb hby at_197) (pc' := 198) rfl rfl ?_
  refine o_ldcI X63 hx hZ (2147483647 : Int32) hown (w 8 _ rfl) (hb hby at_198) (pc' := 200) rfl ?_
  refine o_iand X63 hx (hb hby at_200) (pc' := 201) rfl ?_
  refine o_bipush X63 hx (15 : Int32) (hb hby at_201) (pc' := 203) rfl (by decide) ?_
  refine o_irem X63 hx (hb hby at_203) (pc' := 204) rfl (by decide) ?_
  refine o_istore (x := (own_law_x0 q0 q1 q2 q3)) X63 hx (hb hby at_204) (pc' := 206) rfl (L' := #[.val (.int q0), .val (.int q1), .val (.int q2), .val (.int q3), .val (.ref b1), .val (.ref b33), .val (.int (own_law_x0 q0 q1 q2 q3)), .unset, .unset, .unset]) rfl ?_
  by_cases hs65 : (own_law_x0 q0 q1 q2 q3) = (0 : Int32)
  · rw [hs65]
    refine o_aload X63 hx (hb hby at_206) (pc' := 208) rfl rfl rfl ?_
    refine o_iload X63 hx (hb hby at_208) (pc' := 210) rfl rfl ?_
    refine o_iaload X63 hx hZ (.int (65 : Int32)) e63 V64_b1 (by decide) (by rfl) (hb hby at_210) (pc' := 211) rfl ?_
    refine o_iloadN X63 hx (hb hby at_211) (pc' := 212) rfl rfl ?_
    refine o_ldcI X63 hx hZ (2147483647 : Int32) hown (w 8 _ rfl) (hb hby at_212) (pc' := 214) rfl ?_
    refine o_iand X63 hx (hb hby at_214) (pc' := 215) rfl ?_
    refine o_aload X63 hx (hb hby at_215) (pc' := 217) rfl rfl rfl ?_
    refine o_iload X63 hx (hb hby at_217) (pc' := 219) rfl rfl ?_
    refine o_iaload X63 hx hZ (.int (90 : Int32)) e63 V63_ (by decide) (by rfl) (hb hby at_219) (pc' := 220) rfl ?_
    refine o_aload X63 hx (hb hby at_220) (pc' := 222) rfl rfl rfl ?_
    refine o_iload X63 hx (hb hby at_222) (pc' := 224) rfl rfl ?_
    refine o_iaload X63 hx hZ (.int (65 : Int32)) e63 V64_b1 (by decide) (by rfl) (hb hby at_224) (pc' := 225) rfl ?_
    refine o_isub X63 hx (hb hby at_225) (pc' := 226) rfl ?_
    rw [show ((90 : Int32) - (65 : Int32)) = (25 : Int32) from by decide]
    refine o_iconst X63 hx (1 : Int32) (hb hby at_226) (pc' := 227) rfl (by decide) ?_
    refine o_iadd X63 hx (hb hby at_227) (pc' := 228) rfl ?_
    rw [show ((25 : Int32) + (1 : Int32)) = (26 : Int32) from by decide]
    refine o_irem X63 hx (hb hby at_228) (pc' := 229) rfl (by decide) ?_
    refine o_iadd X63 hx (hb hby at_229) (pc' := 230) rfl ?_
    refine o_istore (x := (own_law_x1 q0 q1 q2 q3)) X63 hx (hb hby at_230) (pc' := 232) rfl (L' := #[.val (.int q0), .val (.int q1), .val (.int q2), .val (.int q3), .val (.ref b1), .val (.ref b33), .val (.int (0 : Int32)), .val (.int (own_law_x1 q0 q1 q2 q3)), .unset, .unset]) rfl ?_
    refine o_iload X63 hx (hb hby at_232) (pc' := 234) rfl rfl ?_
    refine o_callS X63 hx hZ 0 (argsL := [.int (own_law_x1 q0 q1 q2 q3)]) (rest := []) hown (w 9 _ rfl) (w 10 _ rfl) (w 11 _ rfl) (w 12 _ rfl) (by decide) (rm1 l Z a0 hw [] (own_law_x1 q0 q1 q2 q3) h63 n0 Z63 ) (by decide) (by decide) (cells' := 2) rfl (slots' := 30) rfl (by decide) (by decide) e63 (by rw [hml]; rfl) (lenOf pd_0 rfl) rfl rfl (hb hby at_234) (pc' := 237) rfl ?_
    intro T66 v66 L66 X66 hQ66
    obtain ⟨rfl, Nq66, e66⟩ := hQ66
    have N66 := Fr.app N63 Nq66
    show Go p e below _ (T66.setTop (mkF m 237 _ [.int (own_f1_ret (own_law_x1 q0 q1 q2 q3))]))
    refine o_istore (x := (own_law_x2 q0 q1 q2 q3)) X66 hx (hb hby at_237) (pc' := 239) rfl (L' := #[.val (.int q0), .val (.int q1), .val (.int q2), .val (.int q3), .val (.ref b1), .val (.ref b33), .val (.int (0 : Int32)), .val (.int (own_law_x1 q0 q1 q2 q3)), .val (.int (own_law_x2 q0 q1 q2 q3)), .unset]) rfl ?_
    refine o_iload X66 hx (hb hby at_239) (pc' := 241) rfl rfl ?_
    refine o_bipush X66 hx (14 : Int32) (hb hby at_241) (pc' := 243) rfl (by decide) ?_
    refine o_cmpN X66 hx (hb hby at_243) (tlt (by decide : (0 : Int32) < (14 : Int32))).2.1 (pc' := 246) rfl ?_
    refine o_aload X66 hx (hb hby at_246) (pc' := 248) rfl rfl rfl ?_
    refine o_iload X66 hx (hb hby at_248) (pc' := 250) rfl rfl ?_
    refine o_iaload X66 hx hZ (.int (90 : Int32)) e66 V63_ (by decide) (by rfl) (hb hby at_250) (pc' := 251) rfl ?_
    refine o_iconst X66 hx (1 : Int32) (hb hby at_251) (pc' := 252) rfl (by decide) ?_
    refine o_iadd X66 hx (hb hby at_252) (pc' := 253) rfl ?_
    rw [show ((90 : Int32) + (1 : Int32)) = (91 : Int32) from by decide]
    refine o_iloadN X66 hx (hb hby at_253) (pc' := 254) rfl rfl ?_
    refine o_ldcI X66 hx hZ (2147483647 : Int32) hown (w 8 _ rfl) (hb hby at_254) (pc' := 256) rfl ?_
    refine o_iand X66 hx (hb hby at_256) (pc' := 257) rfl ?_
    refine o_aload X66 hx (hb hby at_257) (pc' := 259) rfl rfl rfl ?_
    refine o_iload X66 hx (hb hby at_259) (pc' := 261) rfl rfl ?_
    refine o_iconst X66 hx (1 : Int32) (hb hby at_261) (pc' := 262) rfl (by decide) ?_
    refine o_iadd X66 hx (hb hby at_262) (pc' := 263) rfl ?_
    rw [show ((0 : Int32) + (1 : Int32)) = (1 : Int32) from by decide]
    refine o_iaload X66 hx hZ (.int (95 : Int32)) e66 V64_b1 (by decide) (by rfl) (hb hby at_263) (pc' := 264) rfl ?_
    refine o_aload X66 hx (hb hby at_264) (pc' := 266) rfl rfl rfl ?_
    refine o_iload X66 hx (hb hby at_266) (pc' := 268) rfl rfl ?_
    refine o_iaload X66 hx hZ (.int (90 : Int32)) e66 V63_ (by decide) (by rfl) (hb hby at_268) (pc' := 269) rfl ?_
    refine o_isub X66 hx (hb hby at_269) (pc' := 270) rfl ?_
    rw [show ((95 : Int32) - (90 : Int32)) = (5 : Int32) from by decide]
    refine o_iconst X66 hx (1 : Int32) (hb hby at_270) (pc' := 271) rfl (by decide) ?_
    refine o_isub X66 hx (hb hby at_271) (pc' := 272) rfl ?_
    rw [show ((5 : Int32) - (1 : Int32)) = (4 : Int32) from by decide]
    refine o_irem X66 hx (hb hby at_272) (pc' := 273) rfl (by decide) ?_
    refine o_iadd X66 hx (hb hby at_273) (pc' := 274) rfl ?_
    refine o_istore (x := (own_law_x3 q0 q1 q2 q3)) X66 hx (hb hby at_274) (pc' := 276) rfl (L' := #[.val (.int q0), .val (.int q1), .val (.int q2), .val (.int q3), .val (.ref b1), .val (.ref b33), .val (.int (0 : Int32)), .val (.int (own_law_x1 q0 q1 q2 q3)), .val (.int (own_law_x2 q0 q1 q2 q3)), .val (.int (own_law_x3 q0 q1 q2 q3))]) rfl ?_
    refine o_iload X66 hx (hb hby at_276) (pc' := 278) rfl rfl ?_
    have J294_1 : ∀ (Tj294_1 : State) (lj294_1 : List Loc) (Xj294_1 : Stand p l e room_1 s m #[(.int q0), (.int q1), (.int q2), (.int q3)] below meth c Tj294_1 lj294_1 2 30) (ej294_1 : Tj294_1.heap = h63) (Nj294_1 : Fr n0 lj294_1) (z0 : Int32), z0 = (own_law_v294_1_S0 q0 q1 q2 q3) → Go p e below OWE (Tj294_1.setTop (mkF m 294 #[.val (.int q0), .val (.int q1), .val (.int q2), .val (.int q3), .val (.ref b1), .val (.ref b33), .val (.int (0 : Int32)), .val (.int (own_law_x1 q0 q1 q2 q3)), .val (.int (own_law_x2 q0 q1 q2 q3)), .val (.int (own_law_x3 q0 q1 q2 q3))] [.int z0])) := by
      intro Tj294_1 lj294_1 Xj294_1 ej294_1 Nj294_1 z0 yy0
      subst yy0
      refine o_istore Xj294_1 hx (hb hby at_294) (pc' := 296) rfl (L' := #[.val (.int q0), .val (.int q1), .val (.int q2), .val (.int q3), .val (.ref b1), .val (.ref b33), .val (.int (0 : Int32)), .val (.int (own_law_x1 q0 q1 q2 q3)), .val (.int (own_law_v294_1_S0 q0 q1 q2 q3)), .val (.int (own_law_x3 q0 q1 q2 q3))]) rfl ?_
      refine o_iloadN Xj294_1 hx (hb hby at_296) (pc' := 297) rfl rfl ?_
      refine o_bipush Xj294_1 hx (65 : Int32) (hb hby at_297) (pc' := 299) rfl (by decide) ?_
      have J327_4 : ∀ (Tj327_4 : State) (lj327_4 : List Loc) (Xj327_4 : Stand p l e room_1 s m #[(.int q0), (.int q1), (.int q2), (.int q3)] below meth c Tj327_4 lj327_4 2 30) (ej327_4 : Tj327_4.heap = h63) (Nj327_4 : Fr n0 lj327_4) (z0 : Int32), z0 = (own_law_v327_4_L8 q0 q1 q2 q3) → Go p e below OWE (Tj327_4.setTop (mkF m 327 #[.val (.int q0), .val (.int q1), .val (.int q2), .val (.int q3), .val (.ref b1), .val (.ref b33), .val (.int (0 : Int32)), .val (.int (own_law_x1 q0 q1 q2 q3)), .val (.int z0), .val (.int (own_law_x3 q0 q1 q2 q3))] [])) := by
        intro Tj327_4 lj327_4 Xj327_4 ej327_4 Nj327_4 z0 yy0
        subst yy0
        refine o_iload Xj327_4 hx (hb hby at_327) (pc' := 329) rfl rfl ?_
        rw [← hOWE]
        exact o_retZ Xj327_4 hx (own_narZ (own_law_v327_4_L8_01 q0 q1 q2 q3)) hlk hrt (hb hby at_329) (by decide) (by decide) (by rw [ej327_4]; exact ⟨(by rw [own_law_ret, if_pos hs65, own_law_ret_j294_1, own_law_ret_j327_4]), Nj327_4⟩)
      by_cases hc299_68 : q3 < (65 : Int32)
      · refine o_cmpY Xj294_1 hx (hb hby at_299) (tlt hc299_68).1 (by decide) (pc' := 308) (by decide) ?_
        refine o_iload Xj294_1 hx (hb hby at_308) (pc' := 310) rfl rfl ?_
        have J325_5 : ∀ (Tj325_5 : State) (lj325_5 : List Loc) (Xj325_5 : Stand p l e room_1 s m #[(.int q0), (.int q1), (.int q2), (.int q3)] below meth c Tj325_5 lj325_5 2 30) (ej325_5 : Tj325_5.heap = h63) (Nj325_5 : Fr n0 lj325_5) (z0 : Int32), z0 = (own_law_v325_2_S0 q0 q1 q2 q3) → Go p e below OWE (Tj325_5.setTop (mkF m 325 #[.val (.int q0), .val (.int q1), .val (.int q2), .val (.int q3), .val (.ref b1), .val (.ref b33), .val (.int (0 : Int32)), .val (.int (own_law_x1 q0 q1 q2 q3)), .val (.int (own_law_v294_1_S0 q0 q1 q2 q3)), .val (.int (own_law_x3 q0 q1 q2 q3))] [.int z0])) := by
          intro Tj325_5 lj325_5 Xj325_5 ej325_5 Nj325_5 z0 yy0
          subst yy0
          refine o_istore Xj325_5 hx (hb hby at_325) (pc' := 327) rfl (L' := #[.val (.int q0), .val (.int q1), .val (.int q2), .val (.int q3), .val (.ref b1), .val (.ref b33), .val (.int (0 : Int32)), .val (.int (own_law_x1 q0 q1 q2 q3)), .val (.int (own_law_v325_2_S0 q0 q1 q2 q3)), .val (.int (own_law_x3 q0 q1 q2 q3))]) rfl ?_
          exact J327_4 _ _ Xj325_5 ej325_5 Nj325_5 ((own_law_v325_2_S0 q0 q1 q2 q3)) (by rw [own_law_v327_4_L8, if_pos hc299_68])
        by_cases hc310_69 : (own_law_v294_1_S0 q0 q1 q2 q3) = (0 : Int32)
        · refine o_ifY Xj294_1 hx (hb hby at_310) (teq hc310_69).1 (by decide) (pc' := 324) (by decide) ?_
          refine o_iconst Xj294_1 hx (0 : Int32) (hb hby at_324) (pc' := 325) rfl (by decide) ?_
          exact J325_5 _ _ Xj294_1 ej294_1 Nj294_1 ((0 : Int32)) (by rw [own_law_v325_2_S0, if_pos hc310_69])
        · refine o_ifN Xj294_1 hx (hb hby at_310) (feq hc310_69).1 (pc' := 313) rfl ?_
          refine o_iloadN Xj294_1 hx (hb hby at_313) (pc' := 314) rfl rfl ?_
          refine o_callS Xj294_1 hx hZ 0 (argsL := [.int q3]) (rest := []) hown (w 9 _ rfl) (w 10 _ rfl) (w 11 _ rfl) (w 12 _ rfl) (by decide) (rm1 l Z a0 hw [] q3 h63 n0 Z63 ) (by decide) (by decide) (cells' := 2) rfl (slots' := 30) rfl (by decide) (by decide) ej294_1 (by rw [hml]; rfl) (lenOf pd_0 rfl) rfl rfl (hb hby at_314) (pc' := 317) rfl ?_
          intro T70 v70 L70 X70 hQ70
          obtain ⟨rfl, Nq70, e70⟩ := hQ70
          have N70 := Fr.app Nj294_1 Nq70
          show Go p e below _ (T70.setTop (mkF m 317 _ [.int (own_f1_ret q3)]))
          by_cases hc317_71 : (own_f1_ret q3) = (0 : Int32)
          · refine o_ifN X70 hx (hb hby at_317) (teq hc317_71).2 (pc' := 320) rfl ?_
            refine o_iconst X70 hx (1 : Int32) (hb hby at_320) (pc' := 321) rfl (by decide) ?_
            refine o_goto X70 hx (hb hby at_321) (by decide) (pc' := 325) (by decide) ?_
            exact J325_5 _ _ X70 e70 N70 ((1 : Int32)) (by rw [own_law_v325_2_S0, if_neg hc310_69, if_pos hc317_71])
          · refine o_ifY X70 hx (hb hby at_317) (feq hc317_71).2 (by decide) (pc' := 324) (by decide) ?_
            refine o_iconst X70 hx (0 : Int32) (hb hby at_324) (pc' := 325) rfl (by decide) ?_
            exact J325_5 _ _ X70 e70 N70 ((0 : Int32)) (by rw [own_law_v325_2_S0, if_neg hc310_69, if_neg hc317_71])
      · refine o_cmpN Xj294_1 hx (hb hby at_299) (flt hc299_68).1 (pc' := 302) rfl ?_
        refine o_iloadN Xj294_1 hx (hb hby at_302) (pc' := 303) rfl rfl ?_
        refine o_ldcI Xj294_1 hx hZ (983039 : Int32) hown (w 7 _ rfl) (hb hby at_303) (pc' := 305) rfl ?_
        by_cases hc305_72 : (983039 : Int32) < q3
        · refine o_cmpN Xj294_1 hx (hb hby at_305) (tlt hc305_72).2.2.2 (pc' := 308) rfl ?_
          refine o_iload Xj294_1 hx (hb hby at_308) (pc' := 310) rfl rfl ?_
          have J325_6 : ∀ (Tj325_6 : State) (lj325_6 : List Loc) (Xj325_6 : Stand p l e room_1 s m #[(.int q0), (.int q1), (.int q2), (.int q3)] below meth c Tj325_6 lj325_6 2 30) (ej325_6 : Tj325_6.heap = h63) (Nj325_6 : Fr n0 lj325_6) (z0 : Int32), z0 = (own_law_v325_2_S0 q0 q1 q2 q3) → Go p e below OWE (Tj325_6.setTop (mkF m 325 #[.val (.int q0), .val (.int q1), .val (.int q2), .val (.int q3), .val (.ref b1), .val (.ref b33), .val (.int (0 : Int32)), .val (.int (own_law_x1 q0 q1 q2 q3)), .val (.int (own_law_v294_1_S0 q0 q1 q2 q3)), .val (.int (own_law_x3 q0 q1 q2 q3))] [.int z0])) := by
            intro Tj325_6 lj325_6 Xj325_6 ej325_6 Nj325_6 z0 yy0
            subst yy0
            refine o_istore Xj325_6 hx (hb hby at_325) (pc' := 327) rfl (L' := #[.val (.int q0), .val (.int q1), .val (.int q2), .val (.int q3), .val (.ref b1), .val (.ref b33), .val (.int (0 : Int32)), .val (.int (own_law_x1 q0 q1 q2 q3)), .val (.int (own_law_v325_2_S0 q0 q1 q2 q3)), .val (.int (own_law_x3 q0 q1 q2 q3))]) rfl ?_
            exact J327_4 _ _ Xj325_6 ej325_6 Nj325_6 ((own_law_v325_2_S0 q0 q1 q2 q3)) (by rw [own_law_v327_4_L8, if_neg hc299_68, if_pos hc305_72])
          by_cases hc310_73 : (own_law_v294_1_S0 q0 q1 q2 q3) = (0 : Int32)
          · refine o_ifY Xj294_1 hx (hb hby at_310) (teq hc310_73).1 (by decide) (pc' := 324) (by decide) ?_
            refine o_iconst Xj294_1 hx (0 : Int32) (hb hby at_324) (pc' := 325) rfl (by decide) ?_
            exact J325_6 _ _ Xj294_1 ej294_1 Nj294_1 ((0 : Int32)) (by rw [own_law_v325_2_S0, if_pos hc310_73])
          · refine o_ifN Xj294_1 hx (hb hby at_310) (feq hc310_73).1 (pc' := 313) rfl ?_
            refine o_iloadN Xj294_1 hx (hb hby at_313) (pc' := 314) rfl rfl ?_
            refine o_callS Xj294_1 hx hZ 0 (argsL := [.int q3]) (rest := []) hown (w 9 _ rfl) (w 10 _ rfl) (w 11 _ rfl) (w 12 _ rfl) (by decide) (rm1 l Z a0 hw [] q3 h63 n0 Z63 ) (by decide) (by decide) (cells' := 2) rfl (slots' := 30) rfl (by decide) (by decide) ej294_1 (by rw [hml]; rfl) (lenOf pd_0 rfl) rfl rfl (hb hby at_314) (pc' := 317) rfl ?_
            intro T74 v74 L74 X74 hQ74
            obtain ⟨rfl, Nq74, e74⟩ := hQ74
            have N74 := Fr.app Nj294_1 Nq74
            show Go p e below _ (T74.setTop (mkF m 317 _ [.int (own_f1_ret q3)]))
            by_cases hc317_75 : (own_f1_ret q3) = (0 : Int32)
            · refine o_ifN X74 hx (hb hby at_317) (teq hc317_75).2 (pc' := 320) rfl ?_
              refine o_iconst X74 hx (1 : Int32) (hb hby at_320) (pc' := 321) rfl (by decide) ?_
              refine o_goto X74 hx (hb hby at_321) (by decide) (pc' := 325) (by decide) ?_
              exact J325_6 _ _ X74 e74 N74 ((1 : Int32)) (by rw [own_law_v325_2_S0, if_neg hc310_73, if_pos hc317_75])
            · refine o_ifY X74 hx (hb hby at_317) (feq hc317_75).2 (by decide) (pc' := 324) (by decide) ?_
              refine o_iconst X74 hx (0 : Int32) (hb hby at_324) (pc' := 325) rfl (by decide) ?_
              exact J325_6 _ _ X74 e74 N74 ((0 : Int32)) (by rw [own_law_v325_2_S0, if_neg hc310_73, if_neg hc317_75])
        · refine o_cmpY Xj294_1 hx (hb hby at_305) (flt hc305_72).2.2.2 (by decide) (pc' := 327) (by decide) ?_
          exact J327_4 _ _ Xj294_1 ej294_1 Nj294_1 ((own_law_v294_1_S0 q0 q1 q2 q3)) (by rw [own_law_v327_4_L8, if_neg hc299_68, if_neg hc305_72])
    by_cases hc278_67 : (own_law_x2 q0 q1 q2 q3) = (0 : Int32)
    · refine o_ifY X66 hx (hb hby at_278) (teq hc278_67).1 (by decide) (pc' := 293) (by decide) ?_
      refine o_iconst X66 hx (0 : Int32) (hb hby at_293) (pc' := 294) rfl (by decide) ?_
      exact J294_1 _ _ X66 e66 N66 ((0 : Int32)) (by rw [own_law_v294_1_S0, if_pos hc278_67])
    · refine o_ifN X66 hx (hb hby at_278) (feq hc278_67).1 (pc' := 281) rfl ?_
      refine o_iload X66 hx (hb hby at_281) (pc' := 283) rfl rfl ?_
      refine o_callS X66 hx hZ 0 (argsL := [.int (own_law_x3 q0 q1 q2 q3)]) (rest := []) hown (w 9 _ rfl) (w 10 _ rfl) (w 11 _ rfl) (w 12 _ rfl) (by decide) (rm1 l Z a0 hw [] (own_law_x3 q0 q1 q2 q3) h63 n0 Z63 ) (by decide) (by decide) (cells' := 2) rfl (slots' := 30) rfl (by decide) (by decide) e66 (by rw [hml]; rfl) (lenOf pd_0 rfl) rfl rfl (hb hby at_283) (pc' := 286) rfl ?_
      intro T76 v76 L76 X76 hQ76
      obtain ⟨rfl, Nq76, e76⟩ := hQ76
      have N76 := Fr.app N66 Nq76
      show Go p e below _ (T76.setTop (mkF m 286 _ [.int (own_f1_ret (own_law_x3 q0 q1 q2 q3))]))
      by_cases hc286_77 : (own_f1_ret (own_law_x3 q0 q1 q2 q3)) = (0 : Int32)
      · refine o_ifN X76 hx (hb hby at_286) (teq hc286_77).2 (pc' := 289) rfl ?_
        refine o_iconst X76 hx (1 : Int32) (hb hby at_289) (pc' := 290) rfl (by decide) ?_
        refine o_goto X76 hx (hb hby at_290) (by decide) (pc' := 294) (by decide) ?_
        exact J294_1 _ _ X76 e76 N76 ((1 : Int32)) (by rw [own_law_v294_1_S0, if_neg hc278_67, if_pos hc286_77])
      · refine o_ifY X76 hx (hb hby at_286) (feq hc286_77).2 (by decide) (pc' := 293) (by decide) ?_
        refine o_iconst X76 hx (0 : Int32) (hb hby at_293) (pc' := 294) rfl (by decide) ?_
        exact J294_1 _ _ X76 e76 N76 ((0 : Int32)) (by rw [own_law_v294_1_S0, if_neg hc278_67, if_neg hc286_77])
  · by_cases hs78 : (own_law_x0 q0 q1 q2 q3) = (1 : Int32)
    · rw [hs78]
      refine o_aload X63 hx (hb hby at_206) (pc' := 208) rfl rfl rfl ?_
      refine o_iload X63 hx (hb hby at_208) (pc' := 210) rfl rfl ?_
      refine o_iaload X63 hx hZ (.int (95 : Int32)) e63 V64_b1 (by decide) (by rfl) (hb hby at_210) (pc' := 211) rfl ?_
      refine o_iloadN X63 hx (hb hby at_211) (pc' := 212) rfl rfl ?_
      refine o_ldcI X63 hx hZ (2147483647 : Int32) hown (w 8 _ rfl) (hb hby at_212) (pc' := 214) rfl ?_
      refine o_iand X63 hx (hb hby at_214) (pc' := 215) rfl ?_
      refine o_aload X63 hx (hb hby at_215) (pc' := 217) rfl rfl rfl ?_
      refine o_iload X63 hx (hb hby at_217) (pc' := 219) rfl rfl ?_
      refine o_iaload X63 hx hZ (.int (95 : Int32)) e63 V63_ (by decide) (by rfl) (hb hby at_219) (pc' := 220) rfl ?_
      refine o_aload X63 hx (hb hby at_220) (pc' := 222) rfl rfl rfl ?_
      refine o_iload X63 hx (hb hby at_222) (pc' := 224) rfl rfl ?_
      refine o_iaload X63 hx hZ (.int (95 : Int32)) e63 V64_b1 (by decide) (by rfl) (hb hby at_224) (pc' := 225) rfl ?_
      refine o_isub X63 hx (hb hby at_225) (pc' := 226) rfl ?_
      rw [show ((95 : Int32) - (95 : Int32)) = (0 : Int32) from by decide]
      refine o_iconst X63 hx (1 : Int32) (hb hby at_226) (pc' := 227) rfl (by decide) ?_
      refine o_iadd X63 hx (hb hby at_227) (pc' := 228) rfl ?_
      rw [show ((0 : Int32) + (1 : Int32)) = (1 : Int32) from by decide]
      refine o_irem X63 hx (hb hby at_228) (pc' := 229) rfl (by decide) ?_
      refine o_iadd X63 hx (hb hby at_229) (pc' := 230) rfl ?_
      refine o_istore (x := (own_law_x4 q0 q1 q2 q3)) X63 hx (hb hby at_230) (pc' := 232) rfl (L' := #[.val (.int q0), .val (.int q1), .val (.int q2), .val (.int q3), .val (.ref b1), .val (.ref b33), .val (.int (1 : Int32)), .val (.int (own_law_x4 q0 q1 q2 q3)), .unset, .unset]) rfl ?_
      refine o_iload X63 hx (hb hby at_232) (pc' := 234) rfl rfl ?_
      refine o_callS X63 hx hZ 0 (argsL := [.int (own_law_x4 q0 q1 q2 q3)]) (rest := []) hown (w 9 _ rfl) (w 10 _ rfl) (w 11 _ rfl) (w 12 _ rfl) (by decide) (rm1 l Z a0 hw [] (own_law_x4 q0 q1 q2 q3) h63 n0 Z63 ) (by decide) (by decide) (cells' := 2) rfl (slots' := 30) rfl (by decide) (by decide) e63 (by rw [hml]; rfl) (lenOf pd_0 rfl) rfl rfl (hb hby at_234) (pc' := 237) rfl ?_
      intro T79 v79 L79 X79 hQ79
      obtain ⟨rfl, Nq79, e79⟩ := hQ79
      have N79 := Fr.app N63 Nq79
      show Go p e below _ (T79.setTop (mkF m 237 _ [.int (own_f1_ret (own_law_x4 q0 q1 q2 q3))]))
      refine o_istore (x := (own_law_x5 q0 q1 q2 q3)) X79 hx (hb hby at_237) (pc' := 239) rfl (L' := #[.val (.int q0), .val (.int q1), .val (.int q2), .val (.int q3), .val (.ref b1), .val (.ref b33), .val (.int (1 : Int32)), .val (.int (own_law_x4 q0 q1 q2 q3)), .val (.int (own_law_x5 q0 q1 q2 q3)), .unset]) rfl ?_
      refine o_iload X79 hx (hb hby at_239) (pc' := 241) rfl rfl ?_
      refine o_bipush X79 hx (14 : Int32) (hb hby at_241) (pc' := 243) rfl (by decide) ?_
      refine o_cmpN X79 hx (hb hby at_243) (tlt (by decide : (1 : Int32) < (14 : Int32))).2.1 (pc' := 246) rfl ?_
      refine o_aload X79 hx (hb hby at_246) (pc' := 248) rfl rfl rfl ?_
      refine o_iload X79 hx (hb hby at_248) (pc' := 250) rfl rfl ?_
      refine o_iaload X79 hx hZ (.int (95 : Int32)) e79 V63_ (by decide) (by rfl) (hb hby at_250) (pc' := 251) rfl ?_
      refine o_iconst X79 hx (1 : Int32) (hb hby at_251) (pc' := 252) rfl (by decide) ?_
      refine o_iadd X79 hx (hb hby at_252) (pc' := 253) rfl ?_
      rw [show ((95 : Int32) + (1 : Int32)) = (96 : Int32) from by decide]
      refine o_iloadN X79 hx (hb hby at_253) (pc' := 254) rfl rfl ?_
      refine o_ldcI X79 hx hZ (2147483647 : Int32) hown (w 8 _ rfl) (hb hby at_254) (pc' := 256) rfl ?_
      refine o_iand X79 hx (hb hby at_256) (pc' := 257) rfl ?_
      refine o_aload X79 hx (hb hby at_257) (pc' := 259) rfl rfl rfl ?_
      refine o_iload X79 hx (hb hby at_259) (pc' := 261) rfl rfl ?_
      refine o_iconst X79 hx (1 : Int32) (hb hby at_261) (pc' := 262) rfl (by decide) ?_
      refine o_iadd X79 hx (hb hby at_262) (pc' := 263) rfl ?_
      rw [show ((1 : Int32) + (1 : Int32)) = (2 : Int32) from by decide]
      refine o_iaload X79 hx hZ (.int (97 : Int32)) e79 V64_b1 (by decide) (by rfl) (hb hby at_263) (pc' := 264) rfl ?_
      refine o_aload X79 hx (hb hby at_264) (pc' := 266) rfl rfl rfl ?_
      refine o_iload X79 hx (hb hby at_266) (pc' := 268) rfl rfl ?_
      refine o_iaload X79 hx hZ (.int (95 : Int32)) e79 V63_ (by decide) (by rfl) (hb hby at_268) (pc' := 269) rfl ?_
      refine o_isub X79 hx (hb hby at_269) (pc' := 270) rfl ?_
      rw [show ((97 : Int32) - (95 : Int32)) = (2 : Int32) from by decide]
      refine o_iconst X79 hx (1 : Int32) (hb hby at_270) (pc' := 271) rfl (by decide) ?_
      refine o_isub X79 hx (hb hby at_271) (pc' := 272) rfl ?_
      rw [show ((2 : Int32) - (1 : Int32)) = (1 : Int32) from by decide]
      refine o_irem X79 hx (hb hby at_272) (pc' := 273) rfl (by decide) ?_
      refine o_iadd X79 hx (hb hby at_273) (pc' := 274) rfl ?_
      refine o_istore (x := (own_law_x6 q0 q1 q2 q3)) X79 hx (hb hby at_274) (pc' := 276) rfl (L' := #[.val (.int q0), .val (.int q1), .val (.int q2), .val (.int q3), .val (.ref b1), .val (.ref b33), .val (.int (1 : Int32)), .val (.int (own_law_x4 q0 q1 q2 q3)), .val (.int (own_law_x5 q0 q1 q2 q3)), .val (.int (own_law_x6 q0 q1 q2 q3))]) rfl ?_
      refine o_iload X79 hx (hb hby at_276) (pc' := 278) rfl rfl ?_
      have J294_7 : ∀ (Tj294_7 : State) (lj294_7 : List Loc) (Xj294_7 : Stand p l e room_1 s m #[(.int q0), (.int q1), (.int q2), (.int q3)] below meth c Tj294_7 lj294_7 2 30) (ej294_7 : Tj294_7.heap = h63) (Nj294_7 : Fr n0 lj294_7) (z0 : Int32), z0 = (own_law_v294_7_S0 q0 q1 q2 q3) → Go p e below OWE (Tj294_7.setTop (mkF m 294 #[.val (.int q0), .val (.int q1), .val (.int q2), .val (.int q3), .val (.ref b1), .val (.ref b33), .val (.int (1 : Int32)), .val (.int (own_law_x4 q0 q1 q2 q3)), .val (.int (own_law_x5 q0 q1 q2 q3)), .val (.int (own_law_x6 q0 q1 q2 q3))] [.int z0])) := by
        intro Tj294_7 lj294_7 Xj294_7 ej294_7 Nj294_7 z0 yy0
        subst yy0
        refine o_istore Xj294_7 hx (hb hby at_294) (pc' := 296) rfl (L' := #[.val (.int q0), .val (.int q1), .val (.int q2), .val (.int q3), .val (.ref b1), .val (.ref b33), .val (.int (1 : Int32)), .val (.int (own_law_x4 q0 q1 q2 q3)), .val (.int (own_law_v294_7_S0 q0 q1 q2 q3)), .val (.int (own_law_x6 q0 q1 q2 q3))]) rfl ?_
        refine o_iloadN Xj294_7 hx (hb hby at_296) (pc' := 297) rfl rfl ?_
        refine o_bipush Xj294_7 hx (65 : Int32) (hb hby at_297) (pc' := 299) rfl (by decide) ?_
        have J327_10 : ∀ (Tj327_10 : State) (lj327_10 : List Loc) (Xj327_10 : Stand p l e room_1 s m #[(.int q0), (.int q1), (.int q2), (.int q3)] below meth c Tj327_10 lj327_10 2 30) (ej327_10 : Tj327_10.heap = h63) (Nj327_10 : Fr n0 lj327_10) (z0 : Int32), z0 = (own_law_v327_10_L8 q0 q1 q2 q3) → Go p e below OWE (Tj327_10.setTop (mkF m 327 #[.val (.int q0), .val (.int q1), .val (.int q2), .val (.int q3), .val (.ref b1), .val (.ref b33), .val (.int (1 : Int32)), .val (.int (own_law_x4 q0 q1 q2 q3)), .val (.int z0), .val (.int (own_law_x6 q0 q1 q2 q3))] [])) := by
          intro Tj327_10 lj327_10 Xj327_10 ej327_10 Nj327_10 z0 yy0
          subst yy0
          refine o_iload Xj327_10 hx (hb hby at_327) (pc' := 329) rfl rfl ?_
          rw [← hOWE]
          exact o_retZ Xj327_10 hx (own_narZ (own_law_v327_10_L8_01 q0 q1 q2 q3)) hlk hrt (hb hby at_329) (by decide) (by decide) (by rw [ej327_10]; exact ⟨(by rw [own_law_ret, if_neg hs65, if_pos hs78, own_law_ret_j294_7, own_law_ret_j327_10]), Nj327_10⟩)
        by_cases hc299_81 : q3 < (65 : Int32)
        · refine o_cmpY Xj294_7 hx (hb hby at_299) (tlt hc299_81).1 (by decide) (pc' := 308) (by decide) ?_
          refine o_iload Xj294_7 hx (hb hby at_308) (pc' := 310) rfl rfl ?_
          have J325_11 : ∀ (Tj325_11 : State) (lj325_11 : List Loc) (Xj325_11 : Stand p l e room_1 s m #[(.int q0), (.int q1), (.int q2), (.int q3)] below meth c Tj325_11 lj325_11 2 30) (ej325_11 : Tj325_11.heap = h63) (Nj325_11 : Fr n0 lj325_11) (z0 : Int32), z0 = (own_law_v325_8_S0 q0 q1 q2 q3) → Go p e below OWE (Tj325_11.setTop (mkF m 325 #[.val (.int q0), .val (.int q1), .val (.int q2), .val (.int q3), .val (.ref b1), .val (.ref b33), .val (.int (1 : Int32)), .val (.int (own_law_x4 q0 q1 q2 q3)), .val (.int (own_law_v294_7_S0 q0 q1 q2 q3)), .val (.int (own_law_x6 q0 q1 q2 q3))] [.int z0])) := by
            intro Tj325_11 lj325_11 Xj325_11 ej325_11 Nj325_11 z0 yy0
            subst yy0
            refine o_istore Xj325_11 hx (hb hby at_325) (pc' := 327) rfl (L' := #[.val (.int q0), .val (.int q1), .val (.int q2), .val (.int q3), .val (.ref b1), .val (.ref b33), .val (.int (1 : Int32)), .val (.int (own_law_x4 q0 q1 q2 q3)), .val (.int (own_law_v325_8_S0 q0 q1 q2 q3)), .val (.int (own_law_x6 q0 q1 q2 q3))]) rfl ?_
            exact J327_10 _ _ Xj325_11 ej325_11 Nj325_11 ((own_law_v325_8_S0 q0 q1 q2 q3)) (by rw [own_law_v327_10_L8, if_pos hc299_81])
          by_cases hc310_82 : (own_law_v294_7_S0 q0 q1 q2 q3) = (0 : Int32)
          · refine o_ifY Xj294_7 hx (hb hby at_310) (teq hc310_82).1 (by decide) (pc' := 324) (by decide) ?_
            refine o_iconst Xj294_7 hx (0 : Int32) (hb hby at_324) (pc' := 325) rfl (by decide) ?_
            exact J325_11 _ _ Xj294_7 ej294_7 Nj294_7 ((0 : Int32)) (by rw [own_law_v325_8_S0, if_pos hc310_82])
          · refine o_ifN Xj294_7 hx (hb hby at_310) (feq hc310_82).1 (pc' := 313) rfl ?_
            refine o_iloadN Xj294_7 hx (hb hby at_313) (pc' := 314) rfl rfl ?_
            refine o_callS Xj294_7 hx hZ 0 (argsL := [.int q3]) (rest := []) hown (w 9 _ rfl) (w 10 _ rfl) (w 11 _ rfl) (w 12 _ rfl) (by decide) (rm1 l Z a0 hw [] q3 h63 n0 Z63 ) (by decide) (by decide) (cells' := 2) rfl (slots' := 30) rfl (by decide) (by decide) ej294_7 (by rw [hml]; rfl) (lenOf pd_0 rfl) rfl rfl (hb hby at_314) (pc' := 317) rfl ?_
            intro T83 v83 L83 X83 hQ83
            obtain ⟨rfl, Nq83, e83⟩ := hQ83
            have N83 := Fr.app Nj294_7 Nq83
            show Go p e below _ (T83.setTop (mkF m 317 _ [.int (own_f1_ret q3)]))
            by_cases hc317_84 : (own_f1_ret q3) = (0 : Int32)
            · refine o_ifN X83 hx (hb hby at_317) (teq hc317_84).2 (pc' := 320) rfl ?_
              refine o_iconst X83 hx (1 : Int32) (hb hby at_320) (pc' := 321) rfl (by decide) ?_
              refine o_goto X83 hx (hb hby at_321) (by decide) (pc' := 325) (by decide) ?_
              exact J325_11 _ _ X83 e83 N83 ((1 : Int32)) (by rw [own_law_v325_8_S0, if_neg hc310_82, if_pos hc317_84])
            · refine o_ifY X83 hx (hb hby at_317) (feq hc317_84).2 (by decide) (pc' := 324) (by decide) ?_
              refine o_iconst X83 hx (0 : Int32) (hb hby at_324) (pc' := 325) rfl (by decide) ?_
              exact J325_11 _ _ X83 e83 N83 ((0 : Int32)) (by rw [own_law_v325_8_S0, if_neg hc310_82, if_neg hc317_84])
        · refine o_cmpN Xj294_7 hx (hb hby at_299) (flt hc299_81).1 (pc' := 302) rfl ?_
          refine o_iloadN Xj294_7 hx (hb hby at_302) (pc' := 303) rfl rfl ?_
          refine o_ldcI Xj294_7 hx hZ (983039 : Int32) hown (w 7 _ rfl) (hb hby at_303) (pc' := 305) rfl ?_
          by_cases hc305_85 : (983039 : Int32) < q3
          · refine o_cmpN Xj294_7 hx (hb hby at_305) (tlt hc305_85).2.2.2 (pc' := 308) rfl ?_
            refine o_iload Xj294_7 hx (hb hby at_308) (pc' := 310) rfl rfl ?_
            have J325_12 : ∀ (Tj325_12 : State) (lj325_12 : List Loc) (Xj325_12 : Stand p l e room_1 s m #[(.int q0), (.int q1), (.int q2), (.int q3)] below meth c Tj325_12 lj325_12 2 30) (ej325_12 : Tj325_12.heap = h63) (Nj325_12 : Fr n0 lj325_12) (z0 : Int32), z0 = (own_law_v325_8_S0 q0 q1 q2 q3) → Go p e below OWE (Tj325_12.setTop (mkF m 325 #[.val (.int q0), .val (.int q1), .val (.int q2), .val (.int q3), .val (.ref b1), .val (.ref b33), .val (.int (1 : Int32)), .val (.int (own_law_x4 q0 q1 q2 q3)), .val (.int (own_law_v294_7_S0 q0 q1 q2 q3)), .val (.int (own_law_x6 q0 q1 q2 q3))] [.int z0])) := by
              intro Tj325_12 lj325_12 Xj325_12 ej325_12 Nj325_12 z0 yy0
              subst yy0
              refine o_istore Xj325_12 hx (hb hby at_325) (pc' := 327) rfl (L' := #[.val (.int q0), .val (.int q1), .val (.int q2), .val (.int q3), .val (.ref b1), .val (.ref b33), .val (.int (1 : Int32)), .val (.int (own_law_x4 q0 q1 q2 q3)), .val (.int (own_law_v325_8_S0 q0 q1 q2 q3)), .val (.int (own_law_x6 q0 q1 q2 q3))]) rfl ?_
              exact J327_10 _ _ Xj325_12 ej325_12 Nj325_12 ((own_law_v325_8_S0 q0 q1 q2 q3)) (by rw [own_law_v327_10_L8, if_neg hc299_81, if_pos hc305_85])
            by_cases hc310_86 : (own_law_v294_7_S0 q0 q1 q2 q3) = (0 : Int32)
            · refine o_ifY Xj294_7 hx (hb hby at_310) (teq hc310_86).1 (by decide) (pc' := 324) (by decide) ?_
              refine o_iconst Xj294_7 hx (0 : Int32) (hb hby at_324) (pc' := 325) rfl (by decide) ?_
              exact J325_12 _ _ Xj294_7 ej294_7 Nj294_7 ((0 : Int32)) (by rw [own_law_v325_8_S0, if_pos hc310_86])
            · refine o_ifN Xj294_7 hx (hb hby at_310) (feq hc310_86).1 (pc' := 313) rfl ?_
              refine o_iloadN Xj294_7 hx (hb hby at_313) (pc' := 314) rfl rfl ?_
              refine o_callS Xj294_7 hx hZ 0 (argsL := [.int q3]) (rest := []) hown (w 9 _ rfl) (w 10 _ rfl) (w 11 _ rfl) (w 12 _ rfl) (by decide) (rm1 l Z a0 hw [] q3 h63 n0 Z63 ) (by decide) (by decide) (cells' := 2) rfl (slots' := 30) rfl (by decide) (by decide) ej294_7 (by rw [hml]; rfl) (lenOf pd_0 rfl) rfl rfl (hb hby at_314) (pc' := 317) rfl ?_
              intro T87 v87 L87 X87 hQ87
              obtain ⟨rfl, Nq87, e87⟩ := hQ87
              have N87 := Fr.app Nj294_7 Nq87
              show Go p e below _ (T87.setTop (mkF m 317 _ [.int (own_f1_ret q3)]))
              by_cases hc317_88 : (own_f1_ret q3) = (0 : Int32)
              · refine o_ifN X87 hx (hb hby at_317) (teq hc317_88).2 (pc' := 320) rfl ?_
                refine o_iconst X87 hx (1 : Int32) (hb hby at_320) (pc' := 321) rfl (by decide) ?_
                refine o_goto X87 hx (hb hby at_321) (by decide) (pc' := 325) (by decide) ?_
                exact J325_12 _ _ X87 e87 N87 ((1 : Int32)) (by rw [own_law_v325_8_S0, if_neg hc310_86, if_pos hc317_88])
              · refine o_ifY X87 hx (hb hby at_317) (feq hc317_88).2 (by decide) (pc' := 324) (by decide) ?_
                refine o_iconst X87 hx (0 : Int32) (hb hby at_324) (pc' := 325) rfl (by decide) ?_
                exact J325_12 _ _ X87 e87 N87 ((0 : Int32)) (by rw [own_law_v325_8_S0, if_neg hc310_86, if_neg hc317_88])
          · refine o_cmpY Xj294_7 hx (hb hby at_305) (flt hc305_85).2.2.2 (by decide) (pc' := 327) (by decide) ?_
            exact J327_10 _ _ Xj294_7 ej294_7 Nj294_7 ((own_law_v294_7_S0 q0 q1 q2 q3)) (by rw [own_law_v327_10_L8, if_neg hc299_81, if_neg hc305_85])
      by_cases hc278_80 : (own_law_x5 q0 q1 q2 q3) = (0 : Int32)
      · refine o_ifY X79 hx (hb hby at_278) (teq hc278_80).1 (by decide) (pc' := 293) (by decide) ?_
        refine o_iconst X79 hx (0 : Int32) (hb hby at_293) (pc' := 294) rfl (by decide) ?_
        exact J294_7 _ _ X79 e79 N79 ((0 : Int32)) (by rw [own_law_v294_7_S0, if_pos hc278_80])
      · refine o_ifN X79 hx (hb hby at_278) (feq hc278_80).1 (pc' := 281) rfl ?_
        refine o_iload X79 hx (hb hby at_281) (pc' := 283) rfl rfl ?_
        refine o_callS X79 hx hZ 0 (argsL := [.int (own_law_x6 q0 q1 q2 q3)]) (rest := []) hown (w 9 _ rfl) (w 10 _ rfl) (w 11 _ rfl) (w 12 _ rfl) (by decide) (rm1 l Z a0 hw [] (own_law_x6 q0 q1 q2 q3) h63 n0 Z63 ) (by decide) (by decide) (cells' := 2) rfl (slots' := 30) rfl (by decide) (by decide) e79 (by rw [hml]; rfl) (lenOf pd_0 rfl) rfl rfl (hb hby at_283) (pc' := 286) rfl ?_
        intro T89 v89 L89 X89 hQ89
        obtain ⟨rfl, Nq89, e89⟩ := hQ89
        have N89 := Fr.app N79 Nq89
        show Go p e below _ (T89.setTop (mkF m 286 _ [.int (own_f1_ret (own_law_x6 q0 q1 q2 q3))]))
        by_cases hc286_90 : (own_f1_ret (own_law_x6 q0 q1 q2 q3)) = (0 : Int32)
        · refine o_ifN X89 hx (hb hby at_286) (teq hc286_90).2 (pc' := 289) rfl ?_
          refine o_iconst X89 hx (1 : Int32) (hb hby at_289) (pc' := 290) rfl (by decide) ?_
          refine o_goto X89 hx (hb hby at_290) (by decide) (pc' := 294) (by decide) ?_
          exact J294_7 _ _ X89 e89 N89 ((1 : Int32)) (by rw [own_law_v294_7_S0, if_neg hc278_80, if_pos hc286_90])
        · refine o_ifY X89 hx (hb hby at_286) (feq hc286_90).2 (by decide) (pc' := 293) (by decide) ?_
          refine o_iconst X89 hx (0 : Int32) (hb hby at_293) (pc' := 294) rfl (by decide) ?_
          exact J294_7 _ _ X89 e89 N89 ((0 : Int32)) (by rw [own_law_v294_7_S0, if_neg hc278_80, if_neg hc286_90])
    · by_cases hs91 : (own_law_x0 q0 q1 q2 q3) = (2 : Int32)
      · rw [hs91]
        refine o_aload X63 hx (hb hby at_206) (pc' := 208) rfl rfl rfl ?_
        refine o_iload X63 hx (hb hby at_208) (pc' := 210) rfl rfl ?_
        refine o_iaload X63 hx hZ (.int (97 : Int32)) e63 V64_b1 (by decide) (by rfl) (hb hby at_210) (pc' := 211) rfl ?_
        refine o_iloadN X63 hx (hb hby at_211) (pc' := 212) rfl rfl ?_
        refine o_ldcI X63 hx hZ (2147483647 : Int32) hown (w 8 _ rfl) (hb hby at_212) (pc' := 214) rfl ?_
        refine o_iand X63 hx (hb hby at_214) (pc' := 215) rfl ?_
        refine o_aload X63 hx (hb hby at_215) (pc' := 217) rfl rfl rfl ?_
        refine o_iload X63 hx (hb hby at_217) (pc' := 219) rfl rfl ?_
        refine o_iaload X63 hx hZ (.int (122 : Int32)) e63 V63_ (by decide) (by rfl) (hb hby at_219) (pc' := 220) rfl ?_
        refine o_aload X63 hx (hb hby at_220) (pc' := 222) rfl rfl rfl ?_
        refine o_iload X63 hx (hb hby at_222) (pc' := 224) rfl rfl ?_
        refine o_iaload X63 hx hZ (.int (97 : Int32)) e63 V64_b1 (by decide) (by rfl) (hb hby at_224) (pc' := 225) rfl ?_
        refine o_isub X63 hx (hb hby at_225) (pc' := 226) rfl ?_
        rw [show ((122 : Int32) - (97 : Int32)) = (25 : Int32) from by decide]
        refine o_iconst X63 hx (1 : Int32) (hb hby at_226) (pc' := 227) rfl (by decide) ?_
        refine o_iadd X63 hx (hb hby at_227) (pc' := 228) rfl ?_
        rw [show ((25 : Int32) + (1 : Int32)) = (26 : Int32) from by decide]
        refine o_irem X63 hx (hb hby at_228) (pc' := 229) rfl (by decide) ?_
        refine o_iadd X63 hx (hb hby at_229) (pc' := 230) rfl ?_
        refine o_istore (x := (own_law_x7 q0 q1 q2 q3)) X63 hx (hb hby at_230) (pc' := 232) rfl (L' := #[.val (.int q0), .val (.int q1), .val (.int q2), .val (.int q3), .val (.ref b1), .val (.ref b33), .val (.int (2 : Int32)), .val (.int (own_law_x7 q0 q1 q2 q3)), .unset, .unset]) rfl ?_
        refine o_iload X63 hx (hb hby at_232) (pc' := 234) rfl rfl ?_
        refine o_callS X63 hx hZ 0 (argsL := [.int (own_law_x7 q0 q1 q2 q3)]) (rest := []) hown (w 9 _ rfl) (w 10 _ rfl) (w 11 _ rfl) (w 12 _ rfl) (by decide) (rm1 l Z a0 hw [] (own_law_x7 q0 q1 q2 q3) h63 n0 Z63 ) (by decide) (by decide) (cells' := 2) rfl (slots' := 30) rfl (by decide) (by decide) e63 (by rw [hml]; rfl) (lenOf pd_0 rfl) rfl rfl (hb hby at_234) (pc' := 237) rfl ?_
        intro T92 v92 L92 X92 hQ92
        obtain ⟨rfl, Nq92, e92⟩ := hQ92
        have N92 := Fr.app N63 Nq92
        show Go p e below _ (T92.setTop (mkF m 237 _ [.int (own_f1_ret (own_law_x7 q0 q1 q2 q3))]))
        refine o_istore (x := (own_law_x8 q0 q1 q2 q3)) X92 hx (hb hby at_237) (pc' := 239) rfl (L' := #[.val (.int q0), .val (.int q1), .val (.int q2), .val (.int q3), .val (.ref b1), .val (.ref b33), .val (.int (2 : Int32)), .val (.int (own_law_x7 q0 q1 q2 q3)), .val (.int (own_law_x8 q0 q1 q2 q3)), .unset]) rfl ?_
        refine o_iload X92 hx (hb hby at_239) (pc' := 241) rfl rfl ?_
        refine o_bipush X92 hx (14 : Int32) (hb hby at_241) (pc' := 243) rfl (by decide) ?_
        refine o_cmpN X92 hx (hb hby at_243) (tlt (by decide : (2 : Int32) < (14 : Int32))).2.1 (pc' := 246) rfl ?_
        refine o_aload X92 hx (hb hby at_246) (pc' := 248) rfl rfl rfl ?_
        refine o_iload X92 hx (hb hby at_248) (pc' := 250) rfl rfl ?_
        refine o_iaload X92 hx hZ (.int (122 : Int32)) e92 V63_ (by decide) (by rfl) (hb hby at_250) (pc' := 251) rfl ?_
        refine o_iconst X92 hx (1 : Int32) (hb hby at_251) (pc' := 252) rfl (by decide) ?_
        refine o_iadd X92 hx (hb hby at_252) (pc' := 253) rfl ?_
        rw [show ((122 : Int32) + (1 : Int32)) = (123 : Int32) from by decide]
        refine o_iloadN X92 hx (hb hby at_253) (pc' := 254) rfl rfl ?_
        refine o_ldcI X92 hx hZ (2147483647 : Int32) hown (w 8 _ rfl) (hb hby at_254) (pc' := 256) rfl ?_
        refine o_iand X92 hx (hb hby at_256) (pc' := 257) rfl ?_
        refine o_aload X92 hx (hb hby at_257) (pc' := 259) rfl rfl rfl ?_
        refine o_iload X92 hx (hb hby at_259) (pc' := 261) rfl rfl ?_
        refine o_iconst X92 hx (1 : Int32) (hb hby at_261) (pc' := 262) rfl (by decide) ?_
        refine o_iadd X92 hx (hb hby at_262) (pc' := 263) rfl ?_
        rw [show ((2 : Int32) + (1 : Int32)) = (3 : Int32) from by decide]
        refine o_iaload X92 hx hZ (.int (192 : Int32)) e92 V64_b1 (by decide) (by rfl) (hb hby at_263) (pc' := 264) rfl ?_
        refine o_aload X92 hx (hb hby at_264) (pc' := 266) rfl rfl rfl ?_
        refine o_iload X92 hx (hb hby at_266) (pc' := 268) rfl rfl ?_
        refine o_iaload X92 hx hZ (.int (122 : Int32)) e92 V63_ (by decide) (by rfl) (hb hby at_268) (pc' := 269) rfl ?_
        refine o_isub X92 hx (hb hby at_269) (pc' := 270) rfl ?_
        rw [show ((192 : Int32) - (122 : Int32)) = (70 : Int32) from by decide]
        refine o_iconst X92 hx (1 : Int32) (hb hby at_270) (pc' := 271) rfl (by decide) ?_
        refine o_isub X92 hx (hb hby at_271) (pc' := 272) rfl ?_
        rw [show ((70 : Int32) - (1 : Int32)) = (69 : Int32) from by decide]
        refine o_irem X92 hx (hb hby at_272) (pc' := 273) rfl (by decide) ?_
        refine o_iadd X92 hx (hb hby at_273) (pc' := 274) rfl ?_
        refine o_istore (x := (own_law_x9 q0 q1 q2 q3)) X92 hx (hb hby at_274) (pc' := 276) rfl (L' := #[.val (.int q0), .val (.int q1), .val (.int q2), .val (.int q3), .val (.ref b1), .val (.ref b33), .val (.int (2 : Int32)), .val (.int (own_law_x7 q0 q1 q2 q3)), .val (.int (own_law_x8 q0 q1 q2 q3)), .val (.int (own_law_x9 q0 q1 q2 q3))]) rfl ?_
        refine o_iload X92 hx (hb hby at_276) (pc' := 278) rfl rfl ?_
        have J294_13 : ∀ (Tj294_13 : State) (lj294_13 : List Loc) (Xj294_13 : Stand p l e room_1 s m #[(.int q0), (.int q1), (.int q2), (.int q3)] below meth c Tj294_13 lj294_13 2 30) (ej294_13 : Tj294_13.heap = h63) (Nj294_13 : Fr n0 lj294_13) (z0 : Int32), z0 = (own_law_v294_13_S0 q0 q1 q2 q3) → Go p e below OWE (Tj294_13.setTop (mkF m 294 #[.val (.int q0), .val (.int q1), .val (.int q2), .val (.int q3), .val (.ref b1), .val (.ref b33), .val (.int (2 : Int32)), .val (.int (own_law_x7 q0 q1 q2 q3)), .val (.int (own_law_x8 q0 q1 q2 q3)), .val (.int (own_law_x9 q0 q1 q2 q3))] [.int z0])) := by
          intro Tj294_13 lj294_13 Xj294_13 ej294_13 Nj294_13 z0 yy0
          subst yy0
          refine o_istore Xj294_13 hx (hb hby at_294) (pc' := 296) rfl (L' := #[.val (.int q0), .val (.int q1), .val (.int q2), .val (.int q3), .val (.ref b1), .val (.ref b33), .val (.int (2 : Int32)), .val (.int (own_law_x7 q0 q1 q2 q3)), .val (.int (own_law_v294_13_S0 q0 q1 q2 q3)), .val (.int (own_law_x9 q0 q1 q2 q3))]) rfl ?_
          refine o_iloadN Xj294_13 hx (hb hby at_296) (pc' := 297) rfl rfl ?_
          refine o_bipush Xj294_13 hx (65 : Int32) (hb hby at_297) (pc' := 299) rfl (by decide) ?_
          have J327_16 : ∀ (Tj327_16 : State) (lj327_16 : List Loc) (Xj327_16 : Stand p l e room_1 s m #[(.int q0), (.int q1), (.int q2), (.int q3)] below meth c Tj327_16 lj327_16 2 30) (ej327_16 : Tj327_16.heap = h63) (Nj327_16 : Fr n0 lj327_16) (z0 : Int32), z0 = (own_law_v327_16_L8 q0 q1 q2 q3) → Go p e below OWE (Tj327_16.setTop (mkF m 327 #[.val (.int q0), .val (.int q1), .val (.int q2), .val (.int q3), .val (.ref b1), .val (.ref b33), .val (.int (2 : Int32)), .val (.int (own_law_x7 q0 q1 q2 q3)), .val (.int z0), .val (.int (own_law_x9 q0 q1 q2 q3))] [])) := by
            intro Tj327_16 lj327_16 Xj327_16 ej327_16 Nj327_16 z0 yy0
            subst yy0
            refine o_iload Xj327_16 hx (hb hby at_327) (pc' := 329) rfl rfl ?_
            rw [← hOWE]
            exact o_retZ Xj327_16 hx (own_narZ (own_law_v327_16_L8_01 q0 q1 q2 q3)) hlk hrt (hb hby at_329) (by decide) (by decide) (by rw [ej327_16]; exact ⟨(by rw [own_law_ret, if_neg hs65, if_neg hs78, if_pos hs91, own_law_ret_j294_13, own_law_ret_j327_16]), Nj327_16⟩)
          by_cases hc299_94 : q3 < (65 : Int32)
          · refine o_cmpY Xj294_13 hx (hb hby at_299) (tlt hc299_94).1 (by decide) (pc' := 308) (by decide) ?_
            refine o_iload Xj294_13 hx (hb hby at_308) (pc' := 310) rfl rfl ?_
            have J325_17 : ∀ (Tj325_17 : State) (lj325_17 : List Loc) (Xj325_17 : Stand p l e room_1 s m #[(.int q0), (.int q1), (.int q2), (.int q3)] below meth c Tj325_17 lj325_17 2 30) (ej325_17 : Tj325_17.heap = h63) (Nj325_17 : Fr n0 lj325_17) (z0 : Int32), z0 = (own_law_v325_14_S0 q0 q1 q2 q3) → Go p e below OWE (Tj325_17.setTop (mkF m 325 #[.val (.int q0), .val (.int q1), .val (.int q2), .val (.int q3), .val (.ref b1), .val (.ref b33), .val (.int (2 : Int32)), .val (.int (own_law_x7 q0 q1 q2 q3)), .val (.int (own_law_v294_13_S0 q0 q1 q2 q3)), .val (.int (own_law_x9 q0 q1 q2 q3))] [.int z0])) := by
              intro Tj325_17 lj325_17 Xj325_17 ej325_17 Nj325_17 z0 yy0
              subst yy0
              refine o_istore Xj325_17 hx (hb hby at_325) (pc' := 327) rfl (L' := #[.val (.int q0), .val (.int q1), .val (.int q2), .val (.int q3), .val (.ref b1), .val (.ref b33), .val (.int (2 : Int32)), .val (.int (own_law_x7 q0 q1 q2 q3)), .val (.int (own_law_v325_14_S0 q0 q1 q2 q3)), .val (.int (own_law_x9 q0 q1 q2 q3))]) rfl ?_
              exact J327_16 _ _ Xj325_17 ej325_17 Nj325_17 ((own_law_v325_14_S0 q0 q1 q2 q3)) (by rw [own_law_v327_16_L8, if_pos hc299_94])
            by_cases hc310_95 : (own_law_v294_13_S0 q0 q1 q2 q3) = (0 : Int32)
            · refine o_ifY Xj294_13 hx (hb hby at_310) (teq hc310_95).1 (by decide) (pc' := 324) (by decide) ?_
              refine o_iconst Xj294_13 hx (0 : Int32) (hb hby at_324) (pc' := 325) rfl (by decide) ?_
              exact J325_17 _ _ Xj294_13 ej294_13 Nj294_13 ((0 : Int32)) (by rw [own_law_v325_14_S0, if_pos hc310_95])
            · refine o_ifN Xj294_13 hx (hb hby at_310) (feq hc310_95).1 (pc' := 313) rfl ?_
              refine o_iloadN Xj294_13 hx (hb hby at_313) (pc' := 314) rfl rfl ?_
              refine o_callS Xj294_13 hx hZ 0 (argsL := [.int q3]) (rest := []) hown (w 9 _ rfl) (w 10 _ rfl) (w 11 _ rfl) (w 12 _ rfl) (by decide) (rm1 l Z a0 hw [] q3 h63 n0 Z63 ) (by decide) (by decide) (cells' := 2) rfl (slots' := 30) rfl (by decide) (by decide) ej294_13 (by rw [hml]; rfl) (lenOf pd_0 rfl) rfl rfl (hb hby at_314) (pc' := 317) rfl ?_
              intro T96 v96 L96 X96 hQ96
              obtain ⟨rfl, Nq96, e96⟩ := hQ96
              have N96 := Fr.app Nj294_13 Nq96
              show Go p e below _ (T96.setTop (mkF m 317 _ [.int (own_f1_ret q3)]))
              by_cases hc317_97 : (own_f1_ret q3) = (0 : Int32)
              · refine o_ifN X96 hx (hb hby at_317) (teq hc317_97).2 (pc' := 320) rfl ?_
                refine o_iconst X96 hx (1 : Int32) (hb hby at_320) (pc' := 321) rfl (by decide) ?_
                refine o_goto X96 hx (hb hby at_321) (by decide) (pc' := 325) (by decide) ?_
                exact J325_17 _ _ X96 e96 N96 ((1 : Int32)) (by rw [own_law_v325_14_S0, if_neg hc310_95, if_pos hc317_97])
              · refine o_ifY X96 hx (hb hby at_317) (feq hc317_97).2 (by decide) (pc' := 324) (by decide) ?_
                refine o_iconst X96 hx (0 : Int32) (hb hby at_324) (pc' := 325) rfl (by decide) ?_
                exact J325_17 _ _ X96 e96 N96 ((0 : Int32)) (by rw [own_law_v325_14_S0, if_neg hc310_95, if_neg hc317_97])
          · refine o_cmpN Xj294_13 hx (hb hby at_299) (flt hc299_94).1 (pc' := 302) rfl ?_
            refine o_iloadN Xj294_13 hx (hb hby at_302) (pc' := 303) rfl rfl ?_
            refine o_ldcI Xj294_13 hx hZ (983039 : Int32) hown (w 7 _ rfl) (hb hby at_303) (pc' := 305) rfl ?_
            by_cases hc305_98 : (983039 : Int32) < q3
            · refine o_cmpN Xj294_13 hx (hb hby at_305) (tlt hc305_98).2.2.2 (pc' := 308) rfl ?_
              refine o_iload Xj294_13 hx (hb hby at_308) (pc' := 310) rfl rfl ?_
              have J325_18 : ∀ (Tj325_18 : State) (lj325_18 : List Loc) (Xj325_18 : Stand p l e room_1 s m #[(.int q0), (.int q1), (.int q2), (.int q3)] below meth c Tj325_18 lj325_18 2 30) (ej325_18 : Tj325_18.heap = h63) (Nj325_18 : Fr n0 lj325_18) (z0 : Int32), z0 = (own_law_v325_14_S0 q0 q1 q2 q3) → Go p e below OWE (Tj325_18.setTop (mkF m 325 #[.val (.int q0), .val (.int q1), .val (.int q2), .val (.int q3), .val (.ref b1), .val (.ref b33), .val (.int (2 : Int32)), .val (.int (own_law_x7 q0 q1 q2 q3)), .val (.int (own_law_v294_13_S0 q0 q1 q2 q3)), .val (.int (own_law_x9 q0 q1 q2 q3))] [.int z0])) := by
                intro Tj325_18 lj325_18 Xj325_18 ej325_18 Nj325_18 z0 yy0
                subst yy0
                refine o_istore Xj325_18 hx (hb hby at_325) (pc' := 327) rfl (L' := #[.val (.int q0), .val (.int q1), .val (.int q2), .val (.int q3), .val (.ref b1), .val (.ref b33), .val (.int (2 : Int32)), .val (.int (own_law_x7 q0 q1 q2 q3)), .val (.int (own_law_v325_14_S0 q0 q1 q2 q3)), .val (.int (own_law_x9 q0 q1 q2 q3))]) rfl ?_
                exact J327_16 _ _ Xj325_18 ej325_18 Nj325_18 ((own_law_v325_14_S0 q0 q1 q2 q3)) (by rw [own_law_v327_16_L8, if_neg hc299_94, if_pos hc305_98])
              by_cases hc310_99 : (own_law_v294_13_S0 q0 q1 q2 q3) = (0 : Int32)
              · refine o_ifY Xj294_13 hx (hb hby at_310) (teq hc310_99).1 (by decide) (pc' := 324) (by decide) ?_
                refine o_iconst Xj294_13 hx (0 : Int32) (hb hby at_324) (pc' := 325) rfl (by decide) ?_
                exact J325_18 _ _ Xj294_13 ej294_13 Nj294_13 ((0 : Int32)) (by rw [own_law_v325_14_S0, if_pos hc310_99])
              · refine o_ifN Xj294_13 hx (hb hby at_310) (feq hc310_99).1 (pc' := 313) rfl ?_
                refine o_iloadN Xj294_13 hx (hb hby at_313) (pc' := 314) rfl rfl ?_
                refine o_callS Xj294_13 hx hZ 0 (argsL := [.int q3]) (rest := []) hown (w 9 _ rfl) (w 10 _ rfl) (w 11 _ rfl) (w 12 _ rfl) (by decide) (rm1 l Z a0 hw [] q3 h63 n0 Z63 ) (by decide) (by decide) (cells' := 2) rfl (slots' := 30) rfl (by decide) (by decide) ej294_13 (by rw [hml]; rfl) (lenOf pd_0 rfl) rfl rfl (hb hby at_314) (pc' := 317) rfl ?_
                intro T100 v100 L100 X100 hQ100
                obtain ⟨rfl, Nq100, e100⟩ := hQ100
                have N100 := Fr.app Nj294_13 Nq100
                show Go p e below _ (T100.setTop (mkF m 317 _ [.int (own_f1_ret q3)]))
                by_cases hc317_101 : (own_f1_ret q3) = (0 : Int32)
                · refine o_ifN X100 hx (hb hby at_317) (teq hc317_101).2 (pc' := 320) rfl ?_
                  refine o_iconst X100 hx (1 : Int32) (hb hby at_320) (pc' := 321) rfl (by decide) ?_
                  refine o_goto X100 hx (hb hby at_321) (by decide) (pc' := 325) (by decide) ?_
                  exact J325_18 _ _ X100 e100 N100 ((1 : Int32)) (by rw [own_law_v325_14_S0, if_neg hc310_99, if_pos hc317_101])
                · refine o_ifY X100 hx (hb hby at_317) (feq hc317_101).2 (by decide) (pc' := 324) (by decide) ?_
                  refine o_iconst X100 hx (0 : Int32) (hb hby at_324) (pc' := 325) rfl (by decide) ?_
                  exact J325_18 _ _ X100 e100 N100 ((0 : Int32)) (by rw [own_law_v325_14_S0, if_neg hc310_99, if_neg hc317_101])
            · refine o_cmpY Xj294_13 hx (hb hby at_305) (flt hc305_98).2.2.2 (by decide) (pc' := 327) (by decide) ?_
              exact J327_16 _ _ Xj294_13 ej294_13 Nj294_13 ((own_law_v294_13_S0 q0 q1 q2 q3)) (by rw [own_law_v327_16_L8, if_neg hc299_94, if_neg hc305_98])
        by_cases hc278_93 : (own_law_x8 q0 q1 q2 q3) = (0 : Int32)
        · refine o_ifY X92 hx (hb hby at_278) (teq hc278_93).1 (by decide) (pc' := 293) (by decide) ?_
          refine o_iconst X92 hx (0 : Int32) (hb hby at_293) (pc' := 294) rfl (by decide) ?_
          exact J294_13 _ _ X92 e92 N92 ((0 : Int32)) (by rw [own_law_v294_13_S0, if_pos hc278_93])
        · refine o_ifN X92 hx (hb hby at_278) (feq hc278_93).1 (pc' := 281) rfl ?_
          refine o_iload X92 hx (hb hby at_281) (pc' := 283) rfl rfl ?_
          refine o_callS X92 hx hZ 0 (argsL := [.int (own_law_x9 q0 q1 q2 q3)]) (rest := []) hown (w 9 _ rfl) (w 10 _ rfl) (w 11 _ rfl) (w 12 _ rfl) (by decide) (rm1 l Z a0 hw [] (own_law_x9 q0 q1 q2 q3) h63 n0 Z63 ) (by decide) (by decide) (cells' := 2) rfl (slots' := 30) rfl (by decide) (by decide) e92 (by rw [hml]; rfl) (lenOf pd_0 rfl) rfl rfl (hb hby at_283) (pc' := 286) rfl ?_
          intro T102 v102 L102 X102 hQ102
          obtain ⟨rfl, Nq102, e102⟩ := hQ102
          have N102 := Fr.app N92 Nq102
          show Go p e below _ (T102.setTop (mkF m 286 _ [.int (own_f1_ret (own_law_x9 q0 q1 q2 q3))]))
          by_cases hc286_103 : (own_f1_ret (own_law_x9 q0 q1 q2 q3)) = (0 : Int32)
          · refine o_ifN X102 hx (hb hby at_286) (teq hc286_103).2 (pc' := 289) rfl ?_
            refine o_iconst X102 hx (1 : Int32) (hb hby at_289) (pc' := 290) rfl (by decide) ?_
            refine o_goto X102 hx (hb hby at_290) (by decide) (pc' := 294) (by decide) ?_
            exact J294_13 _ _ X102 e102 N102 ((1 : Int32)) (by rw [own_law_v294_13_S0, if_neg hc278_93, if_pos hc286_103])
          · refine o_ifY X102 hx (hb hby at_286) (feq hc286_103).2 (by decide) (pc' := 293) (by decide) ?_
            refine o_iconst X102 hx (0 : Int32) (hb hby at_293) (pc' := 294) rfl (by decide) ?_
            exact J294_13 _ _ X102 e102 N102 ((0 : Int32)) (by rw [own_law_v294_13_S0, if_neg hc278_93, if_neg hc286_103])
      · by_cases hs104 : (own_law_x0 q0 q1 q2 q3) = (3 : Int32)
        · rw [hs104]
          refine o_aload X63 hx (hb hby at_206) (pc' := 208) rfl rfl rfl ?_
          refine o_iload X63 hx (hb hby at_208) (pc' := 210) rfl rfl ?_
          refine o_iaload X63 hx hZ (.int (192 : Int32)) e63 V64_b1 (by decide) (by rfl) (hb hby at_210) (pc' := 211) rfl ?_
          refine o_iloadN X63 hx (hb hby at_211) (pc' := 212) rfl rfl ?_
          refine o_ldcI X63 hx hZ (2147483647 : Int32) hown (w 8 _ rfl) (hb hby at_212) (pc' := 214) rfl ?_
          refine o_iand X63 hx (hb hby at_214) (pc' := 215) rfl ?_
          refine o_aload X63 hx (hb hby at_215) (pc' := 217) rfl rfl rfl ?_
          refine o_iload X63 hx (hb hby at_217) (pc' := 219) rfl rfl ?_
          refine o_iaload X63 hx hZ (.int (214 : Int32)) e63 V63_ (by decide) (by rfl) (hb hby at_219) (pc' := 220) rfl ?_
          refine o_aload X63 hx (hb hby at_220) (pc' := 222) rfl rfl rfl ?_
          refine o_iload X63 hx (hb hby at_222) (pc' := 224) rfl rfl ?_
          refine o_iaload X63 hx hZ (.int (192 : Int32)) e63 V64_b1 (by decide) (by rfl) (hb hby at_224) (pc' := 225) rfl ?_
          refine o_isub X63 hx (hb hby at_225) (pc' := 226) rfl ?_
          rw [show ((214 : Int32) - (192 : Int32)) = (22 : Int32) from by decide]
          refine o_iconst X63 hx (1 : Int32) (hb hby at_226) (pc' := 227) rfl (by decide) ?_
          refine o_iadd X63 hx (hb hby at_227) (pc' := 228) rfl ?_
          rw [show ((22 : Int32) + (1 : Int32)) = (23 : Int32) from by decide]
          refine o_irem X63 hx (hb hby at_228) (pc' := 229) rfl (by decide) ?_
          refine o_iadd X63 hx (hb hby at_229) (pc' := 230) rfl ?_
          refine o_istore (x := (own_law_x10 q0 q1 q2 q3)) X63 hx (hb hby at_230) (pc' := 232) rfl (L' := #[.val (.int q0), .val (.int q1), .val (.int q2), .val (.int q3), .val (.ref b1), .val (.ref b33), .val (.int (3 : Int32)), .val (.int (own_law_x10 q0 q1 q2 q3)), .unset, .unset]) rfl ?_
          refine o_iload X63 hx (hb hby at_232) (pc' := 234) rfl rfl ?_
          refine o_callS X63 hx hZ 0 (argsL := [.int (own_law_x10 q0 q1 q2 q3)]) (rest := []) hown (w 9 _ rfl) (w 10 _ rfl) (w 11 _ rfl) (w 12 _ rfl) (by decide) (rm1 l Z a0 hw [] (own_law_x10 q0 q1 q2 q3) h63 n0 Z63 ) (by decide) (by decide) (cells' := 2) rfl (slots' := 30) rfl (by decide) (by decide) e63 (by rw [hml]; rfl) (lenOf pd_0 rfl) rfl rfl (hb hby at_234) (pc' := 237) rfl ?_
          intro T105 v105 L105 X105 hQ105
          obtain ⟨rfl, Nq105, e105⟩ := hQ105
          have N105 := Fr.app N63 Nq105
          show Go p e below _ (T105.setTop (mkF m 237 _ [.int (own_f1_ret (own_law_x10 q0 q1 q2 q3))]))
          refine o_istore (x := (own_law_x11 q0 q1 q2 q3)) X105 hx (hb hby at_237) (pc' := 239) rfl (L' := #[.val (.int q0), .val (.int q1), .val (.int q2), .val (.int q3), .val (.ref b1), .val (.ref b33), .val (.int (3 : Int32)), .val (.int (own_law_x10 q0 q1 q2 q3)), .val (.int (own_law_x11 q0 q1 q2 q3)), .unset]) rfl ?_
          refine o_iload X105 hx (hb hby at_239) (pc' := 241) rfl rfl ?_
          refine o_bipush X105 hx (14 : Int32) (hb hby at_241) (pc' := 243) rfl (by decide) ?_
          refine o_cmpN X105 hx (hb hby at_243) (tlt (by decide : (3 : Int32) < (14 : Int32))).2.1 (pc' := 246) rfl ?_
          refine o_aload X105 hx (hb hby at_246) (pc' := 248) rfl rfl rfl ?_
          refine o_iload X105 hx (hb hby at_248) (pc' := 250) rfl rfl ?_
          refine o_iaload X105 hx hZ (.int (214 : Int32)) e105 V63_ (by decide) (by rfl) (hb hby at_250) (pc' := 251) rfl ?_
          refine o_iconst X105 hx (1 : Int32) (hb hby at_251) (pc' := 252) rfl (by decide) ?_
          refine o_iadd X105 hx (hb hby at_252) (pc' := 253) rfl ?_
          rw [show ((214 : Int32) + (1 : Int32)) = (215 : Int32) from by decide]
          refine o_iloadN X105 hx (hb hby at_253) (pc' := 254) rfl rfl ?_
          refine o_ldcI X105 hx hZ (2147483647 : Int32) hown (w 8 _ rfl) (hb hby at_254) (pc' := 256) rfl ?_
          refine o_iand X105 hx (hb hby at_256) (pc' := 257) rfl ?_
          refine o_aload X105 hx (hb hby at_257) (pc' := 259) rfl rfl rfl ?_
          refine o_iload X105 hx (hb hby at_259) (pc' := 261) rfl rfl ?_
          refine o_iconst X105 hx (1 : Int32) (hb hby at_261) (pc' := 262) rfl (by decide) ?_
          refine o_iadd X105 hx (hb hby at_262) (pc' := 263) rfl ?_
          rw [show ((3 : Int32) + (1 : Int32)) = (4 : Int32) from by decide]
          refine o_iaload X105 hx hZ (.int (216 : Int32)) e105 V64_b1 (by decide) (by rfl) (hb hby at_263) (pc' := 264) rfl ?_
          refine o_aload X105 hx (hb hby at_264) (pc' := 266) rfl rfl rfl ?_
          refine o_iload X105 hx (hb hby at_266) (pc' := 268) rfl rfl ?_
          refine o_iaload X105 hx hZ (.int (214 : Int32)) e105 V63_ (by decide) (by rfl) (hb hby at_268) (pc' := 269) rfl ?_
          refine o_isub X105 hx (hb hby at_269) (pc' := 270) rfl ?_
          rw [show ((216 : Int32) - (214 : Int32)) = (2 : Int32) from by decide]
          refine o_iconst X105 hx (1 : Int32) (hb hby at_270) (pc' := 271) rfl (by decide) ?_
          refine o_isub X105 hx (hb hby at_271) (pc' := 272) rfl ?_
          rw [show ((2 : Int32) - (1 : Int32)) = (1 : Int32) from by decide]
          refine o_irem X105 hx (hb hby at_272) (pc' := 273) rfl (by decide) ?_
          refine o_iadd X105 hx (hb hby at_273) (pc' := 274) rfl ?_
          refine o_istore (x := (own_law_x12 q0 q1 q2 q3)) X105 hx (hb hby at_274) (pc' := 276) rfl (L' := #[.val (.int q0), .val (.int q1), .val (.int q2), .val (.int q3), .val (.ref b1), .val (.ref b33), .val (.int (3 : Int32)), .val (.int (own_law_x10 q0 q1 q2 q3)), .val (.int (own_law_x11 q0 q1 q2 q3)), .val (.int (own_law_x12 q0 q1 q2 q3))]) rfl ?_
          refine o_iload X105 hx (hb hby at_276) (pc' := 278) rfl rfl ?_
          have J294_19 : ∀ (Tj294_19 : State) (lj294_19 : List Loc) (Xj294_19 : Stand p l e room_1 s m #[(.int q0), (.int q1), (.int q2), (.int q3)] below meth c Tj294_19 lj294_19 2 30) (ej294_19 : Tj294_19.heap = h63) (Nj294_19 : Fr n0 lj294_19) (z0 : Int32), z0 = (own_law_v294_19_S0 q0 q1 q2 q3) → Go p e below OWE (Tj294_19.setTop (mkF m 294 #[.val (.int q0), .val (.int q1), .val (.int q2), .val (.int q3), .val (.ref b1), .val (.ref b33), .val (.int (3 : Int32)), .val (.int (own_law_x10 q0 q1 q2 q3)), .val (.int (own_law_x11 q0 q1 q2 q3)), .val (.int (own_law_x12 q0 q1 q2 q3))] [.int z0])) := by
            intro Tj294_19 lj294_19 Xj294_19 ej294_19 Nj294_19 z0 yy0
            subst yy0
            refine o_istore Xj294_19 hx (hb hby at_294) (pc' := 296) rfl (L' := #[.val (.int q0), .val (.int q1), .val (.int q2), .val (.int q3), .val (.ref b1), .val (.ref b33), .val (.int (3 : Int32)), .val (.int (own_law_x10 q0 q1 q2 q3)), .val (.int (own_law_v294_19_S0 q0 q1 q2 q3)), .val (.int (own_law_x12 q0 q1 q2 q3))]) rfl ?_
            refine o_iloadN Xj294_19 hx (hb hby at_296) (pc' := 297) rfl rfl ?_
            refine o_bipush Xj294_19 hx (65 : Int32) (hb hby at_297) (pc' := 299) rfl (by decide) ?_
            have J327_22 : ∀ (Tj327_22 : State) (lj327_22 : List Loc) (Xj327_22 : Stand p l e room_1 s m #[(.int q0), (.int q1), (.int q2), (.int q3)] below meth c Tj327_22 lj327_22 2 30) (ej327_22 : Tj327_22.heap = h63) (Nj327_22 : Fr n0 lj327_22) (z0 : Int32), z0 = (own_law_v327_22_L8 q0 q1 q2 q3) → Go p e below OWE (Tj327_22.setTop (mkF m 327 #[.val (.int q0), .val (.int q1), .val (.int q2), .val (.int q3), .val (.ref b1), .val (.ref b33), .val (.int (3 : Int32)), .val (.int (own_law_x10 q0 q1 q2 q3)), .val (.int z0), .val (.int (own_law_x12 q0 q1 q2 q3))] [])) := by
              intro Tj327_22 lj327_22 Xj327_22 ej327_22 Nj327_22 z0 yy0
              subst yy0
              refine o_iload Xj327_22 hx (hb hby at_327) (pc' := 329) rfl rfl ?_
              rw [← hOWE]
              exact o_retZ Xj327_22 hx (own_narZ (own_law_v327_22_L8_01 q0 q1 q2 q3)) hlk hrt (hb hby at_329) (by decide) (by decide) (by rw [ej327_22]; exact ⟨(by rw [own_law_ret, if_neg hs65, if_neg hs78, if_neg hs91, if_pos hs104, own_law_ret_j294_19, own_law_ret_j327_22]), Nj327_22⟩)
            by_cases hc299_107 : q3 < (65 : Int32)
            · refine o_cmpY Xj294_19 hx (hb hby at_299) (tlt hc299_107).1 (by decide) (pc' := 308) (by decide) ?_
              refine o_iload Xj294_19 hx (hb hby at_308) (pc' := 310) rfl rfl ?_
              have J325_23 : ∀ (Tj325_23 : State) (lj325_23 : List Loc) (Xj325_23 : Stand p l e room_1 s m #[(.int q0), (.int q1), (.int q2), (.int q3)] below meth c Tj325_23 lj325_23 2 30) (ej325_23 : Tj325_23.heap = h63) (Nj325_23 : Fr n0 lj325_23) (z0 : Int32), z0 = (own_law_v325_20_S0 q0 q1 q2 q3) → Go p e below OWE (Tj325_23.setTop (mkF m 325 #[.val (.int q0), .val (.int q1), .val (.int q2), .val (.int q3), .val (.ref b1), .val (.ref b33), .val (.int (3 : Int32)), .val (.int (own_law_x10 q0 q1 q2 q3)), .val (.int (own_law_v294_19_S0 q0 q1 q2 q3)), .val (.int (own_law_x12 q0 q1 q2 q3))] [.int z0])) := by
                intro Tj325_23 lj325_23 Xj325_23 ej325_23 Nj325_23 z0 yy0
                subst yy0
                refine o_istore Xj325_23 hx (hb hby at_325) (pc' := 327) rfl (L' := #[.val (.int q0), .val (.int q1), .val (.int q2), .val (.int q3), .val (.ref b1), .val (.ref b33), .val (.int (3 : Int32)), .val (.int (own_law_x10 q0 q1 q2 q3)), .val (.int (own_law_v325_20_S0 q0 q1 q2 q3)), .val (.int (own_law_x12 q0 q1 q2 q3))]) rfl ?_
                exact J327_22 _ _ Xj325_23 ej325_23 Nj325_23 ((own_law_v325_20_S0 q0 q1 q2 q3)) (by rw [own_law_v327_22_L8, if_pos hc299_107])
              by_cases hc310_108 : (own_law_v294_19_S0 q0 q1 q2 q3) = (0 : Int32)
              · refine o_ifY Xj294_19 hx (hb hby at_310) (teq hc310_108).1 (by decide) (pc' := 324) (by decide) ?_
                refine o_iconst Xj294_19 hx (0 : Int32) (hb hby at_324) (pc' := 325) rfl (by decide) ?_
                exact J325_23 _ _ Xj294_19 ej294_19 Nj294_19 ((0 : Int32)) (by rw [own_law_v325_20_S0, if_pos hc310_108])
              · refine o_ifN Xj294_19 hx (hb hby at_310) (feq hc310_108).1 (pc' := 313) rfl ?_
                refine o_iloadN Xj294_19 hx (hb hby at_313) (pc' := 314) rfl rfl ?_
                refine o_callS Xj294_19 hx hZ 0 (argsL := [.int q3]) (rest := []) hown (w 9 _ rfl) (w 10 _ rfl) (w 11 _ rfl) (w 12 _ rfl) (by decide) (rm1 l Z a0 hw [] q3 h63 n0 Z63 ) (by decide) (by decide) (cells' := 2) rfl (slots' := 30) rfl (by decide) (by decide) ej294_19 (by rw [hml]; rfl) (lenOf pd_0 rfl) rfl rfl (hb hby at_314) (pc' := 317) rfl ?_
                intro T109 v109 L109 X109 hQ109
                obtain ⟨rfl, Nq109, e109⟩ := hQ109
                have N109 := Fr.app Nj294_19 Nq109
                show Go p e below _ (T109.setTop (mkF m 317 _ [.int (own_f1_ret q3)]))
                by_cases hc317_110 : (own_f1_ret q3) = (0 : Int32)
                · refine o_ifN X109 hx (hb hby at_317) (teq hc317_110).2 (pc' := 320) rfl ?_
                  refine o_iconst X109 hx (1 : Int32) (hb hby at_320) (pc' := 321) rfl (by decide) ?_
                  refine o_goto X109 hx (hb hby at_321) (by decide) (pc' := 325) (by decide) ?_
                  exact J325_23 _ _ X109 e109 N109 ((1 : Int32)) (by rw [own_law_v325_20_S0, if_neg hc310_108, if_pos hc317_110])
                · refine o_ifY X109 hx (hb hby at_317) (feq hc317_110).2 (by decide) (pc' := 324) (by decide) ?_
                  refine o_iconst X109 hx (0 : Int32) (hb hby at_324) (pc' := 325) rfl (by decide) ?_
                  exact J325_23 _ _ X109 e109 N109 ((0 : Int32)) (by rw [own_law_v325_20_S0, if_neg hc310_108, if_neg hc317_110])
            · refine o_cmpN Xj294_19 hx (hb hby at_299) (flt hc299_107).1 (pc' := 302) rfl ?_
              refine o_iloadN Xj294_19 hx (hb hby at_302) (pc' := 303) rfl rfl ?_
              refine o_ldcI Xj294_19 hx hZ (983039 : Int32) hown (w 7 _ rfl) (hb hby at_303) (pc' := 305) rfl ?_
              by_cases hc305_111 : (983039 : Int32) < q3
              · refine o_cmpN Xj294_19 hx (hb hby at_305) (tlt hc305_111).2.2.2 (pc' := 308) rfl ?_
                refine o_iload Xj294_19 hx (hb hby at_308) (pc' := 310) rfl rfl ?_
                have J325_24 : ∀ (Tj325_24 : State) (lj325_24 : List Loc) (Xj325_24 : Stand p l e room_1 s m #[(.int q0), (.int q1), (.int q2), (.int q3)] below meth c Tj325_24 lj325_24 2 30) (ej325_24 : Tj325_24.heap = h63) (Nj325_24 : Fr n0 lj325_24) (z0 : Int32), z0 = (own_law_v325_20_S0 q0 q1 q2 q3) → Go p e below OWE (Tj325_24.setTop (mkF m 325 #[.val (.int q0), .val (.int q1), .val (.int q2), .val (.int q3), .val (.ref b1), .val (.ref b33), .val (.int (3 : Int32)), .val (.int (own_law_x10 q0 q1 q2 q3)), .val (.int (own_law_v294_19_S0 q0 q1 q2 q3)), .val (.int (own_law_x12 q0 q1 q2 q3))] [.int z0])) := by
                  intro Tj325_24 lj325_24 Xj325_24 ej325_24 Nj325_24 z0 yy0
                  subst yy0
                  refine o_istore Xj325_24 hx (hb hby at_325) (pc' := 327) rfl (L' := #[.val (.int q0), .val (.int q1), .val (.int q2), .val (.int q3), .val (.ref b1), .val (.ref b33), .val (.int (3 : Int32)), .val (.int (own_law_x10 q0 q1 q2 q3)), .val (.int (own_law_v325_20_S0 q0 q1 q2 q3)), .val (.int (own_law_x12 q0 q1 q2 q3))]) rfl ?_
                  exact J327_22 _ _ Xj325_24 ej325_24 Nj325_24 ((own_law_v325_20_S0 q0 q1 q2 q3)) (by rw [own_law_v327_22_L8, if_neg hc299_107, if_pos hc305_111])
                by_cases hc310_112 : (own_law_v294_19_S0 q0 q1 q2 q3) = (0 : Int32)
                · refine o_ifY Xj294_19 hx (hb hby at_310) (teq hc310_112).1 (by decide) (pc' := 324) (by decide) ?_
                  refine o_iconst Xj294_19 hx (0 : Int32) (hb hby at_324) (pc' := 325) rfl (by decide) ?_
                  exact J325_24 _ _ Xj294_19 ej294_19 Nj294_19 ((0 : Int32)) (by rw [own_law_v325_20_S0, if_pos hc310_112])
                · refine o_ifN Xj294_19 hx (hb hby at_310) (feq hc310_112).1 (pc' := 313) rfl ?_
                  refine o_iloadN Xj294_19 hx (hb hby at_313) (pc' := 314) rfl rfl ?_
                  refine o_callS Xj294_19 hx hZ 0 (argsL := [.int q3]) (rest := []) hown (w 9 _ rfl) (w 10 _ rfl) (w 11 _ rfl) (w 12 _ rfl) (by decide) (rm1 l Z a0 hw [] q3 h63 n0 Z63 ) (by decide) (by decide) (cells' := 2) rfl (slots' := 30) rfl (by decide) (by decide) ej294_19 (by rw [hml]; rfl) (lenOf pd_0 rfl) rfl rfl (hb hby at_314) (pc' := 317) rfl ?_
                  intro T113 v113 L113 X113 hQ113
                  obtain ⟨rfl, Nq113, e113⟩ := hQ113
                  have N113 := Fr.app Nj294_19 Nq113
                  show Go p e below _ (T113.setTop (mkF m 317 _ [.int (own_f1_ret q3)]))
                  by_cases hc317_114 : (own_f1_ret q3) = (0 : Int32)
                  · refine o_ifN X113 hx (hb hby at_317) (teq hc317_114).2 (pc' := 320) rfl ?_
                    refine o_iconst X113 hx (1 : Int32) (hb hby at_320) (pc' := 321) rfl (by decide) ?_
                    refine o_goto X113 hx (hb hby at_321) (by decide) (pc' := 325) (by decide) ?_
                    exact J325_24 _ _ X113 e113 N113 ((1 : Int32)) (by rw [own_law_v325_20_S0, if_neg hc310_112, if_pos hc317_114])
                  · refine o_ifY X113 hx (hb hby at_317) (feq hc317_114).2 (by decide) (pc' := 324) (by decide) ?_
                    refine o_iconst X113 hx (0 : Int32) (hb hby at_324) (pc' := 325) rfl (by decide) ?_
                    exact J325_24 _ _ X113 e113 N113 ((0 : Int32)) (by rw [own_law_v325_20_S0, if_neg hc310_112, if_neg hc317_114])
              · refine o_cmpY Xj294_19 hx (hb hby at_305) (flt hc305_111).2.2.2 (by decide) (pc' := 327) (by decide) ?_
                exact J327_22 _ _ Xj294_19 ej294_19 Nj294_19 ((own_law_v294_19_S0 q0 q1 q2 q3)) (by rw [own_law_v327_22_L8, if_neg hc299_107, if_neg hc305_111])
          by_cases hc278_106 : (own_law_x11 q0 q1 q2 q3) = (0 : Int32)
          · refine o_ifY X105 hx (hb hby at_278) (teq hc278_106).1 (by decide) (pc' := 293) (by decide) ?_
            refine o_iconst X105 hx (0 : Int32) (hb hby at_293) (pc' := 294) rfl (by decide) ?_
            exact J294_19 _ _ X105 e105 N105 ((0 : Int32)) (by rw [own_law_v294_19_S0, if_pos hc278_106])
          · refine o_ifN X105 hx (hb hby at_278) (feq hc278_106).1 (pc' := 281) rfl ?_
            refine o_iload X105 hx (hb hby at_281) (pc' := 283) rfl rfl ?_
            refine o_callS X105 hx hZ 0 (argsL := [.int (own_law_x12 q0 q1 q2 q3)]) (rest := []) hown (w 9 _ rfl) (w 10 _ rfl) (w 11 _ rfl) (w 12 _ rfl) (by decide) (rm1 l Z a0 hw [] (own_law_x12 q0 q1 q2 q3) h63 n0 Z63 ) (by decide) (by decide) (cells' := 2) rfl (slots' := 30) rfl (by decide) (by decide) e105 (by rw [hml]; rfl) (lenOf pd_0 rfl) rfl rfl (hb hby at_283) (pc' := 286) rfl ?_
            intro T115 v115 L115 X115 hQ115
            obtain ⟨rfl, Nq115, e115⟩ := hQ115
            have N115 := Fr.app N105 Nq115
            show Go p e below _ (T115.setTop (mkF m 286 _ [.int (own_f1_ret (own_law_x12 q0 q1 q2 q3))]))
            by_cases hc286_116 : (own_f1_ret (own_law_x12 q0 q1 q2 q3)) = (0 : Int32)
            · refine o_ifN X115 hx (hb hby at_286) (teq hc286_116).2 (pc' := 289) rfl ?_
              refine o_iconst X115 hx (1 : Int32) (hb hby at_289) (pc' := 290) rfl (by decide) ?_
              refine o_goto X115 hx (hb hby at_290) (by decide) (pc' := 294) (by decide) ?_
              exact J294_19 _ _ X115 e115 N115 ((1 : Int32)) (by rw [own_law_v294_19_S0, if_neg hc278_106, if_pos hc286_116])
            · refine o_ifY X115 hx (hb hby at_286) (feq hc286_116).2 (by decide) (pc' := 293) (by decide) ?_
              refine o_iconst X115 hx (0 : Int32) (hb hby at_293) (pc' := 294) rfl (by decide) ?_
              exact J294_19 _ _ X115 e115 N115 ((0 : Int32)) (by rw [own_law_v294_19_S0, if_neg hc278_106, if_neg hc286_116])
        · by_cases hs117 : (own_law_x0 q0 q1 q2 q3) = (4 : Int32)
          · rw [hs117]
            refine o_aload X63 hx (hb hby at_206) (pc' := 208) rfl rfl rfl ?_
            refine o_iload X63 hx (hb hby at_208) (pc' := 210) rfl rfl ?_
            refine o_iaload X63 hx hZ (.int (216 : Int32)) e63 V64_b1 (by decide) (by rfl) (hb hby at_210) (pc' := 211) rfl ?_
            refine o_iloadN X63 hx (hb hby at_211) (pc' := 212) rfl rfl ?_
            refine o_ldcI X63 hx hZ (2147483647 : Int32) hown (w 8 _ rfl) (hb hby at_212) (pc' := 214) rfl ?_
            refine o_iand X63 hx (hb hby at_214) (pc' := 215) rfl ?_
            refine o_aload X63 hx (hb hby at_215) (pc' := 217) rfl rfl rfl ?_
            refine o_iload X63 hx (hb hby at_217) (pc' := 219) rfl rfl ?_
            refine o_iaload X63 hx hZ (.int (246 : Int32)) e63 V63_ (by decide) (by rfl) (hb hby at_219) (pc' := 220) rfl ?_
            refine o_aload X63 hx (hb hby at_220) (pc' := 222) rfl rfl rfl ?_
            refine o_iload X63 hx (hb hby at_222) (pc' := 224) rfl rfl ?_
            refine o_iaload X63 hx hZ (.int (216 : Int32)) e63 V64_b1 (by decide) (by rfl) (hb hby at_224) (pc' := 225) rfl ?_
            refine o_isub X63 hx (hb hby at_225) (pc' := 226) rfl ?_
            rw [show ((246 : Int32) - (216 : Int32)) = (30 : Int32) from by decide]
            refine o_iconst X63 hx (1 : Int32) (hb hby at_226) (pc' := 227) rfl (by decide) ?_
            refine o_iadd X63 hx (hb hby at_227) (pc' := 228) rfl ?_
            rw [show ((30 : Int32) + (1 : Int32)) = (31 : Int32) from by decide]
            refine o_irem X63 hx (hb hby at_228) (pc' := 229) rfl (by decide) ?_
            refine o_iadd X63 hx (hb hby at_229) (pc' := 230) rfl ?_
            refine o_istore (x := (own_law_x13 q0 q1 q2 q3)) X63 hx (hb hby at_230) (pc' := 232) rfl (L' := #[.val (.int q0), .val (.int q1), .val (.int q2), .val (.int q3), .val (.ref b1), .val (.ref b33), .val (.int (4 : Int32)), .val (.int (own_law_x13 q0 q1 q2 q3)), .unset, .unset]) rfl ?_
            refine o_iload X63 hx (hb hby at_232) (pc' := 234) rfl rfl ?_
            refine o_callS X63 hx hZ 0 (argsL := [.int (own_law_x13 q0 q1 q2 q3)]) (rest := []) hown (w 9 _ rfl) (w 10 _ rfl) (w 11 _ rfl) (w 12 _ rfl) (by decide) (rm1 l Z a0 hw [] (own_law_x13 q0 q1 q2 q3) h63 n0 Z63 ) (by decide) (by decide) (cells' := 2) rfl (slots' := 30) rfl (by decide) (by decide) e63 (by rw [hml]; rfl) (lenOf pd_0 rfl) rfl rfl (hb hby at_234) (pc' := 237) rfl ?_
            intro T118 v118 L118 X118 hQ118
            obtain ⟨rfl, Nq118, e118⟩ := hQ118
            have N118 := Fr.app N63 Nq118
            show Go p e below _ (T118.setTop (mkF m 237 _ [.int (own_f1_ret (own_law_x13 q0 q1 q2 q3))]))
            refine o_istore (x := (own_law_x14 q0 q1 q2 q3)) X118 hx (hb hby at_237) (pc' := 239) rfl (L' := #[.val (.int q0), .val (.int q1), .val (.int q2), .val (.int q3), .val (.ref b1), .val (.ref b33), .val (.int (4 : Int32)), .val (.int (own_law_x13 q0 q1 q2 q3)), .val (.int (own_law_x14 q0 q1 q2 q3)), .unset]) rfl ?_
            refine o_iload X118 hx (hb hby at_239) (pc' := 241) rfl rfl ?_
            refine o_bipush X118 hx (14 : Int32) (hb hby at_241) (pc' := 243) rfl (by decide) ?_
            refine o_cmpN X118 hx (hb hby at_243) (tlt (by decide : (4 : Int32) < (14 : Int32))).2.1 (pc' := 246) rfl ?_
            refine o_aload X118 hx (hb hby at_246) (pc' := 248) rfl rfl rfl ?_
            refine o_iload X118 hx (hb hby at_248) (pc' := 250) rfl rfl ?_
            refine o_iaload X118 hx hZ (.int (246 : Int32)) e118 V63_ (by decide) (by rfl) (hb hby at_250) (pc' := 251) rfl ?_
            refine o_iconst X118 hx (1 : Int32) (hb hby at_251) (pc' := 252) rfl (by decide) ?_
            refine o_iadd X118 hx (hb hby at_252) (pc' := 253) rfl ?_
            rw [show ((246 : Int32) + (1 : Int32)) = (247 : Int32) from by decide]
            refine o_iloadN X118 hx (hb hby at_253) (pc' := 254) rfl rfl ?_
            refine o_ldcI X118 hx hZ (2147483647 : Int32) hown (w 8 _ rfl) (hb hby at_254) (pc' := 256) rfl ?_
            refine o_iand X118 hx (hb hby at_256) (pc' := 257) rfl ?_
            refine o_aload X118 hx (hb hby at_257) (pc' := 259) rfl rfl rfl ?_
            refine o_iload X118 hx (hb hby at_259) (pc' := 261) rfl rfl ?_
            refine o_iconst X118 hx (1 : Int32) (hb hby at_261) (pc' := 262) rfl (by decide) ?_
            refine o_iadd X118 hx (hb hby at_262) (pc' := 263) rfl ?_
            rw [show ((4 : Int32) + (1 : Int32)) = (5 : Int32) from by decide]
            refine o_iaload X118 hx hZ (.int (248 : Int32)) e118 V64_b1 (by decide) (by rfl) (hb hby at_263) (pc' := 264) rfl ?_
            refine o_aload X118 hx (hb hby at_264) (pc' := 266) rfl rfl rfl ?_
            refine o_iload X118 hx (hb hby at_266) (pc' := 268) rfl rfl ?_
            refine o_iaload X118 hx hZ (.int (246 : Int32)) e118 V63_ (by decide) (by rfl) (hb hby at_268) (pc' := 269) rfl ?_
            refine o_isub X118 hx (hb hby at_269) (pc' := 270) rfl ?_
            rw [show ((248 : Int32) - (246 : Int32)) = (2 : Int32) from by decide]
            refine o_iconst X118 hx (1 : Int32) (hb hby at_270) (pc' := 271) rfl (by decide) ?_
            refine o_isub X118 hx (hb hby at_271) (pc' := 272) rfl ?_
            rw [show ((2 : Int32) - (1 : Int32)) = (1 : Int32) from by decide]
            refine o_irem X118 hx (hb hby at_272) (pc' := 273) rfl (by decide) ?_
            refine o_iadd X118 hx (hb hby at_273) (pc' := 274) rfl ?_
            refine o_istore (x := (own_law_x15 q0 q1 q2 q3)) X118 hx (hb hby at_274) (pc' := 276) rfl (L' := #[.val (.int q0), .val (.int q1), .val (.int q2), .val (.int q3), .val (.ref b1), .val (.ref b33), .val (.int (4 : Int32)), .val (.int (own_law_x13 q0 q1 q2 q3)), .val (.int (own_law_x14 q0 q1 q2 q3)), .val (.int (own_law_x15 q0 q1 q2 q3))]) rfl ?_
            refine o_iload X118 hx (hb hby at_276) (pc' := 278) rfl rfl ?_
            have J294_25 : ∀ (Tj294_25 : State) (lj294_25 : List Loc) (Xj294_25 : Stand p l e room_1 s m #[(.int q0), (.int q1), (.int q2), (.int q3)] below meth c Tj294_25 lj294_25 2 30) (ej294_25 : Tj294_25.heap = h63) (Nj294_25 : Fr n0 lj294_25) (z0 : Int32), z0 = (own_law_v294_25_S0 q0 q1 q2 q3) → Go p e below OWE (Tj294_25.setTop (mkF m 294 #[.val (.int q0), .val (.int q1), .val (.int q2), .val (.int q3), .val (.ref b1), .val (.ref b33), .val (.int (4 : Int32)), .val (.int (own_law_x13 q0 q1 q2 q3)), .val (.int (own_law_x14 q0 q1 q2 q3)), .val (.int (own_law_x15 q0 q1 q2 q3))] [.int z0])) := by
              intro Tj294_25 lj294_25 Xj294_25 ej294_25 Nj294_25 z0 yy0
              subst yy0
              refine o_istore Xj294_25 hx (hb hby at_294) (pc' := 296) rfl (L' := #[.val (.int q0), .val (.int q1), .val (.int q2), .val (.int q3), .val (.ref b1), .val (.ref b33), .val (.int (4 : Int32)), .val (.int (own_law_x13 q0 q1 q2 q3)), .val (.int (own_law_v294_25_S0 q0 q1 q2 q3)), .val (.int (own_law_x15 q0 q1 q2 q3))]) rfl ?_
              refine o_iloadN Xj294_25 hx (hb hby at_296) (pc' := 297) rfl rfl ?_
              refine o_bipush Xj294_25 hx (65 : Int32) (hb hby at_297) (pc' := 299) rfl (by decide) ?_
              have J327_28 : ∀ (Tj327_28 : State) (lj327_28 : List Loc) (Xj327_28 : Stand p l e room_1 s m #[(.int q0), (.int q1), (.int q2), (.int q3)] below meth c Tj327_28 lj327_28 2 30) (ej327_28 : Tj327_28.heap = h63) (Nj327_28 : Fr n0 lj327_28) (z0 : Int32), z0 = (own_law_v327_28_L8 q0 q1 q2 q3) → Go p e below OWE (Tj327_28.setTop (mkF m 327 #[.val (.int q0), .val (.int q1), .val (.int q2), .val (.int q3), .val (.ref b1), .val (.ref b33), .val (.int (4 : Int32)), .val (.int (own_law_x13 q0 q1 q2 q3)), .val (.int z0), .val (.int (own_law_x15 q0 q1 q2 q3))] [])) := by
                intro Tj327_28 lj327_28 Xj327_28 ej327_28 Nj327_28 z0 yy0
                subst yy0
                refine o_iload Xj327_28 hx (hb hby at_327) (pc' := 329) rfl rfl ?_
                rw [← hOWE]
                exact o_retZ Xj327_28 hx (own_narZ (own_law_v327_28_L8_01 q0 q1 q2 q3)) hlk hrt (hb hby at_329) (by decide) (by decide) (by rw [ej327_28]; exact ⟨(by rw [own_law_ret, if_neg hs65, if_neg hs78, if_neg hs91, if_neg hs104, if_pos hs117, own_law_ret_j294_25, own_law_ret_j327_28]), Nj327_28⟩)
              by_cases hc299_120 : q3 < (65 : Int32)
              · refine o_cmpY Xj294_25 hx (hb hby at_299) (tlt hc299_120).1 (by decide) (pc' := 308) (by decide) ?_
                refine o_iload Xj294_25 hx (hb hby at_308) (pc' := 310) rfl rfl ?_
                have J325_29 : ∀ (Tj325_29 : State) (lj325_29 : List Loc) (Xj325_29 : Stand p l e room_1 s m #[(.int q0), (.int q1), (.int q2), (.int q3)] below meth c Tj325_29 lj325_29 2 30) (ej325_29 : Tj325_29.heap = h63) (Nj325_29 : Fr n0 lj325_29) (z0 : Int32), z0 = (own_law_v325_26_S0 q0 q1 q2 q3) → Go p e below OWE (Tj325_29.setTop (mkF m 325 #[.val (.int q0), .val (.int q1), .val (.int q2), .val (.int q3), .val (.ref b1), .val (.ref b33), .val (.int (4 : Int32)), .val (.int (own_law_x13 q0 q1 q2 q3)), .val (.int (own_law_v294_25_S0 q0 q1 q2 q3)), .val (.int (own_law_x15 q0 q1 q2 q3))] [.int z0])) := by
                  intro Tj325_29 lj325_29 Xj325_29 ej325_29 Nj325_29 z0 yy0
                  subst yy0
                  refine o_istore Xj325_29 hx (hb hby at_325) (pc' := 327) rfl (L' := #[.val (.int q0), .val (.int q1), .val (.int q2), .val (.int q3), .val (.ref b1), .val (.ref b33), .val (.int (4 : Int32)), .val (.int (own_law_x13 q0 q1 q2 q3)), .val (.int (own_law_v325_26_S0 q0 q1 q2 q3)), .val (.int (own_law_x15 q0 q1 q2 q3))]) rfl ?_
                  exact J327_28 _ _ Xj325_29 ej325_29 Nj325_29 ((own_law_v325_26_S0 q0 q1 q2 q3)) (by rw [own_law_v327_28_L8, if_pos hc299_120])
                by_cases hc310_121 : (own_law_v294_25_S0 q0 q1 q2 q3) = (0 : Int32)
                · refine o_ifY Xj294_25 hx (hb hby at_310) (teq hc310_121).1 (by decide) (pc' := 324) (by decide) ?_
                  refine o_iconst Xj294_25 hx (0 : Int32) (hb hby at_324) (pc' := 325) rfl (by decide) ?_
                  exact J325_29 _ _ Xj294_25 ej294_25 Nj294_25 ((0 : Int32)) (by rw [own_law_v325_26_S0, if_pos hc310_121])
                · refine o_ifN Xj294_25 hx (hb hby at_310) (feq hc310_121).1 (pc' := 313) rfl ?_
                  refine o_iloadN Xj294_25 hx (hb hby at_313) (pc' := 314) rfl rfl ?_
                  refine o_callS Xj294_25 hx hZ 0 (argsL := [.int q3]) (rest := []) hown (w 9 _ rfl) (w 10 _ rfl) (w 11 _ rfl) (w 12 _ rfl) (by decide) (rm1 l Z a0 hw [] q3 h63 n0 Z63 ) (by decide) (by decide) (cells' := 2) rfl (slots' := 30) rfl (by decide) (by decide) ej294_25 (by rw [hml]; rfl) (lenOf pd_0 rfl) rfl rfl (hb hby at_314) (pc' := 317) rfl ?_
                  intro T122 v122 L122 X122 hQ122
                  obtain ⟨rfl, Nq122, e122⟩ := hQ122
                  have N122 := Fr.app Nj294_25 Nq122
                  show Go p e below _ (T122.setTop (mkF m 317 _ [.int (own_f1_ret q3)]))
                  by_cases hc317_123 : (own_f1_ret q3) = (0 : Int32)
                  · refine o_ifN X122 hx (hb hby at_317) (teq hc317_123).2 (pc' := 320) rfl ?_
                    refine o_iconst X122 hx (1 : Int32) (hb hby at_320) (pc' := 321) rfl (by decide) ?_
                    refine o_goto X122 hx (hb hby at_321) (by decide) (pc' := 325) (by decide) ?_
                    exact J325_29 _ _ X122 e122 N122 ((1 : Int32)) (by rw [own_law_v325_26_S0, if_neg hc310_121, if_pos hc317_123])
                  · refine o_ifY X122 hx (hb hby at_317) (feq hc317_123).2 (by decide) (pc' := 324) (by decide) ?_
                    refine o_iconst X122 hx (0 : Int32) (hb hby at_324) (pc' := 325) rfl (by decide) ?_
                    exact J325_29 _ _ X122 e122 N122 ((0 : Int32)) (by rw [own_law_v325_26_S0, if_neg hc310_121, if_neg hc317_123])
              · refine o_cmpN Xj294_25 hx (hb hby at_299) (flt hc299_120).1 (pc' := 302) rfl ?_
                refine o_iloadN Xj294_25 hx (hb hby at_302) (pc' := 303) rfl rfl ?_
                refine o_ldcI Xj294_25 hx hZ (983039 : Int32) hown (w 7 _ rfl) (hb hby at_303) (pc' := 305) rfl ?_
                by_cases hc305_124 : (983039 : Int32) < q3
                · refine o_cmpN Xj294_25 hx (hb hby at_305) (tlt hc305_124).2.2.2 (pc' := 308) rfl ?_
                  refine o_iload Xj294_25 hx (hb hby at_308) (pc' := 310) rfl rfl ?_
                  have J325_30 : ∀ (Tj325_30 : State) (lj325_30 : List Loc) (Xj325_30 : Stand p l e room_1 s m #[(.int q0), (.int q1), (.int q2), (.int q3)] below meth c Tj325_30 lj325_30 2 30) (ej325_30 : Tj325_30.heap = h63) (Nj325_30 : Fr n0 lj325_30) (z0 : Int32), z0 = (own_law_v325_26_S0 q0 q1 q2 q3) → Go p e below OWE (Tj325_30.setTop (mkF m 325 #[.val (.int q0), .val (.int q1), .val (.int q2), .val (.int q3), .val (.ref b1), .val (.ref b33), .val (.int (4 : Int32)), .val (.int (own_law_x13 q0 q1 q2 q3)), .val (.int (own_law_v294_25_S0 q0 q1 q2 q3)), .val (.int (own_law_x15 q0 q1 q2 q3))] [.int z0])) := by
                    intro Tj325_30 lj325_30 Xj325_30 ej325_30 Nj325_30 z0 yy0
                    subst yy0
                    refine o_istore Xj325_30 hx (hb hby at_325) (pc' := 327) rfl (L' := #[.val (.int q0), .val (.int q1), .val (.int q2), .val (.int q3), .val (.ref b1), .val (.ref b33), .val (.int (4 : Int32)), .val (.int (own_law_x13 q0 q1 q2 q3)), .val (.int (own_law_v325_26_S0 q0 q1 q2 q3)), .val (.int (own_law_x15 q0 q1 q2 q3))]) rfl ?_
                    exact J327_28 _ _ Xj325_30 ej325_30 Nj325_30 ((own_law_v325_26_S0 q0 q1 q2 q3)) (by rw [own_law_v327_28_L8, if_neg hc299_120, if_pos hc305_124])
                  by_cases hc310_125 : (own_law_v294_25_S0 q0 q1 q2 q3) = (0 : Int32)
                  · refine o_ifY Xj294_25 hx (hb hby at_310) (teq hc310_125).1 (by decide) (pc' := 324) (by decide) ?_
                    refine o_iconst Xj294_25 hx (0 : Int32) (hb hby at_324) (pc' := 325) rfl (by decide) ?_
                    exact J325_30 _ _ Xj294_25 ej294_25 Nj294_25 ((0 : Int32)) (by rw [own_law_v325_26_S0, if_pos hc310_125])
                  · refine o_ifN Xj294_25 hx (hb hby at_310) (feq hc310_125).1 (pc' := 313) rfl ?_
                    refine o_iloadN Xj294_25 hx (hb hby at_313) (pc' := 314) rfl rfl ?_
                    refine o_callS Xj294_25 hx hZ 0 (argsL := [.int q3]) (rest := []) hown (w 9 _ rfl) (w 10 _ rfl) (w 11 _ rfl) (w 12 _ rfl) (by decide) (rm1 l Z a0 hw [] q3 h63 n0 Z63 ) (by decide) (by decide) (cells' := 2) rfl (slots' := 30) rfl (by decide) (by decide) ej294_25 (by rw [hml]; rfl) (lenOf pd_0 rfl) rfl rfl (hb hby at_314) (pc' := 317) rfl ?_
                    intro T126 v126 L126 X126 hQ126
                    obtain ⟨rfl, Nq126, e126⟩ := hQ126
                    have N126 := Fr.app Nj294_25 Nq126
                    show Go p e below _ (T126.setTop (mkF m 317 _ [.int (own_f1_ret q3)]))
                    by_cases hc317_127 : (own_f1_ret q3) = (0 : Int32)
                    · refine o_ifN X126 hx (hb hby at_317) (teq hc317_127).2 (pc' := 320) rfl ?_
                      refine o_iconst X126 hx (1 : Int32) (hb hby at_320) (pc' := 321) rfl (by decide) ?_
                      refine o_goto X126 hx (hb hby at_321) (by decide) (pc' := 325) (by decide) ?_
                      exact J325_30 _ _ X126 e126 N126 ((1 : Int32)) (by rw [own_law_v325_26_S0, if_neg hc310_125, if_pos hc317_127])
                    · refine o_ifY X126 hx (hb hby at_317) (feq hc317_127).2 (by decide) (pc' := 324) (by decide) ?_
                      refine o_iconst X126 hx (0 : Int32) (hb hby at_324) (pc' := 325) rfl (by decide) ?_
                      exact J325_30 _ _ X126 e126 N126 ((0 : Int32)) (by rw [own_law_v325_26_S0, if_neg hc310_125, if_neg hc317_127])
                · refine o_cmpY Xj294_25 hx (hb hby at_305) (flt hc305_124).2.2.2 (by decide) (pc' := 327) (by decide) ?_
                  exact J327_28 _ _ Xj294_25 ej294_25 Nj294_25 ((own_law_v294_25_S0 q0 q1 q2 q3)) (by rw [own_law_v327_28_L8, if_neg hc299_120, if_neg hc305_124])
            by_cases hc278_119 : (own_law_x14 q0 q1 q2 q3) = (0 : Int32)
            · refine o_ifY X118 hx (hb hby at_278) (teq hc278_119).1 (by decide) (pc' := 293) (by decide) ?_
              refine o_iconst X118 hx (0 : Int32) (hb hby at_293) (pc' := 294) rfl (by decide) ?_
              exact J294_25 _ _ X118 e118 N118 ((0 : Int32)) (by rw [own_law_v294_25_S0, if_pos hc278_119])
            · refine o_ifN X118 hx (hb hby at_278) (feq hc278_119).1 (pc' := 281) rfl ?_
              refine o_iload X118 hx (hb hby at_281) (pc' := 283) rfl rfl ?_
              refine o_callS X118 hx hZ 0 (argsL := [.int (own_law_x15 q0 q1 q2 q3)]) (rest := []) hown (w 9 _ rfl) (w 10 _ rfl) (w 11 _ rfl) (w 12 _ rfl) (by decide) (rm1 l Z a0 hw [] (own_law_x15 q0 q1 q2 q3) h63 n0 Z63 ) (by decide) (by decide) (cells' := 2) rfl (slots' := 30) rfl (by decide) (by decide) e118 (by rw [hml]; rfl) (lenOf pd_0 rfl) rfl rfl (hb hby at_283) (pc' := 286) rfl ?_
              intro T128 v128 L128 X128 hQ128
              obtain ⟨rfl, Nq128, e128⟩ := hQ128
              have N128 := Fr.app N118 Nq128
              show Go p e below _ (T128.setTop (mkF m 286 _ [.int (own_f1_ret (own_law_x15 q0 q1 q2 q3))]))
              by_cases hc286_129 : (own_f1_ret (own_law_x15 q0 q1 q2 q3)) = (0 : Int32)
              · refine o_ifN X128 hx (hb hby at_286) (teq hc286_129).2 (pc' := 289) rfl ?_
                refine o_iconst X128 hx (1 : Int32) (hb hby at_289) (pc' := 290) rfl (by decide) ?_
                refine o_goto X128 hx (hb hby at_290) (by decide) (pc' := 294) (by decide) ?_
                exact J294_25 _ _ X128 e128 N128 ((1 : Int32)) (by rw [own_law_v294_25_S0, if_neg hc278_119, if_pos hc286_129])
              · refine o_ifY X128 hx (hb hby at_286) (feq hc286_129).2 (by decide) (pc' := 293) (by decide) ?_
                refine o_iconst X128 hx (0 : Int32) (hb hby at_293) (pc' := 294) rfl (by decide) ?_
                exact J294_25 _ _ X128 e128 N128 ((0 : Int32)) (by rw [own_law_v294_25_S0, if_neg hc278_119, if_neg hc286_129])
          · by_cases hs130 : (own_law_x0 q0 q1 q2 q3) = (5 : Int32)
            · rw [hs130]
              refine o_aload X63 hx (hb hby at_206) (pc' := 208) rfl rfl rfl ?_
              refine o_iload X63 hx (hb hby at_208) (pc' := 210) rfl rfl ?_
              refine o_iaload X63 hx hZ (.int (248 : Int32)) e63 V64_b1 (by decide) (by rfl) (hb hby at_210) (pc' := 211) rfl ?_
              refine o_iloadN X63 hx (hb hby at_211) (pc' := 212) rfl rfl ?_
              refine o_ldcI X63 hx hZ (2147483647 : Int32) hown (w 8 _ rfl) (hb hby at_212) (pc' := 214) rfl ?_
              refine o_iand X63 hx (hb hby at_214) (pc' := 215) rfl ?_
              refine o_aload X63 hx (hb hby at_215) (pc' := 217) rfl rfl rfl ?_
              refine o_iload X63 hx (hb hby at_217) (pc' := 219) rfl rfl ?_
              refine o_iaload X63 hx hZ (.int (767 : Int32)) e63 V63_ (by decide) (by rfl) (hb hby at_219) (pc' := 220) rfl ?_
              refine o_aload X63 hx (hb hby at_220) (pc' := 222) rfl rfl rfl ?_
              refine o_iload X63 hx (hb hby at_222) (pc' := 224) rfl rfl ?_
              refine o_iaload X63 hx hZ (.int (248 : Int32)) e63 V64_b1 (by decide) (by rfl) (hb hby at_224) (pc' := 225) rfl ?_
              refine o_isub X63 hx (hb hby at_225) (pc' := 226) rfl ?_
              rw [show ((767 : Int32) - (248 : Int32)) = (519 : Int32) from by decide]
              refine o_iconst X63 hx (1 : Int32) (hb hby at_226) (pc' := 227) rfl (by decide) ?_
              refine o_iadd X63 hx (hb hby at_227) (pc' := 228) rfl ?_
              rw [show ((519 : Int32) + (1 : Int32)) = (520 : Int32) from by decide]
              refine o_irem X63 hx (hb hby at_228) (pc' := 229) rfl (by decide) ?_
              refine o_iadd X63 hx (hb hby at_229) (pc' := 230) rfl ?_
              refine o_istore (x := (own_law_x16 q0 q1 q2 q3)) X63 hx (hb hby at_230) (pc' := 232) rfl (L' := #[.val (.int q0), .val (.int q1), .val (.int q2), .val (.int q3), .val (.ref b1), .val (.ref b33), .val (.int (5 : Int32)), .val (.int (own_law_x16 q0 q1 q2 q3)), .unset, .unset]) rfl ?_
              refine o_iload X63 hx (hb hby at_232) (pc' := 234) rfl rfl ?_
              refine o_callS X63 hx hZ 0 (argsL := [.int (own_law_x16 q0 q1 q2 q3)]) (rest := []) hown (w 9 _ rfl) (w 10 _ rfl) (w 11 _ rfl) (w 12 _ rfl) (by decide) (rm1 l Z a0 hw [] (own_law_x16 q0 q1 q2 q3) h63 n0 Z63 ) (by decide) (by decide) (cells' := 2) rfl (slots' := 30) rfl (by decide) (by decide) e63 (by rw [hml]; rfl) (lenOf pd_0 rfl) rfl rfl (hb hby at_234) (pc' := 237) rfl ?_
              intro T131 v131 L131 X131 hQ131
              obtain ⟨rfl, Nq131, e131⟩ := hQ131
              have N131 := Fr.app N63 Nq131
              show Go p e below _ (T131.setTop (mkF m 237 _ [.int (own_f1_ret (own_law_x16 q0 q1 q2 q3))]))
              refine o_istore (x := (own_law_x17 q0 q1 q2 q3)) X131 hx (hb hby at_237) (pc' := 239) rfl (L' := #[.val (.int q0), .val (.int q1), .val (.int q2), .val (.int q3), .val (.ref b1), .val (.ref b33), .val (.int (5 : Int32)), .val (.int (own_law_x16 q0 q1 q2 q3)), .val (.int (own_law_x17 q0 q1 q2 q3)), .unset]) rfl ?_
              refine o_iload X131 hx (hb hby at_239) (pc' := 241) rfl rfl ?_
              refine o_bipush X131 hx (14 : Int32) (hb hby at_241) (pc' := 243) rfl (by decide) ?_
              refine o_cmpN X131 hx (hb hby at_243) (tlt (by decide : (5 : Int32) < (14 : Int32))).2.1 (pc' := 246) rfl ?_
              refine o_aload X131 hx (hb hby at_246) (pc' := 248) rfl rfl rfl ?_
              refine o_iload X131 hx (hb hby at_248) (pc' := 250) rfl rfl ?_
              refine o_iaload X131 hx hZ (.int (767 : Int32)) e131 V63_ (by decide) (by rfl) (hb hby at_250) (pc' := 251) rfl ?_
              refine o_iconst X131 hx (1 : Int32) (hb hby at_251) (pc' := 252) rfl (by decide) ?_
              refine o_iadd X131 hx (hb hby at_252) (pc' := 253) rfl ?_
              rw [show ((767 : Int32) + (1 : Int32)) = (768 : Int32) from by decide]
              refine o_iloadN X131 hx (hb hby at_253) (pc' := 254) rfl rfl ?_
              refine o_ldcI X131 hx hZ (2147483647 : Int32) hown (w 8 _ rfl) (hb hby at_254) (pc' := 256) rfl ?_
              refine o_iand X131 hx (hb hby at_256) (pc' := 257) rfl ?_
              refine o_aload X131 hx (hb hby at_257) (pc' := 259) rfl rfl rfl ?_
              refine o_iload X131 hx (hb hby at_259) (pc' := 261) rfl rfl ?_
              refine o_iconst X131 hx (1 : Int32) (hb hby at_261) (pc' := 262) rfl (by decide) ?_
              refine o_iadd X131 hx (hb hby at_262) (pc' := 263) rfl ?_
              rw [show ((5 : Int32) + (1 : Int32)) = (6 : Int32) from by decide]
              refine o_iaload X131 hx hZ (.int (880 : Int32)) e131 V64_b1 (by decide) (by rfl) (hb hby at_263) (pc' := 264) rfl ?_
              refine o_aload X131 hx (hb hby at_264) (pc' := 266) rfl rfl rfl ?_
              refine o_iload X131 hx (hb hby at_266) (pc' := 268) rfl rfl ?_
              refine o_iaload X131 hx hZ (.int (767 : Int32)) e131 V63_ (by decide) (by rfl) (hb hby at_268) (pc' := 269) rfl ?_
              refine o_isub X131 hx (hb hby at_269) (pc' := 270) rfl ?_
              rw [show ((880 : Int32) - (767 : Int32)) = (113 : Int32) from by decide]
              refine o_iconst X131 hx (1 : Int32) (hb hby at_270) (pc' := 271) rfl (by decide) ?_
              refine o_isub X131 hx (hb hby at_271) (pc' := 272) rfl ?_
              rw [show ((113 : Int32) - (1 : Int32)) = (112 : Int32) from by decide]
              refine o_irem X131 hx (hb hby at_272) (pc' := 273) rfl (by decide) ?_
              refine o_iadd X131 hx (hb hby at_273) (pc' := 274) rfl ?_
              refine o_istore (x := (own_law_x18 q0 q1 q2 q3)) X131 hx (hb hby at_274) (pc' := 276) rfl (L' := #[.val (.int q0), .val (.int q1), .val (.int q2), .val (.int q3), .val (.ref b1), .val (.ref b33), .val (.int (5 : Int32)), .val (.int (own_law_x16 q0 q1 q2 q3)), .val (.int (own_law_x17 q0 q1 q2 q3)), .val (.int (own_law_x18 q0 q1 q2 q3))]) rfl ?_
              refine o_iload X131 hx (hb hby at_276) (pc' := 278) rfl rfl ?_
              have J294_31 : ∀ (Tj294_31 : State) (lj294_31 : List Loc) (Xj294_31 : Stand p l e room_1 s m #[(.int q0), (.int q1), (.int q2), (.int q3)] below meth c Tj294_31 lj294_31 2 30) (ej294_31 : Tj294_31.heap = h63) (Nj294_31 : Fr n0 lj294_31) (z0 : Int32), z0 = (own_law_v294_31_S0 q0 q1 q2 q3) → Go p e below OWE (Tj294_31.setTop (mkF m 294 #[.val (.int q0), .val (.int q1), .val (.int q2), .val (.int q3), .val (.ref b1), .val (.ref b33), .val (.int (5 : Int32)), .val (.int (own_law_x16 q0 q1 q2 q3)), .val (.int (own_law_x17 q0 q1 q2 q3)), .val (.int (own_law_x18 q0 q1 q2 q3))] [.int z0])) := by
                intro Tj294_31 lj294_31 Xj294_31 ej294_31 Nj294_31 z0 yy0
                subst yy0
                refine o_istore Xj294_31 hx (hb hby at_294) (pc' := 296) rfl (L' := #[.val (.int q0), .val (.int q1), .val (.int q2), .val (.int q3), .val (.ref b1), .val (.ref b33), .val (.int (5 : Int32)), .val (.int (own_law_x16 q0 q1 q2 q3)), .val (.int (own_law_v294_31_S0 q0 q1 q2 q3)), .val (.int (own_law_x18 q0 q1 q2 q3))]) rfl ?_
                refine o_iloadN Xj294_31 hx (hb hby at_296) (pc' := 297) rfl rfl ?_
                refine o_bipush Xj294_31 hx (65 : Int32) (hb hby at_297) (pc' := 299) rfl (by decide) ?_
                have J327_34 : ∀ (Tj327_34 : State) (lj327_34 : List Loc) (Xj327_34 : Stand p l e room_1 s m #[(.int q0), (.int q1), (.int q2), (.int q3)] below meth c Tj327_34 lj327_34 2 30) (ej327_34 : Tj327_34.heap = h63) (Nj327_34 : Fr n0 lj327_34) (z0 : Int32), z0 = (own_law_v327_34_L8 q0 q1 q2 q3) → Go p e below OWE (Tj327_34.setTop (mkF m 327 #[.val (.int q0), .val (.int q1), .val (.int q2), .val (.int q3), .val (.ref b1), .val (.ref b33), .val (.int (5 : Int32)), .val (.int (own_law_x16 q0 q1 q2 q3)), .val (.int z0), .val (.int (own_law_x18 q0 q1 q2 q3))] [])) := by
                  intro Tj327_34 lj327_34 Xj327_34 ej327_34 Nj327_34 z0 yy0
                  subst yy0
                  refine o_iload Xj327_34 hx (hb hby at_327) (pc' := 329) rfl rfl ?_
                  rw [← hOWE]
                  exact o_retZ Xj327_34 hx (own_narZ (own_law_v327_34_L8_01 q0 q1 q2 q3)) hlk hrt (hb hby at_329) (by decide) (by decide) (by rw [ej327_34]; exact ⟨(by rw [own_law_ret, if_neg hs65, if_neg hs78, if_neg hs91, if_neg hs104, if_neg hs117, if_pos hs130, own_law_ret_j294_31, own_law_ret_j327_34]), Nj327_34⟩)
                by_cases hc299_133 : q3 < (65 : Int32)
                · refine o_cmpY Xj294_31 hx (hb hby at_299) (tlt hc299_133).1 (by decide) (pc' := 308) (by decide) ?_
                  refine o_iload Xj294_31 hx (hb hby at_308) (pc' := 310) rfl rfl ?_
                  have J325_35 : ∀ (Tj325_35 : State) (lj325_35 : List Loc) (Xj325_35 : Stand p l e room_1 s m #[(.int q0), (.int q1), (.int q2), (.int q3)] below meth c Tj325_35 lj325_35 2 30) (ej325_35 : Tj325_35.heap = h63) (Nj325_35 : Fr n0 lj325_35) (z0 : Int32), z0 = (own_law_v325_32_S0 q0 q1 q2 q3) → Go p e below OWE (Tj325_35.setTop (mkF m 325 #[.val (.int q0), .val (.int q1), .val (.int q2), .val (.int q3), .val (.ref b1), .val (.ref b33), .val (.int (5 : Int32)), .val (.int (own_law_x16 q0 q1 q2 q3)), .val (.int (own_law_v294_31_S0 q0 q1 q2 q3)), .val (.int (own_law_x18 q0 q1 q2 q3))] [.int z0])) := by
                    intro Tj325_35 lj325_35 Xj325_35 ej325_35 Nj325_35 z0 yy0
                    subst yy0
                    refine o_istore Xj325_35 hx (hb hby at_325) (pc' := 327) rfl (L' := #[.val (.int q0), .val (.int q1), .val (.int q2), .val (.int q3), .val (.ref b1), .val (.ref b33), .val (.int (5 : Int32)), .val (.int (own_law_x16 q0 q1 q2 q3)), .val (.int (own_law_v325_32_S0 q0 q1 q2 q3)), .val (.int (own_law_x18 q0 q1 q2 q3))]) rfl ?_
                    exact J327_34 _ _ Xj325_35 ej325_35 Nj325_35 ((own_law_v325_32_S0 q0 q1 q2 q3)) (by rw [own_law_v327_34_L8, if_pos hc299_133])
                  by_cases hc310_134 : (own_law_v294_31_S0 q0 q1 q2 q3) = (0 : Int32)
                  · refine o_ifY Xj294_31 hx (hb hby at_310) (teq hc310_134).1 (by decide) (pc' := 324) (by decide) ?_
                    refine o_iconst Xj294_31 hx (0 : Int32) (hb hby at_324) (pc' := 325) rfl (by decide) ?_
                    exact J325_35 _ _ Xj294_31 ej294_31 Nj294_31 ((0 : Int32)) (by rw [own_law_v325_32_S0, if_pos hc310_134])
                  · refine o_ifN Xj294_31 hx (hb hby at_310) (feq hc310_134).1 (pc' := 313) rfl ?_
                    refine o_iloadN Xj294_31 hx (hb hby at_313) (pc' := 314) rfl rfl ?_
                    refine o_callS Xj294_31 hx hZ 0 (argsL := [.int q3]) (rest := []) hown (w 9 _ rfl) (w 10 _ rfl) (w 11 _ rfl) (w 12 _ rfl) (by decide) (rm1 l Z a0 hw [] q3 h63 n0 Z63 ) (by decide) (by decide) (cells' := 2) rfl (slots' := 30) rfl (by decide) (by decide) ej294_31 (by rw [hml]; rfl) (lenOf pd_0 rfl) rfl rfl (hb hby at_314) (pc' := 317) rfl ?_
                    intro T135 v135 L135 X135 hQ135
                    obtain ⟨rfl, Nq135, e135⟩ := hQ135
                    have N135 := Fr.app Nj294_31 Nq135
                    show Go p e below _ (T135.setTop (mkF m 317 _ [.int (own_f1_ret q3)]))
                    by_cases hc317_136 : (own_f1_ret q3) = (0 : Int32)
                    · refine o_ifN X135 hx (hb hby at_317) (teq hc317_136).2 (pc' := 320) rfl ?_
                      refine o_iconst X135 hx (1 : Int32) (hb hby at_320) (pc' := 321) rfl (by decide) ?_
                      refine o_goto X135 hx (hb hby at_321) (by decide) (pc' := 325) (by decide) ?_
                      exact J325_35 _ _ X135 e135 N135 ((1 : Int32)) (by rw [own_law_v325_32_S0, if_neg hc310_134, if_pos hc317_136])
                    · refine o_ifY X135 hx (hb hby at_317) (feq hc317_136).2 (by decide) (pc' := 324) (by decide) ?_
                      refine o_iconst X135 hx (0 : Int32) (hb hby at_324) (pc' := 325) rfl (by decide) ?_
                      exact J325_35 _ _ X135 e135 N135 ((0 : Int32)) (by rw [own_law_v325_32_S0, if_neg hc310_134, if_neg hc317_136])
                · refine o_cmpN Xj294_31 hx (hb hby at_299) (flt hc299_133).1 (pc' := 302) rfl ?_
                  refine o_iloadN Xj294_31 hx (hb hby at_302) (pc' := 303) rfl rfl ?_
                  refine o_ldcI Xj294_31 hx hZ (983039 : Int32) hown (w 7 _ rfl) (hb hby at_303) (pc' := 305) rfl ?_
                  by_cases hc305_137 : (983039 : Int32) < q3
                  · refine o_cmpN Xj294_31 hx (hb hby at_305) (tlt hc305_137).2.2.2 (pc' := 308) rfl ?_
                    refine o_iload Xj294_31 hx (hb hby at_308) (pc' := 310) rfl rfl ?_
                    have J325_36 : ∀ (Tj325_36 : State) (lj325_36 : List Loc) (Xj325_36 : Stand p l e room_1 s m #[(.int q0), (.int q1), (.int q2), (.int q3)] below meth c Tj325_36 lj325_36 2 30) (ej325_36 : Tj325_36.heap = h63) (Nj325_36 : Fr n0 lj325_36) (z0 : Int32), z0 = (own_law_v325_32_S0 q0 q1 q2 q3) → Go p e below OWE (Tj325_36.setTop (mkF m 325 #[.val (.int q0), .val (.int q1), .val (.int q2), .val (.int q3), .val (.ref b1), .val (.ref b33), .val (.int (5 : Int32)), .val (.int (own_law_x16 q0 q1 q2 q3)), .val (.int (own_law_v294_31_S0 q0 q1 q2 q3)), .val (.int (own_law_x18 q0 q1 q2 q3))] [.int z0])) := by
                      intro Tj325_36 lj325_36 Xj325_36 ej325_36 Nj325_36 z0 yy0
                      subst yy0
                      refine o_istore Xj325_36 hx (hb hby at_325) (pc' := 327) rfl (L' := #[.val (.int q0), .val (.int q1), .val (.int q2), .val (.int q3), .val (.ref b1), .val (.ref b33), .val (.int (5 : Int32)), .val (.int (own_law_x16 q0 q1 q2 q3)), .val (.int (own_law_v325_32_S0 q0 q1 q2 q3)), .val (.int (own_law_x18 q0 q1 q2 q3))]) rfl ?_
                      exact J327_34 _ _ Xj325_36 ej325_36 Nj325_36 ((own_law_v325_32_S0 q0 q1 q2 q3)) (by rw [own_law_v327_34_L8, if_neg hc299_133, if_pos hc305_137])
                    by_cases hc310_138 : (own_law_v294_31_S0 q0 q1 q2 q3) = (0 : Int32)
                    · refine o_ifY Xj294_31 hx (hb hby at_310) (teq hc310_138).1 (by decide) (pc' := 324) (by decide) ?_
                      refine o_iconst Xj294_31 hx (0 : Int32) (hb hby at_324) (pc' := 325) rfl (by decide) ?_
                      exact J325_36 _ _ Xj294_31 ej294_31 Nj294_31 ((0 : Int32)) (by rw [own_law_v325_32_S0, if_pos hc310_138])
                    · refine o_ifN Xj294_31 hx (hb hby at_310) (feq hc310_138).1 (pc' := 313) rfl ?_
                      refine o_iloadN Xj294_31 hx (hb hby at_313) (pc' := 314) rfl rfl ?_
                      refine o_callS Xj294_31 hx hZ 0 (argsL := [.int q3]) (rest := []) hown (w 9 _ rfl) (w 10 _ rfl) (w 11 _ rfl) (w 12 _ rfl) (by decide) (rm1 l Z a0 hw [] q3 h63 n0 Z63 ) (by decide) (by decide) (cells' := 2) rfl (slots' := 30) rfl (by decide) (by decide) ej294_31 (by rw [hml]; rfl) (lenOf pd_0 rfl) rfl rfl (hb hby at_314) (pc' := 317) rfl ?_
                      intro T139 v139 L139 X139 hQ139
                      obtain ⟨rfl, Nq139, e139⟩ := hQ139
                      have N139 := Fr.app Nj294_31 Nq139
                      show Go p e below _ (T139.setTop (mkF m 317 _ [.int (own_f1_ret q3)]))
                      by_cases hc317_140 : (own_f1_ret q3) = (0 : Int32)
                      · refine o_ifN X139 hx (hb hby at_317) (teq hc317_140).2 (pc' := 320) rfl ?_
                        refine o_iconst X139 hx (1 : Int32) (hb hby at_320) (pc' := 321) rfl (by decide) ?_
                        refine o_goto X139 hx (hb hby at_321) (by decide) (pc' := 325) (by decide) ?_
                        exact J325_36 _ _ X139 e139 N139 ((1 : Int32)) (by rw [own_law_v325_32_S0, if_neg hc310_138, if_pos hc317_140])
                      · refine o_ifY X139 hx (hb hby at_317) (feq hc317_140).2 (by decide) (pc' := 324) (by decide) ?_
                        refine o_iconst X139 hx (0 : Int32) (hb hby at_324) (pc' := 325) rfl (by decide) ?_
                        exact J325_36 _ _ X139 e139 N139 ((0 : Int32)) (by rw [own_law_v325_32_S0, if_neg hc310_138, if_neg hc317_140])
                  · refine o_cmpY Xj294_31 hx (hb hby at_305) (flt hc305_137).2.2.2 (by decide) (pc' := 327) (by decide) ?_
                    exact J327_34 _ _ Xj294_31 ej294_31 Nj294_31 ((own_law_v294_31_S0 q0 q1 q2 q3)) (by rw [own_law_v327_34_L8, if_neg hc299_133, if_neg hc305_137])
              by_cases hc278_132 : (own_law_x17 q0 q1 q2 q3) = (0 : Int32)
              · refine o_ifY X131 hx (hb hby at_278) (teq hc278_132).1 (by decide) (pc' := 293) (by decide) ?_
                refine o_iconst X131 hx (0 : Int32) (hb hby at_293) (pc' := 294) rfl (by decide) ?_
                exact J294_31 _ _ X131 e131 N131 ((0 : Int32)) (by rw [own_law_v294_31_S0, if_pos hc278_132])
              · refine o_ifN X131 hx (hb hby at_278) (feq hc278_132).1 (pc' := 281) rfl ?_
                refine o_iload X131 hx (hb hby at_281) (pc' := 283) rfl rfl ?_
                refine o_callS X131 hx hZ 0 (argsL := [.int (own_law_x18 q0 q1 q2 q3)]) (rest := []) hown (w 9 _ rfl) (w 10 _ rfl) (w 11 _ rfl) (w 12 _ rfl) (by decide) (rm1 l Z a0 hw [] (own_law_x18 q0 q1 q2 q3) h63 n0 Z63 ) (by decide) (by decide) (cells' := 2) rfl (slots' := 30) rfl (by decide) (by decide) e131 (by rw [hml]; rfl) (lenOf pd_0 rfl) rfl rfl (hb hby at_283) (pc' := 286) rfl ?_
                intro T141 v141 L141 X141 hQ141
                obtain ⟨rfl, Nq141, e141⟩ := hQ141
                have N141 := Fr.app N131 Nq141
                show Go p e below _ (T141.setTop (mkF m 286 _ [.int (own_f1_ret (own_law_x18 q0 q1 q2 q3))]))
                by_cases hc286_142 : (own_f1_ret (own_law_x18 q0 q1 q2 q3)) = (0 : Int32)
                · refine o_ifN X141 hx (hb hby at_286) (teq hc286_142).2 (pc' := 289) rfl ?_
                  refine o_iconst X141 hx (1 : Int32) (hb hby at_289) (pc' := 290) rfl (by decide) ?_
                  refine o_goto X141 hx (hb hby at_290) (by decide) (pc' := 294) (by decide) ?_
                  exact J294_31 _ _ X141 e141 N141 ((1 : Int32)) (by rw [own_law_v294_31_S0, if_neg hc278_132, if_pos hc286_142])
                · refine o_ifY X141 hx (hb hby at_286) (feq hc286_142).2 (by decide) (pc' := 293) (by decide) ?_
                  refine o_iconst X141 hx (0 : Int32) (hb hby at_293) (pc' := 294) rfl (by decide) ?_
                  exact J294_31 _ _ X141 e141 N141 ((0 : Int32)) (by rw [own_law_v294_31_S0, if_neg hc278_132, if_neg hc286_142])
            · by_cases hs143 : (own_law_x0 q0 q1 q2 q3) = (6 : Int32)
              · rw [hs143]
                refine o_aload X63 hx (hb hby at_206) (pc' := 208) rfl rfl rfl ?_
                refine o_iload X63 hx (hb hby at_208) (pc' := 210) rfl rfl ?_
                refine o_iaload X63 hx hZ (.int (880 : Int32)) e63 V64_b1 (by decide) (by rfl) (hb hby at_210) (pc' := 211) rfl ?_
                refine o_iloadN X63 hx (hb hby at_211) (pc' := 212) rfl rfl ?_
                refine o_ldcI X63 hx hZ (2147483647 : Int32) hown (w 8 _ rfl) (hb hby at_212) (pc' := 214) rfl ?_
                refine o_iand X63 hx (hb hby at_214) (pc' := 215) rfl ?_
                refine o_aload X63 hx (hb hby at_215) (pc' := 217) rfl rfl rfl ?_
                refine o_iload X63 hx (hb hby at_217) (pc' := 219) rfl rfl ?_
                refine o_iaload X63 hx hZ (.int (893 : Int32)) e63 V63_ (by decide) (by rfl) (hb hby at_219) (pc' := 220) rfl ?_
                refine o_aload X63 hx (hb hby at_220) (pc' := 222) rfl rfl rfl ?_
                refine o_iload X63 hx (hb hby at_222) (pc' := 224) rfl rfl ?_
                refine o_iaload X63 hx hZ (.int (880 : Int32)) e63 V64_b1 (by decide) (by rfl) (hb hby at_224) (pc' := 225) rfl ?_
                refine o_isub X63 hx (hb hby at_225) (pc' := 226) rfl ?_
                rw [show ((893 : Int32) - (880 : Int32)) = (13 : Int32) from by decide]
                refine o_iconst X63 hx (1 : Int32) (hb hby at_226) (pc' := 227) rfl (by decide) ?_
                refine o_iadd X63 hx (hb hby at_227) (pc' := 228) rfl ?_
                rw [show ((13 : Int32) + (1 : Int32)) = (14 : Int32) from by decide]
                refine o_irem X63 hx (hb hby at_228) (pc' := 229) rfl (by decide) ?_
                refine o_iadd X63 hx (hb hby at_229) (pc' := 230) rfl ?_
                refine o_istore (x := (own_law_x19 q0 q1 q2 q3)) X63 hx (hb hby at_230) (pc' := 232) rfl (L' := #[.val (.int q0), .val (.int q1), .val (.int q2), .val (.int q3), .val (.ref b1), .val (.ref b33), .val (.int (6 : Int32)), .val (.int (own_law_x19 q0 q1 q2 q3)), .unset, .unset]) rfl ?_
                refine o_iload X63 hx (hb hby at_232) (pc' := 234) rfl rfl ?_
                refine o_callS X63 hx hZ 0 (argsL := [.int (own_law_x19 q0 q1 q2 q3)]) (rest := []) hown (w 9 _ rfl) (w 10 _ rfl) (w 11 _ rfl) (w 12 _ rfl) (by decide) (rm1 l Z a0 hw [] (own_law_x19 q0 q1 q2 q3) h63 n0 Z63 ) (by decide) (by decide) (cells' := 2) rfl (slots' := 30) rfl (by decide) (by decide) e63 (by rw [hml]; rfl) (lenOf pd_0 rfl) rfl rfl (hb hby at_234) (pc' := 237) rfl ?_
                intro T144 v144 L144 X144 hQ144
                obtain ⟨rfl, Nq144, e144⟩ := hQ144
                have N144 := Fr.app N63 Nq144
                show Go p e below _ (T144.setTop (mkF m 237 _ [.int (own_f1_ret (own_law_x19 q0 q1 q2 q3))]))
                refine o_istore (x := (own_law_x20 q0 q1 q2 q3)) X144 hx (hb hby at_237) (pc' := 239) rfl (L' := #[.val (.int q0), .val (.int q1), .val (.int q2), .val (.int q3), .val (.ref b1), .val (.ref b33), .val (.int (6 : Int32)), .val (.int (own_law_x19 q0 q1 q2 q3)), .val (.int (own_law_x20 q0 q1 q2 q3)), .unset]) rfl ?_
                refine o_iload X144 hx (hb hby at_239) (pc' := 241) rfl rfl ?_
                refine o_bipush X144 hx (14 : Int32) (hb hby at_241) (pc' := 243) rfl (by decide) ?_
                refine o_cmpN X144 hx (hb hby at_243) (tlt (by decide : (6 : Int32) < (14 : Int32))).2.1 (pc' := 246) rfl ?_
                refine o_aload X144 hx (hb hby at_246) (pc' := 248) rfl rfl rfl ?_
                refine o_iload X144 hx (hb hby at_248) (pc' := 250) rfl rfl ?_
                refine o_iaload X144 hx hZ (.int (893 : Int32)) e144 V63_ (by decide) (by rfl) (hb hby at_250) (pc' := 251) rfl ?_
                refine o_iconst X144 hx (1 : Int32) (hb hby at_251) (pc' := 252) rfl (by decide) ?_
                refine o_iadd X144 hx (hb hby at_252) (pc' := 253) rfl ?_
                rw [show ((893 : Int32) + (1 : Int32)) = (894 : Int32) from by decide]
                refine o_iloadN X144 hx (hb hby at_253) (pc' := 254) rfl rfl ?_
                refine o_ldcI X144 hx hZ (2147483647 : Int32) hown (w 8 _ rfl) (hb hby at_254) (pc' := 256) rfl ?_
                refine o_iand X144 hx (hb hby at_256) (pc' := 257) rfl ?_
                refine o_aload X144 hx (hb hby at_257) (pc' := 259) rfl rfl rfl ?_
                refine o_iload X144 hx (hb hby at_259) (pc' := 261) rfl rfl ?_
                refine o_iconst X144 hx (1 : Int32) (hb hby at_261) (pc' := 262) rfl (by decide) ?_
                refine o_iadd X144 hx (hb hby at_262) (pc' := 263) rfl ?_
                rw [show ((6 : Int32) + (1 : Int32)) = (7 : Int32) from by decide]
                refine o_iaload X144 hx hZ (.int (895 : Int32)) e144 V64_b1 (by decide) (by rfl) (hb hby at_263) (pc' := 264) rfl ?_
                refine o_aload X144 hx (hb hby at_264) (pc' := 266) rfl rfl rfl ?_
                refine o_iload X144 hx (hb hby at_266) (pc' := 268) rfl rfl ?_
                refine o_iaload X144 hx hZ (.int (893 : Int32)) e144 V63_ (by decide) (by rfl) (hb hby at_268) (pc' := 269) rfl ?_
                refine o_isub X144 hx (hb hby at_269) (pc' := 270) rfl ?_
                rw [show ((895 : Int32) - (893 : Int32)) = (2 : Int32) from by decide]
                refine o_iconst X144 hx (1 : Int32) (hb hby at_270) (pc' := 271) rfl (by decide) ?_
                refine o_isub X144 hx (hb hby at_271) (pc' := 272) rfl ?_
                rw [show ((2 : Int32) - (1 : Int32)) = (1 : Int32) from by decide]
                refine o_irem X144 hx (hb hby at_272) (pc' := 273) rfl (by decide) ?_
                refine o_iadd X144 hx (hb hby at_273) (pc' := 274) rfl ?_
                refine o_istore (x := (own_law_x21 q0 q1 q2 q3)) X144 hx (hb hby at_274) (pc' := 276) rfl (L' := #[.val (.int q0), .val (.int q1), .val (.int q2), .val (.int q3), .val (.ref b1), .val (.ref b33), .val (.int (6 : Int32)), .val (.int (own_law_x19 q0 q1 q2 q3)), .val (.int (own_law_x20 q0 q1 q2 q3)), .val (.int (own_law_x21 q0 q1 q2 q3))]) rfl ?_
                refine o_iload X144 hx (hb hby at_276) (pc' := 278) rfl rfl ?_
                have J294_37 : ∀ (Tj294_37 : State) (lj294_37 : List Loc) (Xj294_37 : Stand p l e room_1 s m #[(.int q0), (.int q1), (.int q2), (.int q3)] below meth c Tj294_37 lj294_37 2 30) (ej294_37 : Tj294_37.heap = h63) (Nj294_37 : Fr n0 lj294_37) (z0 : Int32), z0 = (own_law_v294_37_S0 q0 q1 q2 q3) → Go p e below OWE (Tj294_37.setTop (mkF m 294 #[.val (.int q0), .val (.int q1), .val (.int q2), .val (.int q3), .val (.ref b1), .val (.ref b33), .val (.int (6 : Int32)), .val (.int (own_law_x19 q0 q1 q2 q3)), .val (.int (own_law_x20 q0 q1 q2 q3)), .val (.int (own_law_x21 q0 q1 q2 q3))] [.int z0])) := by
                  intro Tj294_37 lj294_37 Xj294_37 ej294_37 Nj294_37 z0 yy0
                  subst yy0
                  refine o_istore Xj294_37 hx (hb hby at_294) (pc' := 296) rfl (L' := #[.val (.int q0), .val (.int q1), .val (.int q2), .val (.int q3), .val (.ref b1), .val (.ref b33), .val (.int (6 : Int32)), .val (.int (own_law_x19 q0 q1 q2 q3)), .val (.int (own_law_v294_37_S0 q0 q1 q2 q3)), .val (.int (own_law_x21 q0 q1 q2 q3))]) rfl ?_
                  refine o_iloadN Xj294_37 hx (hb hby at_296) (pc' := 297) rfl rfl ?_
                  refine o_bipush Xj294_37 hx (65 : Int32) (hb hby at_297) (pc' := 299) rfl (by decide) ?_
                  have J327_40 : ∀ (Tj327_40 : State) (lj327_40 : List Loc) (Xj327_40 : Stand p l e room_1 s m #[(.int q0), (.int q1), (.int q2), (.int q3)] below meth c Tj327_40 lj327_40 2 30) (ej327_40 : Tj327_40.heap = h63) (Nj327_40 : Fr n0 lj327_40) (z0 : Int32), z0 = (own_law_v327_40_L8 q0 q1 q2 q3) → Go p e below OWE (Tj327_40.setTop (mkF m 327 #[.val (.int q0), .val (.int q1), .val (.int q2), .val (.int q3), .val (.ref b1), .val (.ref b33), .val (.int (6 : Int32)), .val (.int (own_law_x19 q0 q1 q2 q3)), .val (.int z0), .val (.int (own_law_x21 q0 q1 q2 q3))] [])) := by
                    intro Tj327_40 lj327_40 Xj327_40 ej327_40 Nj327_40 z0 yy0
                    subst yy0
                    refine o_iload Xj327_40 hx (hb hby at_327) (pc' := 329) rfl rfl ?_
                    rw [← hOWE]
                    exact o_retZ Xj327_40 hx (own_narZ (own_law_v327_40_L8_01 q0 q1 q2 q3)) hlk hrt (hb hby at_329) (by decide) (by decide) (by rw [ej327_40]; exact ⟨(by rw [own_law_ret, if_neg hs65, if_neg hs78, if_neg hs91, if_neg hs104, if_neg hs117, if_neg hs130, if_pos hs143, own_law_ret_j294_37, own_law_ret_j327_40]), Nj327_40⟩)
                  by_cases hc299_146 : q3 < (65 : Int32)
                  · refine o_cmpY Xj294_37 hx (hb hby at_299) (tlt hc299_146).1 (by decide) (pc' := 308) (by decide) ?_
                    refine o_iload Xj294_37 hx (hb hby at_308) (pc' := 310) rfl rfl ?_
                    have J325_41 : ∀ (Tj325_41 : State) (lj325_41 : List Loc) (Xj325_41 : Stand p l e room_1 s m #[(.int q0), (.int q1), (.int q2), (.int q3)] below meth c Tj325_41 lj325_41 2 30) (ej325_41 : Tj325_41.heap = h63) (Nj325_41 : Fr n0 lj325_41) (z0 : Int32), z0 = (own_law_v325_38_S0 q0 q1 q2 q3) → Go p e below OWE (Tj325_41.setTop (mkF m 325 #[.val (.int q0), .val (.int q1), .val (.int q2), .val (.int q3), .val (.ref b1), .val (.ref b33), .val (.int (6 : Int32)), .val (.int (own_law_x19 q0 q1 q2 q3)), .val (.int (own_law_v294_37_S0 q0 q1 q2 q3)), .val (.int (own_law_x21 q0 q1 q2 q3))] [.int z0])) := by
                      intro Tj325_41 lj325_41 Xj325_41 ej325_41 Nj325_41 z0 yy0
                      subst yy0
                      refine o_istore Xj325_41 hx (hb hby at_325) (pc' := 327) rfl (L' := #[.val (.int q0), .val (.int q1), .val (.int q2), .val (.int q3), .val (.ref b1), .val (.ref b33), .val (.int (6 : Int32)), .val (.int (own_law_x19 q0 q1 q2 q3)), .val (.int (own_law_v325_38_S0 q0 q1 q2 q3)), .val (.int (own_law_x21 q0 q1 q2 q3))]) rfl ?_
                      exact J327_40 _ _ Xj325_41 ej325_41 Nj325_41 ((own_law_v325_38_S0 q0 q1 q2 q3)) (by rw [own_law_v327_40_L8, if_pos hc299_146])
                    by_cases hc310_147 : (own_law_v294_37_S0 q0 q1 q2 q3) = (0 : Int32)
                    · refine o_ifY Xj294_37 hx (hb hby at_310) (teq hc310_147).1 (by decide) (pc' := 324) (by decide) ?_
                      refine o_iconst Xj294_37 hx (0 : Int32) (hb hby at_324) (pc' := 325) rfl (by decide) ?_
                      exact J325_41 _ _ Xj294_37 ej294_37 Nj294_37 ((0 : Int32)) (by rw [own_law_v325_38_S0, if_pos hc310_147])
                    · refine o_ifN Xj294_37 hx (hb hby at_310) (feq hc310_147).1 (pc' := 313) rfl ?_
                      refine o_iloadN Xj294_37 hx (hb hby at_313) (pc' := 314) rfl rfl ?_
                      refine o_callS Xj294_37 hx hZ 0 (argsL := [.int q3]) (rest := []) hown (w 9 _ rfl) (w 10 _ rfl) (w 11 _ rfl) (w 12 _ rfl) (by decide) (rm1 l Z a0 hw [] q3 h63 n0 Z63 ) (by decide) (by decide) (cells' := 2) rfl (slots' := 30) rfl (by decide) (by decide) ej294_37 (by rw [hml]; rfl) (lenOf pd_0 rfl) rfl rfl (hb hby at_314) (pc' := 317) rfl ?_
                      intro T148 v148 L148 X148 hQ148
                      obtain ⟨rfl, Nq148, e148⟩ := hQ148
                      have N148 := Fr.app Nj294_37 Nq148
                      show Go p e below _ (T148.setTop (mkF m 317 _ [.int (own_f1_ret q3)]))
                      by_cases hc317_149 : (own_f1_ret q3) = (0 : Int32)
                      · refine o_ifN X148 hx (hb hby at_317) (teq hc317_149).2 (pc' := 320) rfl ?_
                        refine o_iconst X148 hx (1 : Int32) (hb hby at_320) (pc' := 321) rfl (by decide) ?_
                        refine o_goto X148 hx (hb hby at_321) (by decide) (pc' := 325) (by decide) ?_
                        exact J325_41 _ _ X148 e148 N148 ((1 : Int32)) (by rw [own_law_v325_38_S0, if_neg hc310_147, if_pos hc317_149])
                      · refine o_ifY X148 hx (hb hby at_317) (feq hc317_149).2 (by decide) (pc' := 324) (by decide) ?_
                        refine o_iconst X148 hx (0 : Int32) (hb hby at_324) (pc' := 325) rfl (by decide) ?_
                        exact J325_41 _ _ X148 e148 N148 ((0 : Int32)) (by rw [own_law_v325_38_S0, if_neg hc310_147, if_neg hc317_149])
                  · refine o_cmpN Xj294_37 hx (hb hby at_299) (flt hc299_146).1 (pc' := 302) rfl ?_
                    refine o_iloadN Xj294_37 hx (hb hby at_302) (pc' := 303) rfl rfl ?_
                    refine o_ldcI Xj294_37 hx hZ (983039 : Int32) hown (w 7 _ rfl) (hb hby at_303) (pc' := 305) rfl ?_
                    by_cases hc305_150 : (983039 : Int32) < q3
                    · refine o_cmpN Xj294_37 hx (hb hby at_305) (tlt hc305_150).2.2.2 (pc' := 308) rfl ?_
                      refine o_iload Xj294_37 hx (hb hby at_308) (pc' := 310) rfl rfl ?_
                      have J325_42 : ∀ (Tj325_42 : State) (lj325_42 : List Loc) (Xj325_42 : Stand p l e room_1 s m #[(.int q0), (.int q1), (.int q2), (.int q3)] below meth c Tj325_42 lj325_42 2 30) (ej325_42 : Tj325_42.heap = h63) (Nj325_42 : Fr n0 lj325_42) (z0 : Int32), z0 = (own_law_v325_38_S0 q0 q1 q2 q3) → Go p e below OWE (Tj325_42.setTop (mkF m 325 #[.val (.int q0), .val (.int q1), .val (.int q2), .val (.int q3), .val (.ref b1), .val (.ref b33), .val (.int (6 : Int32)), .val (.int (own_law_x19 q0 q1 q2 q3)), .val (.int (own_law_v294_37_S0 q0 q1 q2 q3)), .val (.int (own_law_x21 q0 q1 q2 q3))] [.int z0])) := by
                        intro Tj325_42 lj325_42 Xj325_42 ej325_42 Nj325_42 z0 yy0
                        subst yy0
                        refine o_istore Xj325_42 hx (hb hby at_325) (pc' := 327) rfl (L' := #[.val (.int q0), .val (.int q1), .val (.int q2), .val (.int q3), .val (.ref b1), .val (.ref b33), .val (.int (6 : Int32)), .val (.int (own_law_x19 q0 q1 q2 q3)), .val (.int (own_law_v325_38_S0 q0 q1 q2 q3)), .val (.int (own_law_x21 q0 q1 q2 q3))]) rfl ?_
                        exact J327_40 _ _ Xj325_42 ej325_42 Nj325_42 ((own_law_v325_38_S0 q0 q1 q2 q3)) (by rw [own_law_v327_40_L8, if_neg hc299_146, if_pos hc305_150])
                      by_cases hc310_151 : (own_law_v294_37_S0 q0 q1 q2 q3) = (0 : Int32)
                      · refine o_ifY Xj294_37 hx (hb hby at_310) (teq hc310_151).1 (by decide) (pc' := 324) (by decide) ?_
                        refine o_iconst Xj294_37 hx (0 : Int32) (hb hby at_324) (pc' := 325) rfl (by decide) ?_
                        exact J325_42 _ _ Xj294_37 ej294_37 Nj294_37 ((0 : Int32)) (by rw [own_law_v325_38_S0, if_pos hc310_151])
                      · refine o_ifN Xj294_37 hx (hb hby at_310) (feq hc310_151).1 (pc' := 313) rfl ?_
                        refine o_iloadN Xj294_37 hx (hb hby at_313) (pc' := 314) rfl rfl ?_
                        refine o_callS Xj294_37 hx hZ 0 (argsL := [.int q3]) (rest := []) hown (w 9 _ rfl) (w 10 _ rfl) (w 11 _ rfl) (w 12 _ rfl) (by decide) (rm1 l Z a0 hw [] q3 h63 n0 Z63 ) (by decide) (by decide) (cells' := 2) rfl (slots' := 30) rfl (by decide) (by decide) ej294_37 (by rw [hml]; rfl) (lenOf pd_0 rfl) rfl rfl (hb hby at_314) (pc' := 317) rfl ?_
                        intro T152 v152 L152 X152 hQ152
                        obtain ⟨rfl, Nq152, e152⟩ := hQ152
                        have N152 := Fr.app Nj294_37 Nq152
                        show Go p e below _ (T152.setTop (mkF m 317 _ [.int (own_f1_ret q3)]))
                        by_cases hc317_153 : (own_f1_ret q3) = (0 : Int32)
                        · refine o_ifN X152 hx (hb hby at_317) (teq hc317_153).2 (pc' := 320) rfl ?_
                          refine o_iconst X152 hx (1 : Int32) (hb hby at_320) (pc' := 321) rfl (by decide) ?_
                          refine o_goto X152 hx (hb hby at_321) (by decide) (pc' := 325) (by decide) ?_
                          exact J325_42 _ _ X152 e152 N152 ((1 : Int32)) (by rw [own_law_v325_38_S0, if_neg hc310_151, if_pos hc317_153])
                        · refine o_ifY X152 hx (hb hby at_317) (feq hc317_153).2 (by decide) (pc' := 324) (by decide) ?_
                          refine o_iconst X152 hx (0 : Int32) (hb hby at_324) (pc' := 325) rfl (by decide) ?_
                          exact J325_42 _ _ X152 e152 N152 ((0 : Int32)) (by rw [own_law_v325_38_S0, if_neg hc310_151, if_neg hc317_153])
                    · refine o_cmpY Xj294_37 hx (hb hby at_305) (flt hc305_150).2.2.2 (by decide) (pc' := 327) (by decide) ?_
                      exact J327_40 _ _ Xj294_37 ej294_37 Nj294_37 ((own_law_v294_37_S0 q0 q1 q2 q3)) (by rw [own_law_v327_40_L8, if_neg hc299_146, if_neg hc305_150])
                by_cases hc278_145 : (own_law_x20 q0 q1 q2 q3) = (0 : Int32)
                · refine o_ifY X144 hx (hb hby at_278) (teq hc278_145).1 (by decide) (pc' := 293) (by decide) ?_
                  refine o_iconst X144 hx (0 : Int32) (hb hby at_293) (pc' := 294) rfl (by decide) ?_
                  exact J294_37 _ _ X144 e144 N144 ((0 : Int32)) (by rw [own_law_v294_37_S0, if_pos hc278_145])
                · refine o_ifN X144 hx (hb hby at_278) (feq hc278_145).1 (pc' := 281) rfl ?_
                  refine o_iload X144 hx (hb hby at_281) (pc' := 283) rfl rfl ?_
                  refine o_callS X144 hx hZ 0 (argsL := [.int (own_law_x21 q0 q1 q2 q3)]) (rest := []) hown (w 9 _ rfl) (w 10 _ rfl) (w 11 _ rfl) (w 12 _ rfl) (by decide) (rm1 l Z a0 hw [] (own_law_x21 q0 q1 q2 q3) h63 n0 Z63 ) (by decide) (by decide) (cells' := 2) rfl (slots' := 30) rfl (by decide) (by decide) e144 (by rw [hml]; rfl) (lenOf pd_0 rfl) rfl rfl (hb hby at_283) (pc' := 286) rfl ?_
                  intro T154 v154 L154 X154 hQ154
                  obtain ⟨rfl, Nq154, e154⟩ := hQ154
                  have N154 := Fr.app N144 Nq154
                  show Go p e below _ (T154.setTop (mkF m 286 _ [.int (own_f1_ret (own_law_x21 q0 q1 q2 q3))]))
                  by_cases hc286_155 : (own_f1_ret (own_law_x21 q0 q1 q2 q3)) = (0 : Int32)
                  · refine o_ifN X154 hx (hb hby at_286) (teq hc286_155).2 (pc' := 289) rfl ?_
                    refine o_iconst X154 hx (1 : Int32) (hb hby at_289) (pc' := 290) rfl (by decide) ?_
                    refine o_goto X154 hx (hb hby at_290) (by decide) (pc' := 294) (by decide) ?_
                    exact J294_37 _ _ X154 e154 N154 ((1 : Int32)) (by rw [own_law_v294_37_S0, if_neg hc278_145, if_pos hc286_155])
                  · refine o_ifY X154 hx (hb hby at_286) (feq hc286_155).2 (by decide) (pc' := 293) (by decide) ?_
                    refine o_iconst X154 hx (0 : Int32) (hb hby at_293) (pc' := 294) rfl (by decide) ?_
                    exact J294_37 _ _ X154 e154 N154 ((0 : Int32)) (by rw [own_law_v294_37_S0, if_neg hc278_145, if_neg hc286_155])
              · by_cases hs156 : (own_law_x0 q0 q1 q2 q3) = (7 : Int32)
                · rw [hs156]
                  refine o_aload X63 hx (hb hby at_206) (pc' := 208) rfl rfl rfl ?_
                  refine o_iload X63 hx (hb hby at_208) (pc' := 210) rfl rfl ?_
                  refine o_iaload X63 hx hZ (.int (895 : Int32)) e63 V64_b1 (by decide) (by rfl) (hb hby at_210) (pc' := 211) rfl ?_
                  refine o_iloadN X63 hx (hb hby at_211) (pc' := 212) rfl rfl ?_
                  refine o_ldcI X63 hx hZ (2147483647 : Int32) hown (w 8 _ rfl) (hb hby at_212) (pc' := 214) rfl ?_
                  refine o_iand X63 hx (hb hby at_214) (pc' := 215) rfl ?_
                  refine o_aload X63 hx (hb hby at_215) (pc' := 217) rfl rfl rfl ?_
                  refine o_iload X63 hx (hb hby at_217) (pc' := 219) rfl rfl ?_
                  refine o_iaload X63 hx hZ (.int (8191 : Int32)) e63 V63_ (by decide) (by rfl) (hb hby at_219) (pc' := 220) rfl ?_
                  refine o_aload X63 hx (hb hby at_220) (pc' := 222) rfl rfl rfl ?_
                  refine o_iload X63 hx (hb hby at_222) (pc' := 224) rfl rfl ?_
                  refine o_iaload X63 hx hZ (.int (895 : Int32)) e63 V64_b1 (by decide) (by rfl) (hb hby at_224) (pc' := 225) rfl ?_
                  refine o_isub X63 hx (hb hby at_225) (pc' := 226) rfl ?_
                  rw [show ((8191 : Int32) - (895 : Int32)) = (7296 : Int32) from by decide]
                  refine o_iconst X63 hx (1 : Int32) (hb hby at_226) (pc' := 227) rfl (by decide) ?_
                  refine o_iadd X63 hx (hb hby at_227) (pc' := 228) rfl ?_
                  rw [show ((7296 : Int32) + (1 : Int32)) = (7297 : Int32) from by decide]
                  refine o_irem X63 hx (hb hby at_228) (pc' := 229) rfl (by decide) ?_
                  refine o_iadd X63 hx (hb hby at_229) (pc' := 230) rfl ?_
                  refine o_istore (x := (own_law_x22 q0 q1 q2 q3)) X63 hx (hb hby at_230) (pc' := 232) rfl (L' := #[.val (.int q0), .val (.int q1), .val (.int q2), .val (.int q3), .val (.ref b1), .val (.ref b33), .val (.int (7 : Int32)), .val (.int (own_law_x22 q0 q1 q2 q3)), .unset, .unset]) rfl ?_
                  refine o_iload X63 hx (hb hby at_232) (pc' := 234) rfl rfl ?_
                  refine o_callS X63 hx hZ 0 (argsL := [.int (own_law_x22 q0 q1 q2 q3)]) (rest := []) hown (w 9 _ rfl) (w 10 _ rfl) (w 11 _ rfl) (w 12 _ rfl) (by decide) (rm1 l Z a0 hw [] (own_law_x22 q0 q1 q2 q3) h63 n0 Z63 ) (by decide) (by decide) (cells' := 2) rfl (slots' := 30) rfl (by decide) (by decide) e63 (by rw [hml]; rfl) (lenOf pd_0 rfl) rfl rfl (hb hby at_234) (pc' := 237) rfl ?_
                  intro T157 v157 L157 X157 hQ157
                  obtain ⟨rfl, Nq157, e157⟩ := hQ157
                  have N157 := Fr.app N63 Nq157
                  show Go p e below _ (T157.setTop (mkF m 237 _ [.int (own_f1_ret (own_law_x22 q0 q1 q2 q3))]))
                  refine o_istore (x := (own_law_x23 q0 q1 q2 q3)) X157 hx (hb hby at_237) (pc' := 239) rfl (L' := #[.val (.int q0), .val (.int q1), .val (.int q2), .val (.int q3), .val (.ref b1), .val (.ref b33), .val (.int (7 : Int32)), .val (.int (own_law_x22 q0 q1 q2 q3)), .val (.int (own_law_x23 q0 q1 q2 q3)), .unset]) rfl ?_
                  refine o_iload X157 hx (hb hby at_239) (pc' := 241) rfl rfl ?_
                  refine o_bipush X157 hx (14 : Int32) (hb hby at_241) (pc' := 243) rfl (by decide) ?_
                  refine o_cmpN X157 hx (hb hby at_243) (tlt (by decide : (7 : Int32) < (14 : Int32))).2.1 (pc' := 246) rfl ?_
                  refine o_aload X157 hx (hb hby at_246) (pc' := 248) rfl rfl rfl ?_
                  refine o_iload X157 hx (hb hby at_248) (pc' := 250) rfl rfl ?_
                  refine o_iaload X157 hx hZ (.int (8191 : Int32)) e157 V63_ (by decide) (by rfl) (hb hby at_250) (pc' := 251) rfl ?_
                  refine o_iconst X157 hx (1 : Int32) (hb hby at_251) (pc' := 252) rfl (by decide) ?_
                  refine o_iadd X157 hx (hb hby at_252) (pc' := 253) rfl ?_
                  rw [show ((8191 : Int32) + (1 : Int32)) = (8192 : Int32) from by decide]
                  refine o_iloadN X157 hx (hb hby at_253) (pc' := 254) rfl rfl ?_
                  refine o_ldcI X157 hx hZ (2147483647 : Int32) hown (w 8 _ rfl) (hb hby at_254) (pc' := 256) rfl ?_
                  refine o_iand X157 hx (hb hby at_256) (pc' := 257) rfl ?_
                  refine o_aload X157 hx (hb hby at_257) (pc' := 259) rfl rfl rfl ?_
                  refine o_iload X157 hx (hb hby at_259) (pc' := 261) rfl rfl ?_
                  refine o_iconst X157 hx (1 : Int32) (hb hby at_261) (pc' := 262) rfl (by decide) ?_
                  refine o_iadd X157 hx (hb hby at_262) (pc' := 263) rfl ?_
                  rw [show ((7 : Int32) + (1 : Int32)) = (8 : Int32) from by decide]
                  refine o_iaload X157 hx hZ (.int (8204 : Int32)) e157 V64_b1 (by decide) (by rfl) (hb hby at_263) (pc' := 264) rfl ?_
                  refine o_aload X157 hx (hb hby at_264) (pc' := 266) rfl rfl rfl ?_
                  refine o_iload X157 hx (hb hby at_266) (pc' := 268) rfl rfl ?_
                  refine o_iaload X157 hx hZ (.int (8191 : Int32)) e157 V63_ (by decide) (by rfl) (hb hby at_268) (pc' := 269) rfl ?_
                  refine o_isub X157 hx (hb hby at_269) (pc' := 270) rfl ?_
                  rw [show ((8204 : Int32) - (8191 : Int32)) = (13 : Int32) from by decide]
                  refine o_iconst X157 hx (1 : Int32) (hb hby at_270) (pc' := 271) rfl (by decide) ?_
                  refine o_isub X157 hx (hb hby at_271) (pc' := 272) rfl ?_
                  rw [show ((13 : Int32) - (1 : Int32)) = (12 : Int32) from by decide]
                  refine o_irem X157 hx (hb hby at_272) (pc' := 273) rfl (by decide) ?_
                  refine o_iadd X157 hx (hb hby at_273) (pc' := 274) rfl ?_
                  refine o_istore (x := (own_law_x24 q0 q1 q2 q3)) X157 hx (hb hby at_274) (pc' := 276) rfl (L' := #[.val (.int q0), .val (.int q1), .val (.int q2), .val (.int q3), .val (.ref b1), .val (.ref b33), .val (.int (7 : Int32)), .val (.int (own_law_x22 q0 q1 q2 q3)), .val (.int (own_law_x23 q0 q1 q2 q3)), .val (.int (own_law_x24 q0 q1 q2 q3))]) rfl ?_
                  refine o_iload X157 hx (hb hby at_276) (pc' := 278) rfl rfl ?_
                  have J294_43 : ∀ (Tj294_43 : State) (lj294_43 : List Loc) (Xj294_43 : Stand p l e room_1 s m #[(.int q0), (.int q1), (.int q2), (.int q3)] below meth c Tj294_43 lj294_43 2 30) (ej294_43 : Tj294_43.heap = h63) (Nj294_43 : Fr n0 lj294_43) (z0 : Int32), z0 = (own_law_v294_43_S0 q0 q1 q2 q3) → Go p e below OWE (Tj294_43.setTop (mkF m 294 #[.val (.int q0), .val (.int q1), .val (.int q2), .val (.int q3), .val (.ref b1), .val (.ref b33), .val (.int (7 : Int32)), .val (.int (own_law_x22 q0 q1 q2 q3)), .val (.int (own_law_x23 q0 q1 q2 q3)), .val (.int (own_law_x24 q0 q1 q2 q3))] [.int z0])) := by
                    intro Tj294_43 lj294_43 Xj294_43 ej294_43 Nj294_43 z0 yy0
                    subst yy0
                    refine o_istore Xj294_43 hx (hb hby at_294) (pc' := 296) rfl (L' := #[.val (.int q0), .val (.int q1), .val (.int q2), .val (.int q3), .val (.ref b1), .val (.ref b33), .val (.int (7 : Int32)), .val (.int (own_law_x22 q0 q1 q2 q3)), .val (.int (own_law_v294_43_S0 q0 q1 q2 q3)), .val (.int (own_law_x24 q0 q1 q2 q3))]) rfl ?_
                    refine o_iloadN Xj294_43 hx (hb hby at_296) (pc' := 297) rfl rfl ?_
                    refine o_bipush Xj294_43 hx (65 : Int32) (hb hby at_297) (pc' := 299) rfl (by decide) ?_
                    have J327_46 : ∀ (Tj327_46 : State) (lj327_46 : List Loc) (Xj327_46 : Stand p l e room_1 s m #[(.int q0), (.int q1), (.int q2), (.int q3)] below meth c Tj327_46 lj327_46 2 30) (ej327_46 : Tj327_46.heap = h63) (Nj327_46 : Fr n0 lj327_46) (z0 : Int32), z0 = (own_law_v327_46_L8 q0 q1 q2 q3) → Go p e below OWE (Tj327_46.setTop (mkF m 327 #[.val (.int q0), .val (.int q1), .val (.int q2), .val (.int q3), .val (.ref b1), .val (.ref b33), .val (.int (7 : Int32)), .val (.int (own_law_x22 q0 q1 q2 q3)), .val (.int z0), .val (.int (own_law_x24 q0 q1 q2 q3))] [])) := by
                      intro Tj327_46 lj327_46 Xj327_46 ej327_46 Nj327_46 z0 yy0
                      subst yy0
                      refine o_iload Xj327_46 hx (hb hby at_327) (pc' := 329) rfl rfl ?_
                      rw [← hOWE]
                      exact o_retZ Xj327_46 hx (own_narZ (own_law_v327_46_L8_01 q0 q1 q2 q3)) hlk hrt (hb hby at_329) (by decide) (by decide) (by rw [ej327_46]; exact ⟨(by rw [own_law_ret, if_neg hs65, if_neg hs78, if_neg hs91, if_neg hs104, if_neg hs117, if_neg hs130, if_neg hs143, if_pos hs156, own_law_ret_j294_43, own_law_ret_j327_46]), Nj327_46⟩)
                    by_cases hc299_159 : q3 < (65 : Int32)
                    · refine o_cmpY Xj294_43 hx (hb hby at_299) (tlt hc299_159).1 (by decide) (pc' := 308) (by decide) ?_
                      refine o_iload Xj294_43 hx (hb hby at_308) (pc' := 310) rfl rfl ?_
                      have J325_47 : ∀ (Tj325_47 : State) (lj325_47 : List Loc) (Xj325_47 : Stand p l e room_1 s m #[(.int q0), (.int q1), (.int q2), (.int q3)] below meth c Tj325_47 lj325_47 2 30) (ej325_47 : Tj325_47.heap = h63) (Nj325_47 : Fr n0 lj325_47) (z0 : Int32), z0 = (own_law_v325_44_S0 q0 q1 q2 q3) → Go p e below OWE (Tj325_47.setTop (mkF m 325 #[.val (.int q0), .val (.int q1), .val (.int q2), .val (.int q3), .val (.ref b1), .val (.ref b33), .val (.int (7 : Int32)), .val (.int (own_law_x22 q0 q1 q2 q3)), .val (.int (own_law_v294_43_S0 q0 q1 q2 q3)), .val (.int (own_law_x24 q0 q1 q2 q3))] [.int z0])) := by
                        intro Tj325_47 lj325_47 Xj325_47 ej325_47 Nj325_47 z0 yy0
                        subst yy0
                        refine o_istore Xj325_47 hx (hb hby at_325) (pc' := 327) rfl (L' := #[.val (.int q0), .val (.int q1), .val (.int q2), .val (.int q3), .val (.ref b1), .val (.ref b33), .val (.int (7 : Int32)), .val (.int (own_law_x22 q0 q1 q2 q3)), .val (.int (own_law_v325_44_S0 q0 q1 q2 q3)), .val (.int (own_law_x24 q0 q1 q2 q3))]) rfl ?_
                        exact J327_46 _ _ Xj325_47 ej325_47 Nj325_47 ((own_law_v325_44_S0 q0 q1 q2 q3)) (by rw [own_law_v327_46_L8, if_pos hc299_159])
                      by_cases hc310_160 : (own_law_v294_43_S0 q0 q1 q2 q3) = (0 : Int32)
                      · refine o_ifY Xj294_43 hx (hb hby at_310) (teq hc310_160).1 (by decide) (pc' := 324) (by decide) ?_
                        refine o_iconst Xj294_43 hx (0 : Int32) (hb hby at_324) (pc' := 325) rfl (by decide) ?_
                        exact J325_47 _ _ Xj294_43 ej294_43 Nj294_43 ((0 : Int32)) (by rw [own_law_v325_44_S0, if_pos hc310_160])
                      · refine o_ifN Xj294_43 hx (hb hby at_310) (feq hc310_160).1 (pc' := 313) rfl ?_
                        refine o_iloadN Xj294_43 hx (hb hby at_313) (pc' := 314) rfl rfl ?_
                        refine o_callS Xj294_43 hx hZ 0 (argsL := [.int q3]) (rest := []) hown (w 9 _ rfl) (w 10 _ rfl) (w 11 _ rfl) (w 12 _ rfl) (by decide) (rm1 l Z a0 hw [] q3 h63 n0 Z63 ) (by decide) (by decide) (cells' := 2) rfl (slots' := 30) rfl (by decide) (by decide) ej294_43 (by rw [hml]; rfl) (lenOf pd_0 rfl) rfl rfl (hb hby at_314) (pc' := 317) rfl ?_
                        intro T161 v161 L161 X161 hQ161
                        obtain ⟨rfl, Nq161, e161⟩ := hQ161
                        have N161 := Fr.app Nj294_43 Nq161
                        show Go p e below _ (T161.setTop (mkF m 317 _ [.int (own_f1_ret q3)]))
                        by_cases hc317_162 : (own_f1_ret q3) = (0 : Int32)
                        · refine o_ifN X161 hx (hb hby at_317) (teq hc317_162).2 (pc' := 320) rfl ?_
                          refine o_iconst X161 hx (1 : Int32) (hb hby at_320) (pc' := 321) rfl (by decide) ?_
                          refine o_goto X161 hx (hb hby at_321) (by decide) (pc' := 325) (by decide) ?_
                          exact J325_47 _ _ X161 e161 N161 ((1 : Int32)) (by rw [own_law_v325_44_S0, if_neg hc310_160, if_pos hc317_162])
                        · refine o_ifY X161 hx (hb hby at_317) (feq hc317_162).2 (by decide) (pc' := 324) (by decide) ?_
                          refine o_iconst X161 hx (0 : Int32) (hb hby at_324) (pc' := 325) rfl (by decide) ?_
                          exact J325_47 _ _ X161 e161 N161 ((0 : Int32)) (by rw [own_law_v325_44_S0, if_neg hc310_160, if_neg hc317_162])
                    · refine o_cmpN Xj294_43 hx (hb hby at_299) (flt hc299_159).1 (pc' := 302) rfl ?_
                      refine o_iloadN Xj294_43 hx (hb hby at_302) (pc' := 303) rfl rfl ?_
                      refine o_ldcI Xj294_43 hx hZ (983039 : Int32) hown (w 7 _ rfl) (hb hby at_303) (pc' := 305) rfl ?_
                      by_cases hc305_163 : (983039 : Int32) < q3
                      · refine o_cmpN Xj294_43 hx (hb hby at_305) (tlt hc305_163).2.2.2 (pc' := 308) rfl ?_
                        refine o_iload Xj294_43 hx (hb hby at_308) (pc' := 310) rfl rfl ?_
                        have J325_48 : ∀ (Tj325_48 : State) (lj325_48 : List Loc) (Xj325_48 : Stand p l e room_1 s m #[(.int q0), (.int q1), (.int q2), (.int q3)] below meth c Tj325_48 lj325_48 2 30) (ej325_48 : Tj325_48.heap = h63) (Nj325_48 : Fr n0 lj325_48) (z0 : Int32), z0 = (own_law_v325_44_S0 q0 q1 q2 q3) → Go p e below OWE (Tj325_48.setTop (mkF m 325 #[.val (.int q0), .val (.int q1), .val (.int q2), .val (.int q3), .val (.ref b1), .val (.ref b33), .val (.int (7 : Int32)), .val (.int (own_law_x22 q0 q1 q2 q3)), .val (.int (own_law_v294_43_S0 q0 q1 q2 q3)), .val (.int (own_law_x24 q0 q1 q2 q3))] [.int z0])) := by
                          intro Tj325_48 lj325_48 Xj325_48 ej325_48 Nj325_48 z0 yy0
                          subst yy0
                          refine o_istore Xj325_48 hx (hb hby at_325) (pc' := 327) rfl (L' := #[.val (.int q0), .val (.int q1), .val (.int q2), .val (.int q3), .val (.ref b1), .val (.ref b33), .val (.int (7 : Int32)), .val (.int (own_law_x22 q0 q1 q2 q3)), .val (.int (own_law_v325_44_S0 q0 q1 q2 q3)), .val (.int (own_law_x24 q0 q1 q2 q3))]) rfl ?_
                          exact J327_46 _ _ Xj325_48 ej325_48 Nj325_48 ((own_law_v325_44_S0 q0 q1 q2 q3)) (by rw [own_law_v327_46_L8, if_neg hc299_159, if_pos hc305_163])
                        by_cases hc310_164 : (own_law_v294_43_S0 q0 q1 q2 q3) = (0 : Int32)
                        · refine o_ifY Xj294_43 hx (hb hby at_310) (teq hc310_164).1 (by decide) (pc' := 324) (by decide) ?_
                          refine o_iconst Xj294_43 hx (0 : Int32) (hb hby at_324) (pc' := 325) rfl (by decide) ?_
                          exact J325_48 _ _ Xj294_43 ej294_43 Nj294_43 ((0 : Int32)) (by rw [own_law_v325_44_S0, if_pos hc310_164])
                        · refine o_ifN Xj294_43 hx (hb hby at_310) (feq hc310_164).1 (pc' := 313) rfl ?_
                          refine o_iloadN Xj294_43 hx (hb hby at_313) (pc' := 314) rfl rfl ?_
                          refine o_callS Xj294_43 hx hZ 0 (argsL := [.int q3]) (rest := []) hown (w 9 _ rfl) (w 10 _ rfl) (w 11 _ rfl) (w 12 _ rfl) (by decide) (rm1 l Z a0 hw [] q3 h63 n0 Z63 ) (by decide) (by decide) (cells' := 2) rfl (slots' := 30) rfl (by decide) (by decide) ej294_43 (by rw [hml]; rfl) (lenOf pd_0 rfl) rfl rfl (hb hby at_314) (pc' := 317) rfl ?_
                          intro T165 v165 L165 X165 hQ165
                          obtain ⟨rfl, Nq165, e165⟩ := hQ165
                          have N165 := Fr.app Nj294_43 Nq165
                          show Go p e below _ (T165.setTop (mkF m 317 _ [.int (own_f1_ret q3)]))
                          by_cases hc317_166 : (own_f1_ret q3) = (0 : Int32)
                          · refine o_ifN X165 hx (hb hby at_317) (teq hc317_166).2 (pc' := 320) rfl ?_
                            refine o_iconst X165 hx (1 : Int32) (hb hby at_320) (pc' := 321) rfl (by decide) ?_
                            refine o_goto X165 hx (hb hby at_321) (by decide) (pc' := 325) (by decide) ?_
                            exact J325_48 _ _ X165 e165 N165 ((1 : Int32)) (by rw [own_law_v325_44_S0, if_neg hc310_164, if_pos hc317_166])
                          · refine o_ifY X165 hx (hb hby at_317) (feq hc317_166).2 (by decide) (pc' := 324) (by decide) ?_
                            refine o_iconst X165 hx (0 : Int32) (hb hby at_324) (pc' := 325) rfl (by decide) ?_
                            exact J325_48 _ _ X165 e165 N165 ((0 : Int32)) (by rw [own_law_v325_44_S0, if_neg hc310_164, if_neg hc317_166])
                      · refine o_cmpY Xj294_43 hx (hb hby at_305) (flt hc305_163).2.2.2 (by decide) (pc' := 327) (by decide) ?_
                        exact J327_46 _ _ Xj294_43 ej294_43 Nj294_43 ((own_law_v294_43_S0 q0 q1 q2 q3)) (by rw [own_law_v327_46_L8, if_neg hc299_159, if_neg hc305_163])
                  by_cases hc278_158 : (own_law_x23 q0 q1 q2 q3) = (0 : Int32)
                  · refine o_ifY X157 hx (hb hby at_278) (teq hc278_158).1 (by decide) (pc' := 293) (by decide) ?_
                    refine o_iconst X157 hx (0 : Int32) (hb hby at_293) (pc' := 294) rfl (by decide) ?_
                    exact J294_43 _ _ X157 e157 N157 ((0 : Int32)) (by rw [own_law_v294_43_S0, if_pos hc278_158])
                  · refine o_ifN X157 hx (hb hby at_278) (feq hc278_158).1 (pc' := 281) rfl ?_
                    refine o_iload X157 hx (hb hby at_281) (pc' := 283) rfl rfl ?_
                    refine o_callS X157 hx hZ 0 (argsL := [.int (own_law_x24 q0 q1 q2 q3)]) (rest := []) hown (w 9 _ rfl) (w 10 _ rfl) (w 11 _ rfl) (w 12 _ rfl) (by decide) (rm1 l Z a0 hw [] (own_law_x24 q0 q1 q2 q3) h63 n0 Z63 ) (by decide) (by decide) (cells' := 2) rfl (slots' := 30) rfl (by decide) (by decide) e157 (by rw [hml]; rfl) (lenOf pd_0 rfl) rfl rfl (hb hby at_283) (pc' := 286) rfl ?_
                    intro T167 v167 L167 X167 hQ167
                    obtain ⟨rfl, Nq167, e167⟩ := hQ167
                    have N167 := Fr.app N157 Nq167
                    show Go p e below _ (T167.setTop (mkF m 286 _ [.int (own_f1_ret (own_law_x24 q0 q1 q2 q3))]))
                    by_cases hc286_168 : (own_f1_ret (own_law_x24 q0 q1 q2 q3)) = (0 : Int32)
                    · refine o_ifN X167 hx (hb hby at_286) (teq hc286_168).2 (pc' := 289) rfl ?_
                      refine o_iconst X167 hx (1 : Int32) (hb hby at_289) (pc' := 290) rfl (by decide) ?_
                      refine o_goto X167 hx (hb hby at_290) (by decide) (pc' := 294) (by decide) ?_
                      exact J294_43 _ _ X167 e167 N167 ((1 : Int32)) (by rw [own_law_v294_43_S0, if_neg hc278_158, if_pos hc286_168])
                    · refine o_ifY X167 hx (hb hby at_286) (feq hc286_168).2 (by decide) (pc' := 293) (by decide) ?_
                      refine o_iconst X167 hx (0 : Int32) (hb hby at_293) (pc' := 294) rfl (by decide) ?_
                      exact J294_43 _ _ X167 e167 N167 ((0 : Int32)) (by rw [own_law_v294_43_S0, if_neg hc278_158, if_neg hc286_168])
                · by_cases hs169 : (own_law_x0 q0 q1 q2 q3) = (8 : Int32)
                  · rw [hs169]
                    refine o_aload X63 hx (hb hby at_206) (pc' := 208) rfl rfl rfl ?_
                    refine o_iload X63 hx (hb hby at_208) (pc' := 210) rfl rfl ?_
                    refine o_iaload X63 hx hZ (.int (8204 : Int32)) e63 V64_b1 (by decide) (by rfl) (hb hby at_210) (pc' := 211) rfl ?_
                    refine o_iloadN X63 hx (hb hby at_211) (pc' := 212) rfl rfl ?_
                    refine o_ldcI X63 hx hZ (2147483647 : Int32) hown (w 8 _ rfl) (hb hby at_212) (pc' := 214) rfl ?_
                    refine o_iand X63 hx (hb hby at_214) (pc' := 215) rfl ?_
                    refine o_aload X63 hx (hb hby at_215) (pc' := 217) rfl rfl rfl ?_
                    refine o_iload X63 hx (hb hby at_217) (pc' := 219) rfl rfl ?_
                    refine o_iaload X63 hx hZ (.int (8205 : Int32)) e63 V63_ (by decide) (by rfl) (hb hby at_219) (pc' := 220) rfl ?_
                    refine o_aload X63 hx (hb hby at_220) (pc' := 222) rfl rfl rfl ?_
                    refine o_iload X63 hx (hb hby at_222) (pc' := 224) rfl rfl ?_
                    refine o_iaload X63 hx hZ (.int (8204 : Int32)) e63 V64_b1 (by decide) (by rfl) (hb hby at_224) (pc' := 225) rfl ?_
                    refine o_isub X63 hx (hb hby at_225) (pc' := 226) rfl ?_
                    rw [show ((8205 : Int32) - (8204 : Int32)) = (1 : Int32) from by decide]
                    refine o_iconst X63 hx (1 : Int32) (hb hby at_226) (pc' := 227) rfl (by decide) ?_
                    refine o_iadd X63 hx (hb hby at_227) (pc' := 228) rfl ?_
                    rw [show ((1 : Int32) + (1 : Int32)) = (2 : Int32) from by decide]
                    refine o_irem X63 hx (hb hby at_228) (pc' := 229) rfl (by decide) ?_
                    refine o_iadd X63 hx (hb hby at_229) (pc' := 230) rfl ?_
                    refine o_istore (x := (own_law_x25 q0 q1 q2 q3)) X63 hx (hb hby at_230) (pc' := 232) rfl (L' := #[.val (.int q0), .val (.int q1), .val (.int q2), .val (.int q3), .val (.ref b1), .val (.ref b33), .val (.int (8 : Int32)), .val (.int (own_law_x25 q0 q1 q2 q3)), .unset, .unset]) rfl ?_
                    refine o_iload X63 hx (hb hby at_232) (pc' := 234) rfl rfl ?_
                    refine o_callS X63 hx hZ 0 (argsL := [.int (own_law_x25 q0 q1 q2 q3)]) (rest := []) hown (w 9 _ rfl) (w 10 _ rfl) (w 11 _ rfl) (w 12 _ rfl) (by decide) (rm1 l Z a0 hw [] (own_law_x25 q0 q1 q2 q3) h63 n0 Z63 ) (by decide) (by decide) (cells' := 2) rfl (slots' := 30) rfl (by decide) (by decide) e63 (by rw [hml]; rfl) (lenOf pd_0 rfl) rfl rfl (hb hby at_234) (pc' := 237) rfl ?_
                    intro T170 v170 L170 X170 hQ170
                    obtain ⟨rfl, Nq170, e170⟩ := hQ170
                    have N170 := Fr.app N63 Nq170
                    show Go p e below _ (T170.setTop (mkF m 237 _ [.int (own_f1_ret (own_law_x25 q0 q1 q2 q3))]))
                    refine o_istore (x := (own_law_x26 q0 q1 q2 q3)) X170 hx (hb hby at_237) (pc' := 239) rfl (L' := #[.val (.int q0), .val (.int q1), .val (.int q2), .val (.int q3), .val (.ref b1), .val (.ref b33), .val (.int (8 : Int32)), .val (.int (own_law_x25 q0 q1 q2 q3)), .val (.int (own_law_x26 q0 q1 q2 q3)), .unset]) rfl ?_
                    refine o_iload X170 hx (hb hby at_239) (pc' := 241) rfl rfl ?_
                    refine o_bipush X170 hx (14 : Int32) (hb hby at_241) (pc' := 243) rfl (by decide) ?_
                    refine o_cmpN X170 hx (hb hby at_243) (tlt (by decide : (8 : Int32) < (14 : Int32))).2.1 (pc' := 246) rfl ?_
                    refine o_aload X170 hx (hb hby at_246) (pc' := 248) rfl rfl rfl ?_
                    refine o_iload X170 hx (hb hby at_248) (pc' := 250) rfl rfl ?_
                    refine o_iaload X170 hx hZ (.int (8205 : Int32)) e170 V63_ (by decide) (by rfl) (hb hby at_250) (pc' := 251) rfl ?_
                    refine o_iconst X170 hx (1 : Int32) (hb hby at_251) (pc' := 252) rfl (by decide) ?_
                    refine o_iadd X170 hx (hb hby at_252) (pc' := 253) rfl ?_
                    rw [show ((8205 : Int32) + (1 : Int32)) = (8206 : Int32) from by decide]
                    refine o_iloadN X170 hx (hb hby at_253) (pc' := 254) rfl rfl ?_
                    refine o_ldcI X170 hx hZ (2147483647 : Int32) hown (w 8 _ rfl) (hb hby at_254) (pc' := 256) rfl ?_
                    refine o_iand X170 hx (hb hby at_256) (pc' := 257) rfl ?_
                    refine o_aload X170 hx (hb hby at_257) (pc' := 259) rfl rfl rfl ?_
                    refine o_iload X170 hx (hb hby at_259) (pc' := 261) rfl rfl ?_
                    refine o_iconst X170 hx (1 : Int32) (hb hby at_261) (pc' := 262) rfl (by decide) ?_
                    refine o_iadd X170 hx (hb hby at_262) (pc' := 263) rfl ?_
                    rw [show ((8 : Int32) + (1 : Int32)) = (9 : Int32) from by decide]
                    refine o_iaload X170 hx hZ (.int (8304 : Int32)) e170 V64_b1 (by decide) (by rfl) (hb hby at_263) (pc' := 264) rfl ?_
                    refine o_aload X170 hx (hb hby at_264) (pc' := 266) rfl rfl rfl ?_
                    refine o_iload X170 hx (hb hby at_266) (pc' := 268) rfl rfl ?_
                    refine o_iaload X170 hx hZ (.int (8205 : Int32)) e170 V63_ (by decide) (by rfl) (hb hby at_268) (pc' := 269) rfl ?_
                    refine o_isub X170 hx (hb hby at_269) (pc' := 270) rfl ?_
                    rw [show ((8304 : Int32) - (8205 : Int32)) = (99 : Int32) from by decide]
                    refine o_iconst X170 hx (1 : Int32) (hb hby at_270) (pc' := 271) rfl (by decide) ?_
                    refine o_isub X170 hx (hb hby at_271) (pc' := 272) rfl ?_
                    rw [show ((99 : Int32) - (1 : Int32)) = (98 : Int32) from by decide]
                    refine o_irem X170 hx (hb hby at_272) (pc' := 273) rfl (by decide) ?_
                    refine o_iadd X170 hx (hb hby at_273) (pc' := 274) rfl ?_
                    refine o_istore (x := (own_law_x27 q0 q1 q2 q3)) X170 hx (hb hby at_274) (pc' := 276) rfl (L' := #[.val (.int q0), .val (.int q1), .val (.int q2), .val (.int q3), .val (.ref b1), .val (.ref b33), .val (.int (8 : Int32)), .val (.int (own_law_x25 q0 q1 q2 q3)), .val (.int (own_law_x26 q0 q1 q2 q3)), .val (.int (own_law_x27 q0 q1 q2 q3))]) rfl ?_
                    refine o_iload X170 hx (hb hby at_276) (pc' := 278) rfl rfl ?_
                    have J294_49 : ∀ (Tj294_49 : State) (lj294_49 : List Loc) (Xj294_49 : Stand p l e room_1 s m #[(.int q0), (.int q1), (.int q2), (.int q3)] below meth c Tj294_49 lj294_49 2 30) (ej294_49 : Tj294_49.heap = h63) (Nj294_49 : Fr n0 lj294_49) (z0 : Int32), z0 = (own_law_v294_49_S0 q0 q1 q2 q3) → Go p e below OWE (Tj294_49.setTop (mkF m 294 #[.val (.int q0), .val (.int q1), .val (.int q2), .val (.int q3), .val (.ref b1), .val (.ref b33), .val (.int (8 : Int32)), .val (.int (own_law_x25 q0 q1 q2 q3)), .val (.int (own_law_x26 q0 q1 q2 q3)), .val (.int (own_law_x27 q0 q1 q2 q3))] [.int z0])) := by
                      intro Tj294_49 lj294_49 Xj294_49 ej294_49 Nj294_49 z0 yy0
                      subst yy0
                      refine o_istore Xj294_49 hx (hb hby at_294) (pc' := 296) rfl (L' := #[.val (.int q0), .val (.int q1), .val (.int q2), .val (.int q3), .val (.ref b1), .val (.ref b33), .val (.int (8 : Int32)), .val (.int (own_law_x25 q0 q1 q2 q3)), .val (.int (own_law_v294_49_S0 q0 q1 q2 q3)), .val (.int (own_law_x27 q0 q1 q2 q3))]) rfl ?_
                      refine o_iloadN Xj294_49 hx (hb hby at_296) (pc' := 297) rfl rfl ?_
                      refine o_bipush Xj294_49 hx (65 : Int32) (hb hby at_297) (pc' := 299) rfl (by decide) ?_
                      have J327_52 : ∀ (Tj327_52 : State) (lj327_52 : List Loc) (Xj327_52 : Stand p l e room_1 s m #[(.int q0), (.int q1), (.int q2), (.int q3)] below meth c Tj327_52 lj327_52 2 30) (ej327_52 : Tj327_52.heap = h63) (Nj327_52 : Fr n0 lj327_52) (z0 : Int32), z0 = (own_law_v327_52_L8 q0 q1 q2 q3) → Go p e below OWE (Tj327_52.setTop (mkF m 327 #[.val (.int q0), .val (.int q1), .val (.int q2), .val (.int q3), .val (.ref b1), .val (.ref b33), .val (.int (8 : Int32)), .val (.int (own_law_x25 q0 q1 q2 q3)), .val (.int z0), .val (.int (own_law_x27 q0 q1 q2 q3))] [])) := by
                        intro Tj327_52 lj327_52 Xj327_52 ej327_52 Nj327_52 z0 yy0
                        subst yy0
                        refine o_iload Xj327_52 hx (hb hby at_327) (pc' := 329) rfl rfl ?_
                        rw [← hOWE]
                        exact o_retZ Xj327_52 hx (own_narZ (own_law_v327_52_L8_01 q0 q1 q2 q3)) hlk hrt (hb hby at_329) (by decide) (by decide) (by rw [ej327_52]; exact ⟨(by rw [own_law_ret, if_neg hs65, if_neg hs78, if_neg hs91, if_neg hs104, if_neg hs117, if_neg hs130, if_neg hs143, if_neg hs156, if_pos hs169, own_law_ret_j294_49, own_law_ret_j327_52]), Nj327_52⟩)
                      by_cases hc299_172 : q3 < (65 : Int32)
                      · refine o_cmpY Xj294_49 hx (hb hby at_299) (tlt hc299_172).1 (by decide) (pc' := 308) (by decide) ?_
                        refine o_iload Xj294_49 hx (hb hby at_308) (pc' := 310) rfl rfl ?_
                        have J325_53 : ∀ (Tj325_53 : State) (lj325_53 : List Loc) (Xj325_53 : Stand p l e room_1 s m #[(.int q0), (.int q1), (.int q2), (.int q3)] below meth c Tj325_53 lj325_53 2 30) (ej325_53 : Tj325_53.heap = h63) (Nj325_53 : Fr n0 lj325_53) (z0 : Int32), z0 = (own_law_v325_50_S0 q0 q1 q2 q3) → Go p e below OWE (Tj325_53.setTop (mkF m 325 #[.val (.int q0), .val (.int q1), .val (.int q2), .val (.int q3), .val (.ref b1), .val (.ref b33), .val (.int (8 : Int32)), .val (.int (own_law_x25 q0 q1 q2 q3)), .val (.int (own_law_v294_49_S0 q0 q1 q2 q3)), .val (.int (own_law_x27 q0 q1 q2 q3))] [.int z0])) := by
                          intro Tj325_53 lj325_53 Xj325_53 ej325_53 Nj325_53 z0 yy0
                          subst yy0
                          refine o_istore Xj325_53 hx (hb hby at_325) (pc' := 327) rfl (L' := #[.val (.int q0), .val (.int q1), .val (.int q2), .val (.int q3), .val (.ref b1), .val (.ref b33), .val (.int (8 : Int32)), .val (.int (own_law_x25 q0 q1 q2 q3)), .val (.int (own_law_v325_50_S0 q0 q1 q2 q3)), .val (.int (own_law_x27 q0 q1 q2 q3))]) rfl ?_
                          exact J327_52 _ _ Xj325_53 ej325_53 Nj325_53 ((own_law_v325_50_S0 q0 q1 q2 q3)) (by rw [own_law_v327_52_L8, if_pos hc299_172])
                        by_cases hc310_173 : (own_law_v294_49_S0 q0 q1 q2 q3) = (0 : Int32)
                        · refine o_ifY Xj294_49 hx (hb hby at_310) (teq hc310_173).1 (by decide) (pc' := 324) (by decide) ?_
                          refine o_iconst Xj294_49 hx (0 : Int32) (hb hby at_324) (pc' := 325) rfl (by decide) ?_
                          exact J325_53 _ _ Xj294_49 ej294_49 Nj294_49 ((0 : Int32)) (by rw [own_law_v325_50_S0, if_pos hc310_173])
                        · refine o_ifN Xj294_49 hx (hb hby at_310) (feq hc310_173).1 (pc' := 313) rfl ?_
                          refine o_iloadN Xj294_49 hx (hb hby at_313) (pc' := 314) rfl rfl ?_
                          refine o_callS Xj294_49 hx hZ 0 (argsL := [.int q3]) (rest := []) hown (w 9 _ rfl) (w 10 _ rfl) (w 11 _ rfl) (w 12 _ rfl) (by decide) (rm1 l Z a0 hw [] q3 h63 n0 Z63 ) (by decide) (by decide) (cells' := 2) rfl (slots' := 30) rfl (by decide) (by decide) ej294_49 (by rw [hml]; rfl) (lenOf pd_0 rfl) rfl rfl (hb hby at_314) (pc' := 317) rfl ?_
                          intro T174 v174 L174 X174 hQ174
                          obtain ⟨rfl, Nq174, e174⟩ := hQ174
                          have N174 := Fr.app Nj294_49 Nq174
                          show Go p e below _ (T174.setTop (mkF m 317 _ [.int (own_f1_ret q3)]))
                          by_cases hc317_175 : (own_f1_ret q3) = (0 : Int32)
                          · refine o_ifN X174 hx (hb hby at_317) (teq hc317_175).2 (pc' := 320) rfl ?_
                            refine o_iconst X174 hx (1 : Int32) (hb hby at_320) (pc' := 321) rfl (by decide) ?_
                            refine o_goto X174 hx (hb hby at_321) (by decide) (pc' := 325) (by decide) ?_
                            exact J325_53 _ _ X174 e174 N174 ((1 : Int32)) (by rw [own_law_v325_50_S0, if_neg hc310_173, if_pos hc317_175])
                          · refine o_ifY X174 hx (hb hby at_317) (feq hc317_175).2 (by decide) (pc' := 324) (by decide) ?_
                            refine o_iconst X174 hx (0 : Int32) (hb hby at_324) (pc' := 325) rfl (by decide) ?_
                            exact J325_53 _ _ X174 e174 N174 ((0 : Int32)) (by rw [own_law_v325_50_S0, if_neg hc310_173, if_neg hc317_175])
                      · refine o_cmpN Xj294_49 hx (hb hby at_299) (flt hc299_172).1 (pc' := 302) rfl ?_
                        refine o_iloadN Xj294_49 hx (hb hby at_302) (pc' := 303) rfl rfl ?_
                        refine o_ldcI Xj294_49 hx hZ (983039 : Int32) hown (w 7 _ rfl) (hb hby at_303) (pc' := 305) rfl ?_
                        by_cases hc305_176 : (983039 : Int32) < q3
                        · refine o_cmpN Xj294_49 hx (hb hby at_305) (tlt hc305_176).2.2.2 (pc' := 308) rfl ?_
                          refine o_iload Xj294_49 hx (hb hby at_308) (pc' := 310) rfl rfl ?_
                          have J325_54 : ∀ (Tj325_54 : State) (lj325_54 : List Loc) (Xj325_54 : Stand p l e room_1 s m #[(.int q0), (.int q1), (.int q2), (.int q3)] below meth c Tj325_54 lj325_54 2 30) (ej325_54 : Tj325_54.heap = h63) (Nj325_54 : Fr n0 lj325_54) (z0 : Int32), z0 = (own_law_v325_50_S0 q0 q1 q2 q3) → Go p e below OWE (Tj325_54.setTop (mkF m 325 #[.val (.int q0), .val (.int q1), .val (.int q2), .val (.int q3), .val (.ref b1), .val (.ref b33), .val (.int (8 : Int32)), .val (.int (own_law_x25 q0 q1 q2 q3)), .val (.int (own_law_v294_49_S0 q0 q1 q2 q3)), .val (.int (own_law_x27 q0 q1 q2 q3))] [.int z0])) := by
                            intro Tj325_54 lj325_54 Xj325_54 ej325_54 Nj325_54 z0 yy0
                            subst yy0
                            refine o_istore Xj325_54 hx (hb hby at_325) (pc' := 327) rfl (L' := #[.val (.int q0), .val (.int q1), .val (.int q2), .val (.int q3), .val (.ref b1), .val (.ref b33), .val (.int (8 : Int32)), .val (.int (own_law_x25 q0 q1 q2 q3)), .val (.int (own_law_v325_50_S0 q0 q1 q2 q3)), .val (.int (own_law_x27 q0 q1 q2 q3))]) rfl ?_
                            exact J327_52 _ _ Xj325_54 ej325_54 Nj325_54 ((own_law_v325_50_S0 q0 q1 q2 q3)) (by rw [own_law_v327_52_L8, if_neg hc299_172, if_pos hc305_176])
                          by_cases hc310_177 : (own_law_v294_49_S0 q0 q1 q2 q3) = (0 : Int32)
                          · refine o_ifY Xj294_49 hx (hb hby at_310) (teq hc310_177).1 (by decide) (pc' := 324) (by decide) ?_
                            refine o_iconst Xj294_49 hx (0 : Int32) (hb hby at_324) (pc' := 325) rfl (by decide) ?_
                            exact J325_54 _ _ Xj294_49 ej294_49 Nj294_49 ((0 : Int32)) (by rw [own_law_v325_50_S0, if_pos hc310_177])
                          · refine o_ifN Xj294_49 hx (hb hby at_310) (feq hc310_177).1 (pc' := 313) rfl ?_
                            refine o_iloadN Xj294_49 hx (hb hby at_313) (pc' := 314) rfl rfl ?_
                            refine o_callS Xj294_49 hx hZ 0 (argsL := [.int q3]) (rest := []) hown (w 9 _ rfl) (w 10 _ rfl) (w 11 _ rfl) (w 12 _ rfl) (by decide) (rm1 l Z a0 hw [] q3 h63 n0 Z63 ) (by decide) (by decide) (cells' := 2) rfl (slots' := 30) rfl (by decide) (by decide) ej294_49 (by rw [hml]; rfl) (lenOf pd_0 rfl) rfl rfl (hb hby at_314) (pc' := 317) rfl ?_
                            intro T178 v178 L178 X178 hQ178
                            obtain ⟨rfl, Nq178, e178⟩ := hQ178
                            have N178 := Fr.app Nj294_49 Nq178
                            show Go p e below _ (T178.setTop (mkF m 317 _ [.int (own_f1_ret q3)]))
                            by_cases hc317_179 : (own_f1_ret q3) = (0 : Int32)
                            · refine o_ifN X178 hx (hb hby at_317) (teq hc317_179).2 (pc' := 320) rfl ?_
                              refine o_iconst X178 hx (1 : Int32) (hb hby at_320) (pc' := 321) rfl (by decide) ?_
                              refine o_goto X178 hx (hb hby at_321) (by decide) (pc' := 325) (by decide) ?_
                              exact J325_54 _ _ X178 e178 N178 ((1 : Int32)) (by rw [own_law_v325_50_S0, if_neg hc310_177, if_pos hc317_179])
                            · refine o_ifY X178 hx (hb hby at_317) (feq hc317_179).2 (by decide) (pc' := 324) (by decide) ?_
                              refine o_iconst X178 hx (0 : Int32) (hb hby at_324) (pc' := 325) rfl (by decide) ?_
                              exact J325_54 _ _ X178 e178 N178 ((0 : Int32)) (by rw [own_law_v325_50_S0, if_neg hc310_177, if_neg hc317_179])
                        · refine o_cmpY Xj294_49 hx (hb hby at_305) (flt hc305_176).2.2.2 (by decide) (pc' := 327) (by decide) ?_
                          exact J327_52 _ _ Xj294_49 ej294_49 Nj294_49 ((own_law_v294_49_S0 q0 q1 q2 q3)) (by rw [own_law_v327_52_L8, if_neg hc299_172, if_neg hc305_176])
                    by_cases hc278_171 : (own_law_x26 q0 q1 q2 q3) = (0 : Int32)
                    · refine o_ifY X170 hx (hb hby at_278) (teq hc278_171).1 (by decide) (pc' := 293) (by decide) ?_
                      refine o_iconst X170 hx (0 : Int32) (hb hby at_293) (pc' := 294) rfl (by decide) ?_
                      exact J294_49 _ _ X170 e170 N170 ((0 : Int32)) (by rw [own_law_v294_49_S0, if_pos hc278_171])
                    · refine o_ifN X170 hx (hb hby at_278) (feq hc278_171).1 (pc' := 281) rfl ?_
                      refine o_iload X170 hx (hb hby at_281) (pc' := 283) rfl rfl ?_
                      refine o_callS X170 hx hZ 0 (argsL := [.int (own_law_x27 q0 q1 q2 q3)]) (rest := []) hown (w 9 _ rfl) (w 10 _ rfl) (w 11 _ rfl) (w 12 _ rfl) (by decide) (rm1 l Z a0 hw [] (own_law_x27 q0 q1 q2 q3) h63 n0 Z63 ) (by decide) (by decide) (cells' := 2) rfl (slots' := 30) rfl (by decide) (by decide) e170 (by rw [hml]; rfl) (lenOf pd_0 rfl) rfl rfl (hb hby at_283) (pc' := 286) rfl ?_
                      intro T180 v180 L180 X180 hQ180
                      obtain ⟨rfl, Nq180, e180⟩ := hQ180
                      have N180 := Fr.app N170 Nq180
                      show Go p e below _ (T180.setTop (mkF m 286 _ [.int (own_f1_ret (own_law_x27 q0 q1 q2 q3))]))
                      by_cases hc286_181 : (own_f1_ret (own_law_x27 q0 q1 q2 q3)) = (0 : Int32)
                      · refine o_ifN X180 hx (hb hby at_286) (teq hc286_181).2 (pc' := 289) rfl ?_
                        refine o_iconst X180 hx (1 : Int32) (hb hby at_289) (pc' := 290) rfl (by decide) ?_
                        refine o_goto X180 hx (hb hby at_290) (by decide) (pc' := 294) (by decide) ?_
                        exact J294_49 _ _ X180 e180 N180 ((1 : Int32)) (by rw [own_law_v294_49_S0, if_neg hc278_171, if_pos hc286_181])
                      · refine o_ifY X180 hx (hb hby at_286) (feq hc286_181).2 (by decide) (pc' := 293) (by decide) ?_
                        refine o_iconst X180 hx (0 : Int32) (hb hby at_293) (pc' := 294) rfl (by decide) ?_
                        exact J294_49 _ _ X180 e180 N180 ((0 : Int32)) (by rw [own_law_v294_49_S0, if_neg hc278_171, if_neg hc286_181])
                  · by_cases hs182 : (own_law_x0 q0 q1 q2 q3) = (9 : Int32)
                    · rw [hs182]
                      refine o_aload X63 hx (hb hby at_206) (pc' := 208) rfl rfl rfl ?_
                      refine o_iload X63 hx (hb hby at_208) (pc' := 210) rfl rfl ?_
                      refine o_iaload X63 hx hZ (.int (8304 : Int32)) e63 V64_b1 (by decide) (by rfl) (hb hby at_210) (pc' := 211) rfl ?_
                      refine o_iloadN X63 hx (hb hby at_211) (pc' := 212) rfl rfl ?_
                      refine o_ldcI X63 hx hZ (2147483647 : Int32) hown (w 8 _ rfl) (hb hby at_212) (pc' := 214) rfl ?_
                      refine o_iand X63 hx (hb hby at_214) (pc' := 215) rfl ?_
                      refine o_aload X63 hx (hb hby at_215) (pc' := 217) rfl rfl rfl ?_
                      refine o_iload X63 hx (hb hby at_217) (pc' := 219) rfl rfl ?_
                      refine o_iaload X63 hx hZ (.int (8591 : Int32)) e63 V63_ (by decide) (by rfl) (hb hby at_219) (pc' := 220) rfl ?_
                      refine o_aload X63 hx (hb hby at_220) (pc' := 222) rfl rfl rfl ?_
                      refine o_iload X63 hx (hb hby at_222) (pc' := 224) rfl rfl ?_
                      refine o_iaload X63 hx hZ (.int (8304 : Int32)) e63 V64_b1 (by decide) (by rfl) (hb hby at_224) (pc' := 225) rfl ?_
                      refine o_isub X63 hx (hb hby at_225) (pc' := 226) rfl ?_
                      rw [show ((8591 : Int32) - (8304 : Int32)) = (287 : Int32) from by decide]
                      refine o_iconst X63 hx (1 : Int32) (hb hby at_226) (pc' := 227) rfl (by decide) ?_
                      refine o_iadd X63 hx (hb hby at_227) (pc' := 228) rfl ?_
                      rw [show ((287 : Int32) + (1 : Int32)) = (288 : Int32) from by decide]
                      refine o_irem X63 hx (hb hby at_228) (pc' := 229) rfl (by decide) ?_
                      refine o_iadd X63 hx (hb hby at_229) (pc' := 230) rfl ?_
                      refine o_istore (x := (own_law_x28 q0 q1 q2 q3)) X63 hx (hb hby at_230) (pc' := 232) rfl (L' := #[.val (.int q0), .val (.int q1), .val (.int q2), .val (.int q3), .val (.ref b1), .val (.ref b33), .val (.int (9 : Int32)), .val (.int (own_law_x28 q0 q1 q2 q3)), .unset, .unset]) rfl ?_
                      refine o_iload X63 hx (hb hby at_232) (pc' := 234) rfl rfl ?_
                      refine o_callS X63 hx hZ 0 (argsL := [.int (own_law_x28 q0 q1 q2 q3)]) (rest := []) hown (w 9 _ rfl) (w 10 _ rfl) (w 11 _ rfl) (w 12 _ rfl) (by decide) (rm1 l Z a0 hw [] (own_law_x28 q0 q1 q2 q3) h63 n0 Z63 ) (by decide) (by decide) (cells' := 2) rfl (slots' := 30) rfl (by decide) (by decide) e63 (by rw [hml]; rfl) (lenOf pd_0 rfl) rfl rfl (hb hby at_234) (pc' := 237) rfl ?_
                      intro T183 v183 L183 X183 hQ183
                      obtain ⟨rfl, Nq183, e183⟩ := hQ183
                      have N183 := Fr.app N63 Nq183
                      show Go p e below _ (T183.setTop (mkF m 237 _ [.int (own_f1_ret (own_law_x28 q0 q1 q2 q3))]))
                      refine o_istore (x := (own_law_x29 q0 q1 q2 q3)) X183 hx (hb hby at_237) (pc' := 239) rfl (L' := #[.val (.int q0), .val (.int q1), .val (.int q2), .val (.int q3), .val (.ref b1), .val (.ref b33), .val (.int (9 : Int32)), .val (.int (own_law_x28 q0 q1 q2 q3)), .val (.int (own_law_x29 q0 q1 q2 q3)), .unset]) rfl ?_
                      refine o_iload X183 hx (hb hby at_239) (pc' := 241) rfl rfl ?_
                      refine o_bipush X183 hx (14 : Int32) (hb hby at_241) (pc' := 243) rfl (by decide) ?_
                      refine o_cmpN X183 hx (hb hby at_243) (tlt (by decide : (9 : Int32) < (14 : Int32))).2.1 (pc' := 246) rfl ?_
                      refine o_aload X183 hx (hb hby at_246) (pc' := 248) rfl rfl rfl ?_
                      refine o_iload X183 hx (hb hby at_248) (pc' := 250) rfl rfl ?_
                      refine o_iaload X183 hx hZ (.int (8591 : Int32)) e183 V63_ (by decide) (by rfl) (hb hby at_250) (pc' := 251) rfl ?_
                      refine o_iconst X183 hx (1 : Int32) (hb hby at_251) (pc' := 252) rfl (by decide) ?_
                      refine o_iadd X183 hx (hb hby at_252) (pc' := 253) rfl ?_
                      rw [show ((8591 : Int32) + (1 : Int32)) = (8592 : Int32) from by decide]
                      refine o_iloadN X183 hx (hb hby at_253) (pc' := 254) rfl rfl ?_
                      refine o_ldcI X183 hx hZ (2147483647 : Int32) hown (w 8 _ rfl) (hb hby at_254) (pc' := 256) rfl ?_
                      refine o_iand X183 hx (hb hby at_256) (pc' := 257) rfl ?_
                      refine o_aload X183 hx (hb hby at_257) (pc' := 259) rfl rfl rfl ?_
                      refine o_iload X183 hx (hb hby at_259) (pc' := 261) rfl rfl ?_
                      refine o_iconst X183 hx (1 : Int32) (hb hby at_261) (pc' := 262) rfl (by decide) ?_
                      refine o_iadd X183 hx (hb hby at_262) (pc' := 263) rfl ?_
                      rw [show ((9 : Int32) + (1 : Int32)) = (10 : Int32) from by decide]
                      refine o_iaload X183 hx hZ (.int (11264 : Int32)) e183 V64_b1 (by decide) (by rfl) (hb hby at_263) (pc' := 264) rfl ?_
                      refine o_aload X183 hx (hb hby at_264) (pc' := 266) rfl rfl rfl ?_
                      refine o_iload X183 hx (hb hby at_266) (pc' := 268) rfl rfl ?_
                      refine o_iaload X183 hx hZ (.int (8591 : Int32)) e183 V63_ (by decide) (by rfl) (hb hby at_268) (pc' := 269) rfl ?_
                      refine o_isub X183 hx (hb hby at_269) (pc' := 270) rfl ?_
                      rw [show ((11264 : Int32) - (8591 : Int32)) = (2673 : Int32) from by decide]
                      refine o_iconst X183 hx (1 : Int32) (hb hby at_270) (pc' := 271) rfl (by decide) ?_
                      refine o_isub X183 hx (hb hby at_271) (pc' := 272) rfl ?_
                      rw [show ((2673 : Int32) - (1 : Int32)) = (2672 : Int32) from by decide]
                      refine o_irem X183 hx (hb hby at_272) (pc' := 273) rfl (by decide) ?_
                      refine o_iadd X183 hx (hb hby at_273) (pc' := 274) rfl ?_
                      refine o_istore (x := (own_law_x30 q0 q1 q2 q3)) X183 hx (hb hby at_274) (pc' := 276) rfl (L' := #[.val (.int q0), .val (.int q1), .val (.int q2), .val (.int q3), .val (.ref b1), .val (.ref b33), .val (.int (9 : Int32)), .val (.int (own_law_x28 q0 q1 q2 q3)), .val (.int (own_law_x29 q0 q1 q2 q3)), .val (.int (own_law_x30 q0 q1 q2 q3))]) rfl ?_
                      refine o_iload X183 hx (hb hby at_276) (pc' := 278) rfl rfl ?_
                      have J294_55 : ∀ (Tj294_55 : State) (lj294_55 : List Loc) (Xj294_55 : Stand p l e room_1 s m #[(.int q0), (.int q1), (.int q2), (.int q3)] below meth c Tj294_55 lj294_55 2 30) (ej294_55 : Tj294_55.heap = h63) (Nj294_55 : Fr n0 lj294_55) (z0 : Int32), z0 = (own_law_v294_55_S0 q0 q1 q2 q3) → Go p e below OWE (Tj294_55.setTop (mkF m 294 #[.val (.int q0), .val (.int q1), .val (.int q2), .val (.int q3), .val (.ref b1), .val (.ref b33), .val (.int (9 : Int32)), .val (.int (own_law_x28 q0 q1 q2 q3)), .val (.int (own_law_x29 q0 q1 q2 q3)), .val (.int (own_law_x30 q0 q1 q2 q3))] [.int z0])) := by
                        intro Tj294_55 lj294_55 Xj294_55 ej294_55 Nj294_55 z0 yy0
                        subst yy0
                        refine o_istore Xj294_55 hx (hb hby at_294) (pc' := 296) rfl (L' := #[.val (.int q0), .val (.int q1), .val (.int q2), .val (.int q3), .val (.ref b1), .val (.ref b33), .val (.int (9 : Int32)), .val (.int (own_law_x28 q0 q1 q2 q3)), .val (.int (own_law_v294_55_S0 q0 q1 q2 q3)), .val (.int (own_law_x30 q0 q1 q2 q3))]) rfl ?_
                        refine o_iloadN Xj294_55 hx (hb hby at_296) (pc' := 297) rfl rfl ?_
                        refine o_bipush Xj294_55 hx (65 : Int32) (hb hby at_297) (pc' := 299) rfl (by decide) ?_
                        have J327_58 : ∀ (Tj327_58 : State) (lj327_58 : List Loc) (Xj327_58 : Stand p l e room_1 s m #[(.int q0), (.int q1), (.int q2), (.int q3)] below meth c Tj327_58 lj327_58 2 30) (ej327_58 : Tj327_58.heap = h63) (Nj327_58 : Fr n0 lj327_58) (z0 : Int32), z0 = (own_law_v327_58_L8 q0 q1 q2 q3) → Go p e below OWE (Tj327_58.setTop (mkF m 327 #[.val (.int q0), .val (.int q1), .val (.int q2), .val (.int q3), .val (.ref b1), .val (.ref b33), .val (.int (9 : Int32)), .val (.int (own_law_x28 q0 q1 q2 q3)), .val (.int z0), .val (.int (own_law_x30 q0 q1 q2 q3))] [])) := by
                          intro Tj327_58 lj327_58 Xj327_58 ej327_58 Nj327_58 z0 yy0
                          subst yy0
                          refine o_iload Xj327_58 hx (hb hby at_327) (pc' := 329) rfl rfl ?_
                          rw [← hOWE]
                          exact o_retZ Xj327_58 hx (own_narZ (own_law_v327_58_L8_01 q0 q1 q2 q3)) hlk hrt (hb hby at_329) (by decide) (by decide) (by rw [ej327_58]; exact ⟨(by rw [own_law_ret, if_neg hs65, if_neg hs78, if_neg hs91, if_neg hs104, if_neg hs117, if_neg hs130, if_neg hs143, if_neg hs156, if_neg hs169, if_pos hs182, own_law_ret_j294_55, own_law_ret_j327_58]), Nj327_58⟩)
                        by_cases hc299_185 : q3 < (65 : Int32)
                        · refine o_cmpY Xj294_55 hx (hb hby at_299) (tlt hc299_185).1 (by decide) (pc' := 308) (by decide) ?_
                          refine o_iload Xj294_55 hx (hb hby at_308) (pc' := 310) rfl rfl ?_
                          have J325_59 : ∀ (Tj325_59 : State) (lj325_59 : List Loc) (Xj325_59 : Stand p l e room_1 s m #[(.int q0), (.int q1), (.int q2), (.int q3)] below meth c Tj325_59 lj325_59 2 30) (ej325_59 : Tj325_59.heap = h63) (Nj325_59 : Fr n0 lj325_59) (z0 : Int32), z0 = (own_law_v325_56_S0 q0 q1 q2 q3) → Go p e below OWE (Tj325_59.setTop (mkF m 325 #[.val (.int q0), .val (.int q1), .val (.int q2), .val (.int q3), .val (.ref b1), .val (.ref b33), .val (.int (9 : Int32)), .val (.int (own_law_x28 q0 q1 q2 q3)), .val (.int (own_law_v294_55_S0 q0 q1 q2 q3)), .val (.int (own_law_x30 q0 q1 q2 q3))] [.int z0])) := by
                            intro Tj325_59 lj325_59 Xj325_59 ej325_59 Nj325_59 z0 yy0
                            subst yy0
                            refine o_istore Xj325_59 hx (hb hby at_325) (pc' := 327) rfl (L' := #[.val (.int q0), .val (.int q1), .val (.int q2), .val (.int q3), .val (.ref b1), .val (.ref b33), .val (.int (9 : Int32)), .val (.int (own_law_x28 q0 q1 q2 q3)), .val (.int (own_law_v325_56_S0 q0 q1 q2 q3)), .val (.int (own_law_x30 q0 q1 q2 q3))]) rfl ?_
                            exact J327_58 _ _ Xj325_59 ej325_59 Nj325_59 ((own_law_v325_56_S0 q0 q1 q2 q3)) (by rw [own_law_v327_58_L8, if_pos hc299_185])
                          by_cases hc310_186 : (own_law_v294_55_S0 q0 q1 q2 q3) = (0 : Int32)
                          · refine o_ifY Xj294_55 hx (hb hby at_310) (teq hc310_186).1 (by decide) (pc' := 324) (by decide) ?_
                            refine o_iconst Xj294_55 hx (0 : Int32) (hb hby at_324) (pc' := 325) rfl (by decide) ?_
                            exact J325_59 _ _ Xj294_55 ej294_55 Nj294_55 ((0 : Int32)) (by rw [own_law_v325_56_S0, if_pos hc310_186])
                          · refine o_ifN Xj294_55 hx (hb hby at_310) (feq hc310_186).1 (pc' := 313) rfl ?_
                            refine o_iloadN Xj294_55 hx (hb hby at_313) (pc' := 314) rfl rfl ?_
                            refine o_callS Xj294_55 hx hZ 0 (argsL := [.int q3]) (rest := []) hown (w 9 _ rfl) (w 10 _ rfl) (w 11 _ rfl) (w 12 _ rfl) (by decide) (rm1 l Z a0 hw [] q3 h63 n0 Z63 ) (by decide) (by decide) (cells' := 2) rfl (slots' := 30) rfl (by decide) (by decide) ej294_55 (by rw [hml]; rfl) (lenOf pd_0 rfl) rfl rfl (hb hby at_314) (pc' := 317) rfl ?_
                            intro T187 v187 L187 X187 hQ187
                            obtain ⟨rfl, Nq187, e187⟩ := hQ187
                            have N187 := Fr.app Nj294_55 Nq187
                            show Go p e below _ (T187.setTop (mkF m 317 _ [.int (own_f1_ret q3)]))
                            by_cases hc317_188 : (own_f1_ret q3) = (0 : Int32)
                            · refine o_ifN X187 hx (hb hby at_317) (teq hc317_188).2 (pc' := 320) rfl ?_
                              refine o_iconst X187 hx (1 : Int32) (hb hby at_320) (pc' := 321) rfl (by decide) ?_
                              refine o_goto X187 hx (hb hby at_321) (by decide) (pc' := 325) (by decide) ?_
                              exact J325_59 _ _ X187 e187 N187 ((1 : Int32)) (by rw [own_law_v325_56_S0, if_neg hc310_186, if_pos hc317_188])
                            · refine o_ifY X187 hx (hb hby at_317) (feq hc317_188).2 (by decide) (pc' := 324) (by decide) ?_
                              refine o_iconst X187 hx (0 : Int32) (hb hby at_324) (pc' := 325) rfl (by decide) ?_
                              exact J325_59 _ _ X187 e187 N187 ((0 : Int32)) (by rw [own_law_v325_56_S0, if_neg hc310_186, if_neg hc317_188])
                        · refine o_cmpN Xj294_55 hx (hb hby at_299) (flt hc299_185).1 (pc' := 302) rfl ?_
                          refine o_iloadN Xj294_55 hx (hb hby at_302) (pc' := 303) rfl rfl ?_
                          refine o_ldcI Xj294_55 hx hZ (983039 : Int32) hown (w 7 _ rfl) (hb hby at_303) (pc' := 305) rfl ?_
                          by_cases hc305_189 : (983039 : Int32) < q3
                          · refine o_cmpN Xj294_55 hx (hb hby at_305) (tlt hc305_189).2.2.2 (pc' := 308) rfl ?_
                            refine o_iload Xj294_55 hx (hb hby at_308) (pc' := 310) rfl rfl ?_
                            have J325_60 : ∀ (Tj325_60 : State) (lj325_60 : List Loc) (Xj325_60 : Stand p l e room_1 s m #[(.int q0), (.int q1), (.int q2), (.int q3)] below meth c Tj325_60 lj325_60 2 30) (ej325_60 : Tj325_60.heap = h63) (Nj325_60 : Fr n0 lj325_60) (z0 : Int32), z0 = (own_law_v325_56_S0 q0 q1 q2 q3) → Go p e below OWE (Tj325_60.setTop (mkF m 325 #[.val (.int q0), .val (.int q1), .val (.int q2), .val (.int q3), .val (.ref b1), .val (.ref b33), .val (.int (9 : Int32)), .val (.int (own_law_x28 q0 q1 q2 q3)), .val (.int (own_law_v294_55_S0 q0 q1 q2 q3)), .val (.int (own_law_x30 q0 q1 q2 q3))] [.int z0])) := by
                              intro Tj325_60 lj325_60 Xj325_60 ej325_60 Nj325_60 z0 yy0
                              subst yy0
                              refine o_istore Xj325_60 hx (hb hby at_325) (pc' := 327) rfl (L' := #[.val (.int q0), .val (.int q1), .val (.int q2), .val (.int q3), .val (.ref b1), .val (.ref b33), .val (.int (9 : Int32)), .val (.int (own_law_x28 q0 q1 q2 q3)), .val (.int (own_law_v325_56_S0 q0 q1 q2 q3)), .val (.int (own_law_x30 q0 q1 q2 q3))]) rfl ?_
                              exact J327_58 _ _ Xj325_60 ej325_60 Nj325_60 ((own_law_v325_56_S0 q0 q1 q2 q3)) (by rw [own_law_v327_58_L8, if_neg hc299_185, if_pos hc305_189])
                            by_cases hc310_190 : (own_law_v294_55_S0 q0 q1 q2 q3) = (0 : Int32)
                            · refine o_ifY Xj294_55 hx (hb hby at_310) (teq hc310_190).1 (by decide) (pc' := 324) (by decide) ?_
                              refine o_iconst Xj294_55 hx (0 : Int32) (hb hby at_324) (pc' := 325) rfl (by decide) ?_
                              exact J325_60 _ _ Xj294_55 ej294_55 Nj294_55 ((0 : Int32)) (by rw [own_law_v325_56_S0, if_pos hc310_190])
                            · refine o_ifN Xj294_55 hx (hb hby at_310) (feq hc310_190).1 (pc' := 313) rfl ?_
                              refine o_iloadN Xj294_55 hx (hb hby at_313) (pc' := 314) rfl rfl ?_
                              refine o_callS Xj294_55 hx hZ 0 (argsL := [.int q3]) (rest := []) hown (w 9 _ rfl) (w 10 _ rfl) (w 11 _ rfl) (w 12 _ rfl) (by decide) (rm1 l Z a0 hw [] q3 h63 n0 Z63 ) (by decide) (by decide) (cells' := 2) rfl (slots' := 30) rfl (by decide) (by decide) ej294_55 (by rw [hml]; rfl) (lenOf pd_0 rfl) rfl rfl (hb hby at_314) (pc' := 317) rfl ?_
                              intro T191 v191 L191 X191 hQ191
                              obtain ⟨rfl, Nq191, e191⟩ := hQ191
                              have N191 := Fr.app Nj294_55 Nq191
                              show Go p e below _ (T191.setTop (mkF m 317 _ [.int (own_f1_ret q3)]))
                              by_cases hc317_192 : (own_f1_ret q3) = (0 : Int32)
                              · refine o_ifN X191 hx (hb hby at_317) (teq hc317_192).2 (pc' := 320) rfl ?_
                                refine o_iconst X191 hx (1 : Int32) (hb hby at_320) (pc' := 321) rfl (by decide) ?_
                                refine o_goto X191 hx (hb hby at_321) (by decide) (pc' := 325) (by decide) ?_
                                exact J325_60 _ _ X191 e191 N191 ((1 : Int32)) (by rw [own_law_v325_56_S0, if_neg hc310_190, if_pos hc317_192])
                              · refine o_ifY X191 hx (hb hby at_317) (feq hc317_192).2 (by decide) (pc' := 324) (by decide) ?_
                                refine o_iconst X191 hx (0 : Int32) (hb hby at_324) (pc' := 325) rfl (by decide) ?_
                                exact J325_60 _ _ X191 e191 N191 ((0 : Int32)) (by rw [own_law_v325_56_S0, if_neg hc310_190, if_neg hc317_192])
                          · refine o_cmpY Xj294_55 hx (hb hby at_305) (flt hc305_189).2.2.2 (by decide) (pc' := 327) (by decide) ?_
                            exact J327_58 _ _ Xj294_55 ej294_55 Nj294_55 ((own_law_v294_55_S0 q0 q1 q2 q3)) (by rw [own_law_v327_58_L8, if_neg hc299_185, if_neg hc305_189])
                      by_cases hc278_184 : (own_law_x29 q0 q1 q2 q3) = (0 : Int32)
                      · refine o_ifY X183 hx (hb hby at_278) (teq hc278_184).1 (by decide) (pc' := 293) (by decide) ?_
                        refine o_iconst X183 hx (0 : Int32) (hb hby at_293) (pc' := 294) rfl (by decide) ?_
                        exact J294_55 _ _ X183 e183 N183 ((0 : Int32)) (by rw [own_law_v294_55_S0, if_pos hc278_184])
                      · refine o_ifN X183 hx (hb hby at_278) (feq hc278_184).1 (pc' := 281) rfl ?_
                        refine o_iload X183 hx (hb hby at_281) (pc' := 283) rfl rfl ?_
                        refine o_callS X183 hx hZ 0 (argsL := [.int (own_law_x30 q0 q1 q2 q3)]) (rest := []) hown (w 9 _ rfl) (w 10 _ rfl) (w 11 _ rfl) (w 12 _ rfl) (by decide) (rm1 l Z a0 hw [] (own_law_x30 q0 q1 q2 q3) h63 n0 Z63 ) (by decide) (by decide) (cells' := 2) rfl (slots' := 30) rfl (by decide) (by decide) e183 (by rw [hml]; rfl) (lenOf pd_0 rfl) rfl rfl (hb hby at_283) (pc' := 286) rfl ?_
                        intro T193 v193 L193 X193 hQ193
                        obtain ⟨rfl, Nq193, e193⟩ := hQ193
                        have N193 := Fr.app N183 Nq193
                        show Go p e below _ (T193.setTop (mkF m 286 _ [.int (own_f1_ret (own_law_x30 q0 q1 q2 q3))]))
                        by_cases hc286_194 : (own_f1_ret (own_law_x30 q0 q1 q2 q3)) = (0 : Int32)
                        · refine o_ifN X193 hx (hb hby at_286) (teq hc286_194).2 (pc' := 289) rfl ?_
                          refine o_iconst X193 hx (1 : Int32) (hb hby at_289) (pc' := 290) rfl (by decide) ?_
                          refine o_goto X193 hx (hb hby at_290) (by decide) (pc' := 294) (by decide) ?_
                          exact J294_55 _ _ X193 e193 N193 ((1 : Int32)) (by rw [own_law_v294_55_S0, if_neg hc278_184, if_pos hc286_194])
                        · refine o_ifY X193 hx (hb hby at_286) (feq hc286_194).2 (by decide) (pc' := 293) (by decide) ?_
                          refine o_iconst X193 hx (0 : Int32) (hb hby at_293) (pc' := 294) rfl (by decide) ?_
                          exact J294_55 _ _ X193 e193 N193 ((0 : Int32)) (by rw [own_law_v294_55_S0, if_neg hc278_184, if_neg hc286_194])
                    · by_cases hs195 : (own_law_x0 q0 q1 q2 q3) = (10 : Int32)
                      · rw [hs195]
                        refine o_aload X63 hx (hb hby at_206) (pc' := 208) rfl rfl rfl ?_
                        refine o_iload X63 hx (hb hby at_208) (pc' := 210) rfl rfl ?_
                        refine o_iaload X63 hx hZ (.int (11264 : Int32)) e63 V64_b1 (by decide) (by rfl) (hb hby at_210) (pc' := 211) rfl ?_
                        refine o_iloadN X63 hx (hb hby at_211) (pc' := 212) rfl rfl ?_
                        refine o_ldcI X63 hx hZ (2147483647 : Int32) hown (w 8 _ rfl) (hb hby at_212) (pc' := 214) rfl ?_
                        refine o_iand X63 hx (hb hby at_214) (pc' := 215) rfl ?_
                        refine o_aload X63 hx (hb hby at_215) (pc' := 217) rfl rfl rfl ?_
                        refine o_iload X63 hx (hb hby at_217) (pc' := 219) rfl rfl ?_
                        refine o_iaload X63 hx hZ (.int (12271 : Int32)) e63 V63_ (by decide) (by rfl) (hb hby at_219) (pc' := 220) rfl ?_
                        refine o_aload X63 hx (hb hby at_220) (pc' := 222) rfl rfl rfl ?_
                        refine o_iload X63 hx (hb hby at_222) (pc' := 224) rfl rfl ?_
                        refine o_iaload X63 hx hZ (.int (11264 : Int32)) e63 V64_b1 (by decide) (by rfl) (hb hby at_224) (pc' := 225) rfl ?_
                        refine o_isub X63 hx (hb hby at_225) (pc' := 226) rfl ?_
                        rw [show ((12271 : Int32) - (11264 : Int32)) = (1007 : Int32) from by decide]
                        refine o_iconst X63 hx (1 : Int32) (hb hby at_226) (pc' := 227) rfl (by decide) ?_
                        refine o_iadd X63 hx (hb hby at_227) (pc' := 228) rfl ?_
                        rw [show ((1007 : Int32) + (1 : Int32)) = (1008 : Int32) from by decide]
                        refine o_irem X63 hx (hb hby at_228) (pc' := 229) rfl (by decide) ?_
                        refine o_iadd X63 hx (hb hby at_229) (pc' := 230) rfl ?_
                        refine o_istore (x := (own_law_x31 q0 q1 q2 q3)) X63 hx (hb hby at_230) (pc' := 232) rfl (L' := #[.val (.int q0), .val (.int q1), .val (.int q2), .val (.int q3), .val (.ref b1), .val (.ref b33), .val (.int (10 : Int32)), .val (.int (own_law_x31 q0 q1 q2 q3)), .unset, .unset]) rfl ?_
                        refine o_iload X63 hx (hb hby at_232) (pc' := 234) rfl rfl ?_
                        refine o_callS X63 hx hZ 0 (argsL := [.int (own_law_x31 q0 q1 q2 q3)]) (rest := []) hown (w 9 _ rfl) (w 10 _ rfl) (w 11 _ rfl) (w 12 _ rfl) (by decide) (rm1 l Z a0 hw [] (own_law_x31 q0 q1 q2 q3) h63 n0 Z63 ) (by decide) (by decide) (cells' := 2) rfl (slots' := 30) rfl (by decide) (by decide) e63 (by rw [hml]; rfl) (lenOf pd_0 rfl) rfl rfl (hb hby at_234) (pc' := 237) rfl ?_
                        intro T196 v196 L196 X196 hQ196
                        obtain ⟨rfl, Nq196, e196⟩ := hQ196
                        have N196 := Fr.app N63 Nq196
                        show Go p e below _ (T196.setTop (mkF m 237 _ [.int (own_f1_ret (own_law_x31 q0 q1 q2 q3))]))
                        refine o_istore (x := (own_law_x32 q0 q1 q2 q3)) X196 hx (hb hby at_237) (pc' := 239) rfl (L' := #[.val (.int q0), .val (.int q1), .val (.int q2), .val (.int q3), .val (.ref b1), .val (.ref b33), .val (.int (10 : Int32)), .val (.int (own_law_x31 q0 q1 q2 q3)), .val (.int (own_law_x32 q0 q1 q2 q3)), .unset]) rfl ?_
                        refine o_iload X196 hx (hb hby at_239) (pc' := 241) rfl rfl ?_
                        refine o_bipush X196 hx (14 : Int32) (hb hby at_241) (pc' := 243) rfl (by decide) ?_
                        refine o_cmpN X196 hx (hb hby at_243) (tlt (by decide : (10 : Int32) < (14 : Int32))).2.1 (pc' := 246) rfl ?_
                        refine o_aload X196 hx (hb hby at_246) (pc' := 248) rfl rfl rfl ?_
                        refine o_iload X196 hx (hb hby at_248) (pc' := 250) rfl rfl ?_
                        refine o_iaload X196 hx hZ (.int (12271 : Int32)) e196 V63_ (by decide) (by rfl) (hb hby at_250) (pc' := 251) rfl ?_
                        refine o_iconst X196 hx (1 : Int32) (hb hby at_251) (pc' := 252) rfl (by decide) ?_
                        refine o_iadd X196 hx (hb hby at_252) (pc' := 253) rfl ?_
                        rw [show ((12271 : Int32) + (1 : Int32)) = (12272 : Int32) from by decide]
                        refine o_iloadN X196 hx (hb hby at_253) (pc' := 254) rfl rfl ?_
                        refine o_ldcI X196 hx hZ (2147483647 : Int32) hown (w 8 _ rfl) (hb hby at_254) (pc' := 256) rfl ?_
                        refine o_iand X196 hx (hb hby at_256) (pc' := 257) rfl ?_
                        refine o_aload X196 hx (hb hby at_257) (pc' := 259) rfl rfl rfl ?_
                        refine o_iload X196 hx (hb hby at_259) (pc' := 261) rfl rfl ?_
                        refine o_iconst X196 hx (1 : Int32) (hb hby at_261) (pc' := 262) rfl (by decide) ?_
                        refine o_iadd X196 hx (hb hby at_262) (pc' := 263) rfl ?_
                        rw [show ((10 : Int32) + (1 : Int32)) = (11 : Int32) from by decide]
                        refine o_iaload X196 hx hZ (.int (12289 : Int32)) e196 V64_b1 (by decide) (by rfl) (hb hby at_263) (pc' := 264) rfl ?_
                        refine o_aload X196 hx (hb hby at_264) (pc' := 266) rfl rfl rfl ?_
                        refine o_iload X196 hx (hb hby at_266) (pc' := 268) rfl rfl ?_
                        refine o_iaload X196 hx hZ (.int (12271 : Int32)) e196 V63_ (by decide) (by rfl) (hb hby at_268) (pc' := 269) rfl ?_
                        refine o_isub X196 hx (hb hby at_269) (pc' := 270) rfl ?_
                        rw [show ((12289 : Int32) - (12271 : Int32)) = (18 : Int32) from by decide]
                        refine o_iconst X196 hx (1 : Int32) (hb hby at_270) (pc' := 271) rfl (by decide) ?_
                        refine o_isub X196 hx (hb hby at_271) (pc' := 272) rfl ?_
                        rw [show ((18 : Int32) - (1 : Int32)) = (17 : Int32) from by decide]
                        refine o_irem X196 hx (hb hby at_272) (pc' := 273) rfl (by decide) ?_
                        refine o_iadd X196 hx (hb hby at_273) (pc' := 274) rfl ?_
                        refine o_istore (x := (own_law_x33 q0 q1 q2 q3)) X196 hx (hb hby at_274) (pc' := 276) rfl (L' := #[.val (.int q0), .val (.int q1), .val (.int q2), .val (.int q3), .val (.ref b1), .val (.ref b33), .val (.int (10 : Int32)), .val (.int (own_law_x31 q0 q1 q2 q3)), .val (.int (own_law_x32 q0 q1 q2 q3)), .val (.int (own_law_x33 q0 q1 q2 q3))]) rfl ?_
                        refine o_iload X196 hx (hb hby at_276) (pc' := 278) rfl rfl ?_
                        have J294_61 : ∀ (Tj294_61 : State) (lj294_61 : List Loc) (Xj294_61 : Stand p l e room_1 s m #[(.int q0), (.int q1), (.int q2), (.int q3)] below meth c Tj294_61 lj294_61 2 30) (ej294_61 : Tj294_61.heap = h63) (Nj294_61 : Fr n0 lj294_61) (z0 : Int32), z0 = (own_law_v294_61_S0 q0 q1 q2 q3) → Go p e below OWE (Tj294_61.setTop (mkF m 294 #[.val (.int q0), .val (.int q1), .val (.int q2), .val (.int q3), .val (.ref b1), .val (.ref b33), .val (.int (10 : Int32)), .val (.int (own_law_x31 q0 q1 q2 q3)), .val (.int (own_law_x32 q0 q1 q2 q3)), .val (.int (own_law_x33 q0 q1 q2 q3))] [.int z0])) := by
                          intro Tj294_61 lj294_61 Xj294_61 ej294_61 Nj294_61 z0 yy0
                          subst yy0
                          refine o_istore Xj294_61 hx (hb hby at_294) (pc' := 296) rfl (L' := #[.val (.int q0), .val (.int q1), .val (.int q2), .val (.int q3), .val (.ref b1), .val (.ref b33), .val (.int (10 : Int32)), .val (.int (own_law_x31 q0 q1 q2 q3)), .val (.int (own_law_v294_61_S0 q0 q1 q2 q3)), .val (.int (own_law_x33 q0 q1 q2 q3))]) rfl ?_
                          refine o_iloadN Xj294_61 hx (hb hby at_296) (pc' := 297) rfl rfl ?_
                          refine o_bipush Xj294_61 hx (65 : Int32) (hb hby at_297) (pc' := 299) rfl (by decide) ?_
                          have J327_64 : ∀ (Tj327_64 : State) (lj327_64 : List Loc) (Xj327_64 : Stand p l e room_1 s m #[(.int q0), (.int q1), (.int q2), (.int q3)] below meth c Tj327_64 lj327_64 2 30) (ej327_64 : Tj327_64.heap = h63) (Nj327_64 : Fr n0 lj327_64) (z0 : Int32), z0 = (own_law_v327_64_L8 q0 q1 q2 q3) → Go p e below OWE (Tj327_64.setTop (mkF m 327 #[.val (.int q0), .val (.int q1), .val (.int q2), .val (.int q3), .val (.ref b1), .val (.ref b33), .val (.int (10 : Int32)), .val (.int (own_law_x31 q0 q1 q2 q3)), .val (.int z0), .val (.int (own_law_x33 q0 q1 q2 q3))] [])) := by
                            intro Tj327_64 lj327_64 Xj327_64 ej327_64 Nj327_64 z0 yy0
                            subst yy0
                            refine o_iload Xj327_64 hx (hb hby at_327) (pc' := 329) rfl rfl ?_
                            rw [← hOWE]
                            exact o_retZ Xj327_64 hx (own_narZ (own_law_v327_64_L8_01 q0 q1 q2 q3)) hlk hrt (hb hby at_329) (by decide) (by decide) (by rw [ej327_64]; exact ⟨(by rw [own_law_ret, if_neg hs65, if_neg hs78, if_neg hs91, if_neg hs104, if_neg hs117, if_neg hs130, if_neg hs143, if_neg hs156, if_neg hs169, if_neg hs182, if_pos hs195, own_law_ret_j294_61, own_law_ret_j327_64]), Nj327_64⟩)
                          by_cases hc299_198 : q3 < (65 : Int32)
                          · refine o_cmpY Xj294_61 hx (hb hby at_299) (tlt hc299_198).1 (by decide) (pc' := 308) (by decide) ?_
                            refine o_iload Xj294_61 hx (hb hby at_308) (pc' := 310) rfl rfl ?_
                            have J325_65 : ∀ (Tj325_65 : State) (lj325_65 : List Loc) (Xj325_65 : Stand p l e room_1 s m #[(.int q0), (.int q1), (.int q2), (.int q3)] below meth c Tj325_65 lj325_65 2 30) (ej325_65 : Tj325_65.heap = h63) (Nj325_65 : Fr n0 lj325_65) (z0 : Int32), z0 = (own_law_v325_62_S0 q0 q1 q2 q3) → Go p e below OWE (Tj325_65.setTop (mkF m 325 #[.val (.int q0), .val (.int q1), .val (.int q2), .val (.int q3), .val (.ref b1), .val (.ref b33), .val (.int (10 : Int32)), .val (.int (own_law_x31 q0 q1 q2 q3)), .val (.int (own_law_v294_61_S0 q0 q1 q2 q3)), .val (.int (own_law_x33 q0 q1 q2 q3))] [.int z0])) := by
                              intro Tj325_65 lj325_65 Xj325_65 ej325_65 Nj325_65 z0 yy0
                              subst yy0
                              refine o_istore Xj325_65 hx (hb hby at_325) (pc' := 327) rfl (L' := #[.val (.int q0), .val (.int q1), .val (.int q2), .val (.int q3), .val (.ref b1), .val (.ref b33), .val (.int (10 : Int32)), .val (.int (own_law_x31 q0 q1 q2 q3)), .val (.int (own_law_v325_62_S0 q0 q1 q2 q3)), .val (.int (own_law_x33 q0 q1 q2 q3))]) rfl ?_
                              exact J327_64 _ _ Xj325_65 ej325_65 Nj325_65 ((own_law_v325_62_S0 q0 q1 q2 q3)) (by rw [own_law_v327_64_L8, if_pos hc299_198])
                            by_cases hc310_199 : (own_law_v294_61_S0 q0 q1 q2 q3) = (0 : Int32)
                            · refine o_ifY Xj294_61 hx (hb hby at_310) (teq hc310_199).1 (by decide) (pc' := 324) (by decide) ?_
                              refine o_iconst Xj294_61 hx (0 : Int32) (hb hby at_324) (pc' := 325) rfl (by decide) ?_
                              exact J325_65 _ _ Xj294_61 ej294_61 Nj294_61 ((0 : Int32)) (by rw [own_law_v325_62_S0, if_pos hc310_199])
                            · refine o_ifN Xj294_61 hx (hb hby at_310) (feq hc310_199).1 (pc' := 313) rfl ?_
                              refine o_iloadN Xj294_61 hx (hb hby at_313) (pc' := 314) rfl rfl ?_
                              refine o_callS Xj294_61 hx hZ 0 (argsL := [.int q3]) (rest := []) hown (w 9 _ rfl) (w 10 _ rfl) (w 11 _ rfl) (w 12 _ rfl) (by decide) (rm1 l Z a0 hw [] q3 h63 n0 Z63 ) (by decide) (by decide) (cells' := 2) rfl (slots' := 30) rfl (by decide) (by decide) ej294_61 (by rw [hml]; rfl) (lenOf pd_0 rfl) rfl rfl (hb hby at_314) (pc' := 317) rfl ?_
                              intro T200 v200 L200 X200 hQ200
                              obtain ⟨rfl, Nq200, e200⟩ := hQ200
                              have N200 := Fr.app Nj294_61 Nq200
                              show Go p e below _ (T200.setTop (mkF m 317 _ [.int (own_f1_ret q3)]))
                              by_cases hc317_201 : (own_f1_ret q3) = (0 : Int32)
                              · refine o_ifN X200 hx (hb hby at_317) (teq hc317_201).2 (pc' := 320) rfl ?_
                                refine o_iconst X200 hx (1 : Int32) (hb hby at_320) (pc' := 321) rfl (by decide) ?_
                                refine o_goto X200 hx (hb hby at_321) (by decide) (pc' := 325) (by decide) ?_
                                exact J325_65 _ _ X200 e200 N200 ((1 : Int32)) (by rw [own_law_v325_62_S0, if_neg hc310_199, if_pos hc317_201])
                              · refine o_ifY X200 hx (hb hby at_317) (feq hc317_201).2 (by decide) (pc' := 324) (by decide) ?_
                                refine o_iconst X200 hx (0 : Int32) (hb hby at_324) (pc' := 325) rfl (by decide) ?_
                                exact J325_65 _ _ X200 e200 N200 ((0 : Int32)) (by rw [own_law_v325_62_S0, if_neg hc310_199, if_neg hc317_201])
                          · refine o_cmpN Xj294_61 hx (hb hby at_299) (flt hc299_198).1 (pc' := 302) rfl ?_
                            refine o_iloadN Xj294_61 hx (hb hby at_302) (pc' := 303) rfl rfl ?_
                            refine o_ldcI Xj294_61 hx hZ (983039 : Int32) hown (w 7 _ rfl) (hb hby at_303) (pc' := 305) rfl ?_
                            by_cases hc305_202 : (983039 : Int32) < q3
                            · refine o_cmpN Xj294_61 hx (hb hby at_305) (tlt hc305_202).2.2.2 (pc' := 308) rfl ?_
                              refine o_iload Xj294_61 hx (hb hby at_308) (pc' := 310) rfl rfl ?_
                              have J325_66 : ∀ (Tj325_66 : State) (lj325_66 : List Loc) (Xj325_66 : Stand p l e room_1 s m #[(.int q0), (.int q1), (.int q2), (.int q3)] below meth c Tj325_66 lj325_66 2 30) (ej325_66 : Tj325_66.heap = h63) (Nj325_66 : Fr n0 lj325_66) (z0 : Int32), z0 = (own_law_v325_62_S0 q0 q1 q2 q3) → Go p e below OWE (Tj325_66.setTop (mkF m 325 #[.val (.int q0), .val (.int q1), .val (.int q2), .val (.int q3), .val (.ref b1), .val (.ref b33), .val (.int (10 : Int32)), .val (.int (own_law_x31 q0 q1 q2 q3)), .val (.int (own_law_v294_61_S0 q0 q1 q2 q3)), .val (.int (own_law_x33 q0 q1 q2 q3))] [.int z0])) := by
                                intro Tj325_66 lj325_66 Xj325_66 ej325_66 Nj325_66 z0 yy0
                                subst yy0
                                refine o_istore Xj325_66 hx (hb hby at_325) (pc' := 327) rfl (L' := #[.val (.int q0), .val (.int q1), .val (.int q2), .val (.int q3), .val (.ref b1), .val (.ref b33), .val (.int (10 : Int32)), .val (.int (own_law_x31 q0 q1 q2 q3)), .val (.int (own_law_v325_62_S0 q0 q1 q2 q3)), .val (.int (own_law_x33 q0 q1 q2 q3))]) rfl ?_
                                exact J327_64 _ _ Xj325_66 ej325_66 Nj325_66 ((own_law_v325_62_S0 q0 q1 q2 q3)) (by rw [own_law_v327_64_L8, if_neg hc299_198, if_pos hc305_202])
                              by_cases hc310_203 : (own_law_v294_61_S0 q0 q1 q2 q3) = (0 : Int32)
                              · refine o_ifY Xj294_61 hx (hb hby at_310) (teq hc310_203).1 (by decide) (pc' := 324) (by decide) ?_
                                refine o_iconst Xj294_61 hx (0 : Int32) (hb hby at_324) (pc' := 325) rfl (by decide) ?_
                                exact J325_66 _ _ Xj294_61 ej294_61 Nj294_61 ((0 : Int32)) (by rw [own_law_v325_62_S0, if_pos hc310_203])
                              · refine o_ifN Xj294_61 hx (hb hby at_310) (feq hc310_203).1 (pc' := 313) rfl ?_
                                refine o_iloadN Xj294_61 hx (hb hby at_313) (pc' := 314) rfl rfl ?_
                                refine o_callS Xj294_61 hx hZ 0 (argsL := [.int q3]) (rest := []) hown (w 9 _ rfl) (w 10 _ rfl) (w 11 _ rfl) (w 12 _ rfl) (by decide) (rm1 l Z a0 hw [] q3 h63 n0 Z63 ) (by decide) (by decide) (cells' := 2) rfl (slots' := 30) rfl (by decide) (by decide) ej294_61 (by rw [hml]; rfl) (lenOf pd_0 rfl) rfl rfl (hb hby at_314) (pc' := 317) rfl ?_
                                intro T204 v204 L204 X204 hQ204
                                obtain ⟨rfl, Nq204, e204⟩ := hQ204
                                have N204 := Fr.app Nj294_61 Nq204
                                show Go p e below _ (T204.setTop (mkF m 317 _ [.int (own_f1_ret q3)]))
                                by_cases hc317_205 : (own_f1_ret q3) = (0 : Int32)
                                · refine o_ifN X204 hx (hb hby at_317) (teq hc317_205).2 (pc' := 320) rfl ?_
                                  refine o_iconst X204 hx (1 : Int32) (hb hby at_320) (pc' := 321) rfl (by decide) ?_
                                  refine o_goto X204 hx (hb hby at_321) (by decide) (pc' := 325) (by decide) ?_
                                  exact J325_66 _ _ X204 e204 N204 ((1 : Int32)) (by rw [own_law_v325_62_S0, if_neg hc310_203, if_pos hc317_205])
                                · refine o_ifY X204 hx (hb hby at_317) (feq hc317_205).2 (by decide) (pc' := 324) (by decide) ?_
                                  refine o_iconst X204 hx (0 : Int32) (hb hby at_324) (pc' := 325) rfl (by decide) ?_
                                  exact J325_66 _ _ X204 e204 N204 ((0 : Int32)) (by rw [own_law_v325_62_S0, if_neg hc310_203, if_neg hc317_205])
                            · refine o_cmpY Xj294_61 hx (hb hby at_305) (flt hc305_202).2.2.2 (by decide) (pc' := 327) (by decide) ?_
                              exact J327_64 _ _ Xj294_61 ej294_61 Nj294_61 ((own_law_v294_61_S0 q0 q1 q2 q3)) (by rw [own_law_v327_64_L8, if_neg hc299_198, if_neg hc305_202])
                        by_cases hc278_197 : (own_law_x32 q0 q1 q2 q3) = (0 : Int32)
                        · refine o_ifY X196 hx (hb hby at_278) (teq hc278_197).1 (by decide) (pc' := 293) (by decide) ?_
                          refine o_iconst X196 hx (0 : Int32) (hb hby at_293) (pc' := 294) rfl (by decide) ?_
                          exact J294_61 _ _ X196 e196 N196 ((0 : Int32)) (by rw [own_law_v294_61_S0, if_pos hc278_197])
                        · refine o_ifN X196 hx (hb hby at_278) (feq hc278_197).1 (pc' := 281) rfl ?_
                          refine o_iload X196 hx (hb hby at_281) (pc' := 283) rfl rfl ?_
                          refine o_callS X196 hx hZ 0 (argsL := [.int (own_law_x33 q0 q1 q2 q3)]) (rest := []) hown (w 9 _ rfl) (w 10 _ rfl) (w 11 _ rfl) (w 12 _ rfl) (by decide) (rm1 l Z a0 hw [] (own_law_x33 q0 q1 q2 q3) h63 n0 Z63 ) (by decide) (by decide) (cells' := 2) rfl (slots' := 30) rfl (by decide) (by decide) e196 (by rw [hml]; rfl) (lenOf pd_0 rfl) rfl rfl (hb hby at_283) (pc' := 286) rfl ?_
                          intro T206 v206 L206 X206 hQ206
                          obtain ⟨rfl, Nq206, e206⟩ := hQ206
                          have N206 := Fr.app N196 Nq206
                          show Go p e below _ (T206.setTop (mkF m 286 _ [.int (own_f1_ret (own_law_x33 q0 q1 q2 q3))]))
                          by_cases hc286_207 : (own_f1_ret (own_law_x33 q0 q1 q2 q3)) = (0 : Int32)
                          · refine o_ifN X206 hx (hb hby at_286) (teq hc286_207).2 (pc' := 289) rfl ?_
                            refine o_iconst X206 hx (1 : Int32) (hb hby at_289) (pc' := 290) rfl (by decide) ?_
                            refine o_goto X206 hx (hb hby at_290) (by decide) (pc' := 294) (by decide) ?_
                            exact J294_61 _ _ X206 e206 N206 ((1 : Int32)) (by rw [own_law_v294_61_S0, if_neg hc278_197, if_pos hc286_207])
                          · refine o_ifY X206 hx (hb hby at_286) (feq hc286_207).2 (by decide) (pc' := 293) (by decide) ?_
                            refine o_iconst X206 hx (0 : Int32) (hb hby at_293) (pc' := 294) rfl (by decide) ?_
                            exact J294_61 _ _ X206 e206 N206 ((0 : Int32)) (by rw [own_law_v294_61_S0, if_neg hc278_197, if_neg hc286_207])
                      · by_cases hs208 : (own_law_x0 q0 q1 q2 q3) = (11 : Int32)
                        · rw [hs208]
                          refine o_aload X63 hx (hb hby at_206) (pc' := 208) rfl rfl rfl ?_
                          refine o_iload X63 hx (hb hby at_208) (pc' := 210) rfl rfl ?_
                          refine o_iaload X63 hx hZ (.int (12289 : Int32)) e63 V64_b1 (by decide) (by rfl) (hb hby at_210) (pc' := 211) rfl ?_
                          refine o_iloadN X63 hx (hb hby at_211) (pc' := 212) rfl rfl ?_
                          refine o_ldcI X63 hx hZ (2147483647 : Int32) hown (w 8 _ rfl) (hb hby at_212) (pc' := 214) rfl ?_
                          refine o_iand X63 hx (hb hby at_214) (pc' := 215) rfl ?_
                          refine o_aload X63 hx (hb hby at_215) (pc' := 217) rfl rfl rfl ?_
                          refine o_iload X63 hx (hb hby at_217) (pc' := 219) rfl rfl ?_
                          refine o_iaload X63 hx hZ (.int (55295 : Int32)) e63 V63_ (by decide) (by rfl) (hb hby at_219) (pc' := 220) rfl ?_
                          refine o_aload X63 hx (hb hby at_220) (pc' := 222) rfl rfl rfl ?_
                          refine o_iload X63 hx (hb hby at_222) (pc' := 224) rfl rfl ?_
                          refine o_iaload X63 hx hZ (.int (12289 : Int32)) e63 V64_b1 (by decide) (by rfl) (hb hby at_224) (pc' := 225) rfl ?_
                          refine o_isub X63 hx (hb hby at_225) (pc' := 226) rfl ?_
                          rw [show ((55295 : Int32) - (12289 : Int32)) = (43006 : Int32) from by decide]
                          refine o_iconst X63 hx (1 : Int32) (hb hby at_226) (pc' := 227) rfl (by decide) ?_
                          refine o_iadd X63 hx (hb hby at_227) (pc' := 228) rfl ?_
                          rw [show ((43006 : Int32) + (1 : Int32)) = (43007 : Int32) from by decide]
                          refine o_irem X63 hx (hb hby at_228) (pc' := 229) rfl (by decide) ?_
                          refine o_iadd X63 hx (hb hby at_229) (pc' := 230) rfl ?_
                          refine o_istore (x := (own_law_x34 q0 q1 q2 q3)) X63 hx (hb hby at_230) (pc' := 232) rfl (L' := #[.val (.int q0), .val (.int q1), .val (.int q2), .val (.int q3), .val (.ref b1), .val (.ref b33), .val (.int (11 : Int32)), .val (.int (own_law_x34 q0 q1 q2 q3)), .unset, .unset]) rfl ?_
                          refine o_iload X63 hx (hb hby at_232) (pc' := 234) rfl rfl ?_
                          refine o_callS X63 hx hZ 0 (argsL := [.int (own_law_x34 q0 q1 q2 q3)]) (rest := []) hown (w 9 _ rfl) (w 10 _ rfl) (w 11 _ rfl) (w 12 _ rfl) (by decide) (rm1 l Z a0 hw [] (own_law_x34 q0 q1 q2 q3) h63 n0 Z63 ) (by decide) (by decide) (cells' := 2) rfl (slots' := 30) rfl (by decide) (by decide) e63 (by rw [hml]; rfl) (lenOf pd_0 rfl) rfl rfl (hb hby at_234) (pc' := 237) rfl ?_
                          intro T209 v209 L209 X209 hQ209
                          obtain ⟨rfl, Nq209, e209⟩ := hQ209
                          have N209 := Fr.app N63 Nq209
                          show Go p e below _ (T209.setTop (mkF m 237 _ [.int (own_f1_ret (own_law_x34 q0 q1 q2 q3))]))
                          refine o_istore (x := (own_law_x35 q0 q1 q2 q3)) X209 hx (hb hby at_237) (pc' := 239) rfl (L' := #[.val (.int q0), .val (.int q1), .val (.int q2), .val (.int q3), .val (.ref b1), .val (.ref b33), .val (.int (11 : Int32)), .val (.int (own_law_x34 q0 q1 q2 q3)), .val (.int (own_law_x35 q0 q1 q2 q3)), .unset]) rfl ?_
                          refine o_iload X209 hx (hb hby at_239) (pc' := 241) rfl rfl ?_
                          refine o_bipush X209 hx (14 : Int32) (hb hby at_241) (pc' := 243) rfl (by decide) ?_
                          refine o_cmpN X209 hx (hb hby at_243) (tlt (by decide : (11 : Int32) < (14 : Int32))).2.1 (pc' := 246) rfl ?_
                          refine o_aload X209 hx (hb hby at_246) (pc' := 248) rfl rfl rfl ?_
                          refine o_iload X209 hx (hb hby at_248) (pc' := 250) rfl rfl ?_
                          refine o_iaload X209 hx hZ (.int (55295 : Int32)) e209 V63_ (by decide) (by rfl) (hb hby at_250) (pc' := 251) rfl ?_
                          refine o_iconst X209 hx (1 : Int32) (hb hby at_251) (pc' := 252) rfl (by decide) ?_
                          refine o_iadd X209 hx (hb hby at_252) (pc' := 253) rfl ?_
                          rw [show ((55295 : Int32) + (1 : Int32)) = (55296 : Int32) from by decide]
                          refine o_iloadN X209 hx (hb hby at_253) (pc' := 254) rfl rfl ?_
                          refine o_ldcI X209 hx hZ (2147483647 : Int32) hown (w 8 _ rfl) (hb hby at_254) (pc' := 256) rfl ?_
                          refine o_iand X209 hx (hb hby at_256) (pc' := 257) rfl ?_
                          refine o_aload X209 hx (hb hby at_257) (pc' := 259) rfl rfl rfl ?_
                          refine o_iload X209 hx (hb hby at_259) (pc' := 261) rfl rfl ?_
                          refine o_iconst X209 hx (1 : Int32) (hb hby at_261) (pc' := 262) rfl (by decide) ?_
                          refine o_iadd X209 hx (hb hby at_262) (pc' := 263) rfl ?_
                          rw [show ((11 : Int32) + (1 : Int32)) = (12 : Int32) from by decide]
                          refine o_iaload X209 hx hZ (.int (63744 : Int32)) e209 V64_b1 (by decide) (by rfl) (hb hby at_263) (pc' := 264) rfl ?_
                          refine o_aload X209 hx (hb hby at_264) (pc' := 266) rfl rfl rfl ?_
                          refine o_iload X209 hx (hb hby at_266) (pc' := 268) rfl rfl ?_
                          refine o_iaload X209 hx hZ (.int (55295 : Int32)) e209 V63_ (by decide) (by rfl) (hb hby at_268) (pc' := 269) rfl ?_
                          refine o_isub X209 hx (hb hby at_269) (pc' := 270) rfl ?_
                          rw [show ((63744 : Int32) - (55295 : Int32)) = (8449 : Int32) from by decide]
                          refine o_iconst X209 hx (1 : Int32) (hb hby at_270) (pc' := 271) rfl (by decide) ?_
                          refine o_isub X209 hx (hb hby at_271) (pc' := 272) rfl ?_
                          rw [show ((8449 : Int32) - (1 : Int32)) = (8448 : Int32) from by decide]
                          refine o_irem X209 hx (hb hby at_272) (pc' := 273) rfl (by decide) ?_
                          refine o_iadd X209 hx (hb hby at_273) (pc' := 274) rfl ?_
                          refine o_istore (x := (own_law_x36 q0 q1 q2 q3)) X209 hx (hb hby at_274) (pc' := 276) rfl (L' := #[.val (.int q0), .val (.int q1), .val (.int q2), .val (.int q3), .val (.ref b1), .val (.ref b33), .val (.int (11 : Int32)), .val (.int (own_law_x34 q0 q1 q2 q3)), .val (.int (own_law_x35 q0 q1 q2 q3)), .val (.int (own_law_x36 q0 q1 q2 q3))]) rfl ?_
                          refine o_iload X209 hx (hb hby at_276) (pc' := 278) rfl rfl ?_
                          have J294_67 : ∀ (Tj294_67 : State) (lj294_67 : List Loc) (Xj294_67 : Stand p l e room_1 s m #[(.int q0), (.int q1), (.int q2), (.int q3)] below meth c Tj294_67 lj294_67 2 30) (ej294_67 : Tj294_67.heap = h63) (Nj294_67 : Fr n0 lj294_67) (z0 : Int32), z0 = (own_law_v294_67_S0 q0 q1 q2 q3) → Go p e below OWE (Tj294_67.setTop (mkF m 294 #[.val (.int q0), .val (.int q1), .val (.int q2), .val (.int q3), .val (.ref b1), .val (.ref b33), .val (.int (11 : Int32)), .val (.int (own_law_x34 q0 q1 q2 q3)), .val (.int (own_law_x35 q0 q1 q2 q3)), .val (.int (own_law_x36 q0 q1 q2 q3))] [.int z0])) := by
                            intro Tj294_67 lj294_67 Xj294_67 ej294_67 Nj294_67 z0 yy0
                            subst yy0
                            refine o_istore Xj294_67 hx (hb hby at_294) (pc' := 296) rfl (L' := #[.val (.int q0), .val (.int q1), .val (.int q2), .val (.int q3), .val (.ref b1), .val (.ref b33), .val (.int (11 : Int32)), .val (.int (own_law_x34 q0 q1 q2 q3)), .val (.int (own_law_v294_67_S0 q0 q1 q2 q3)), .val (.int (own_law_x36 q0 q1 q2 q3))]) rfl ?_
                            refine o_iloadN Xj294_67 hx (hb hby at_296) (pc' := 297) rfl rfl ?_
                            refine o_bipush Xj294_67 hx (65 : Int32) (hb hby at_297) (pc' := 299) rfl (by decide) ?_
                            have J327_70 : ∀ (Tj327_70 : State) (lj327_70 : List Loc) (Xj327_70 : Stand p l e room_1 s m #[(.int q0), (.int q1), (.int q2), (.int q3)] below meth c Tj327_70 lj327_70 2 30) (ej327_70 : Tj327_70.heap = h63) (Nj327_70 : Fr n0 lj327_70) (z0 : Int32), z0 = (own_law_v327_70_L8 q0 q1 q2 q3) → Go p e below OWE (Tj327_70.setTop (mkF m 327 #[.val (.int q0), .val (.int q1), .val (.int q2), .val (.int q3), .val (.ref b1), .val (.ref b33), .val (.int (11 : Int32)), .val (.int (own_law_x34 q0 q1 q2 q3)), .val (.int z0), .val (.int (own_law_x36 q0 q1 q2 q3))] [])) := by
                              intro Tj327_70 lj327_70 Xj327_70 ej327_70 Nj327_70 z0 yy0
                              subst yy0
                              refine o_iload Xj327_70 hx (hb hby at_327) (pc' := 329) rfl rfl ?_
                              rw [← hOWE]
                              exact o_retZ Xj327_70 hx (own_narZ (own_law_v327_70_L8_01 q0 q1 q2 q3)) hlk hrt (hb hby at_329) (by decide) (by decide) (by rw [ej327_70]; exact ⟨(by rw [own_law_ret, if_neg hs65, if_neg hs78, if_neg hs91, if_neg hs104, if_neg hs117, if_neg hs130, if_neg hs143, if_neg hs156, if_neg hs169, if_neg hs182, if_neg hs195, if_pos hs208, own_law_ret_j294_67, own_law_ret_j327_70]), Nj327_70⟩)
                            by_cases hc299_211 : q3 < (65 : Int32)
                            · refine o_cmpY Xj294_67 hx (hb hby at_299) (tlt hc299_211).1 (by decide) (pc' := 308) (by decide) ?_
                              refine o_iload Xj294_67 hx (hb hby at_308) (pc' := 310) rfl rfl ?_
                              have J325_71 : ∀ (Tj325_71 : State) (lj325_71 : List Loc) (Xj325_71 : Stand p l e room_1 s m #[(.int q0), (.int q1), (.int q2), (.int q3)] below meth c Tj325_71 lj325_71 2 30) (ej325_71 : Tj325_71.heap = h63) (Nj325_71 : Fr n0 lj325_71) (z0 : Int32), z0 = (own_law_v325_68_S0 q0 q1 q2 q3) → Go p e below OWE (Tj325_71.setTop (mkF m 325 #[.val (.int q0), .val (.int q1), .val (.int q2), .val (.int q3), .val (.ref b1), .val (.ref b33), .val (.int (11 : Int32)), .val (.int (own_law_x34 q0 q1 q2 q3)), .val (.int (own_law_v294_67_S0 q0 q1 q2 q3)), .val (.int (own_law_x36 q0 q1 q2 q3))] [.int z0])) := by
                                intro Tj325_71 lj325_71 Xj325_71 ej325_71 Nj325_71 z0 yy0
                                subst yy0
                                refine o_istore Xj325_71 hx (hb hby at_325) (pc' := 327) rfl (L' := #[.val (.int q0), .val (.int q1), .val (.int q2), .val (.int q3), .val (.ref b1), .val (.ref b33), .val (.int (11 : Int32)), .val (.int (own_law_x34 q0 q1 q2 q3)), .val (.int (own_law_v325_68_S0 q0 q1 q2 q3)), .val (.int (own_law_x36 q0 q1 q2 q3))]) rfl ?_
                                exact J327_70 _ _ Xj325_71 ej325_71 Nj325_71 ((own_law_v325_68_S0 q0 q1 q2 q3)) (by rw [own_law_v327_70_L8, if_pos hc299_211])
                              by_cases hc310_212 : (own_law_v294_67_S0 q0 q1 q2 q3) = (0 : Int32)
                              · refine o_ifY Xj294_67 hx (hb hby at_310) (teq hc310_212).1 (by decide) (pc' := 324) (by decide) ?_
                                refine o_iconst Xj294_67 hx (0 : Int32) (hb hby at_324) (pc' := 325) rfl (by decide) ?_
                                exact J325_71 _ _ Xj294_67 ej294_67 Nj294_67 ((0 : Int32)) (by rw [own_law_v325_68_S0, if_pos hc310_212])
                              · refine o_ifN Xj294_67 hx (hb hby at_310) (feq hc310_212).1 (pc' := 313) rfl ?_
                                refine o_iloadN Xj294_67 hx (hb hby at_313) (pc' := 314) rfl rfl ?_
                                refine o_callS Xj294_67 hx hZ 0 (argsL := [.int q3]) (rest := []) hown (w 9 _ rfl) (w 10 _ rfl) (w 11 _ rfl) (w 12 _ rfl) (by decide) (rm1 l Z a0 hw [] q3 h63 n0 Z63 ) (by decide) (by decide) (cells' := 2) rfl (slots' := 30) rfl (by decide) (by decide) ej294_67 (by rw [hml]; rfl) (lenOf pd_0 rfl) rfl rfl (hb hby at_314) (pc' := 317) rfl ?_
                                intro T213 v213 L213 X213 hQ213
                                obtain ⟨rfl, Nq213, e213⟩ := hQ213
                                have N213 := Fr.app Nj294_67 Nq213
                                show Go p e below _ (T213.setTop (mkF m 317 _ [.int (own_f1_ret q3)]))
                                by_cases hc317_214 : (own_f1_ret q3) = (0 : Int32)
                                · refine o_ifN X213 hx (hb hby at_317) (teq hc317_214).2 (pc' := 320) rfl ?_
                                  refine o_iconst X213 hx (1 : Int32) (hb hby at_320) (pc' := 321) rfl (by decide) ?_
                                  refine o_goto X213 hx (hb hby at_321) (by decide) (pc' := 325) (by decide) ?_
                                  exact J325_71 _ _ X213 e213 N213 ((1 : Int32)) (by rw [own_law_v325_68_S0, if_neg hc310_212, if_pos hc317_214])
                                · refine o_ifY X213 hx (hb hby at_317) (feq hc317_214).2 (by decide) (pc' := 324) (by decide) ?_
                                  refine o_iconst X213 hx (0 : Int32) (hb hby at_324) (pc' := 325) rfl (by decide) ?_
                                  exact J325_71 _ _ X213 e213 N213 ((0 : Int32)) (by rw [own_law_v325_68_S0, if_neg hc310_212, if_neg hc317_214])
                            · refine o_cmpN Xj294_67 hx (hb hby at_299) (flt hc299_211).1 (pc' := 302) rfl ?_
                              refine o_iloadN Xj294_67 hx (hb hby at_302) (pc' := 303) rfl rfl ?_
                              refine o_ldcI Xj294_67 hx hZ (983039 : Int32) hown (w 7 _ rfl) (hb hby at_303) (pc' := 305) rfl ?_
                              by_cases hc305_215 : (983039 : Int32) < q3
                              · refine o_cmpN Xj294_67 hx (hb hby at_305) (tlt hc305_215).2.2.2 (pc' := 308) rfl ?_
                                refine o_iload Xj294_67 hx (hb hby at_308) (pc' := 310) rfl rfl ?_
                                have J325_72 : ∀ (Tj325_72 : State) (lj325_72 : List Loc) (Xj325_72 : Stand p l e room_1 s m #[(.int q0), (.int q1), (.int q2), (.int q3)] below meth c Tj325_72 lj325_72 2 30) (ej325_72 : Tj325_72.heap = h63) (Nj325_72 : Fr n0 lj325_72) (z0 : Int32), z0 = (own_law_v325_68_S0 q0 q1 q2 q3) → Go p e below OWE (Tj325_72.setTop (mkF m 325 #[.val (.int q0), .val (.int q1), .val (.int q2), .val (.int q3), .val (.ref b1), .val (.ref b33), .val (.int (11 : Int32)), .val (.int (own_law_x34 q0 q1 q2 q3)), .val (.int (own_law_v294_67_S0 q0 q1 q2 q3)), .val (.int (own_law_x36 q0 q1 q2 q3))] [.int z0])) := by
                                  intro Tj325_72 lj325_72 Xj325_72 ej325_72 Nj325_72 z0 yy0
                                  subst yy0
                                  refine o_istore Xj325_72 hx (hb hby at_325) (pc' := 327) rfl (L' := #[.val (.int q0), .val (.int q1), .val (.int q2), .val (.int q3), .val (.ref b1), .val (.ref b33), .val (.int (11 : Int32)), .val (.int (own_law_x34 q0 q1 q2 q3)), .val (.int (own_law_v325_68_S0 q0 q1 q2 q3)), .val (.int (own_law_x36 q0 q1 q2 q3))]) rfl ?_
                                  exact J327_70 _ _ Xj325_72 ej325_72 Nj325_72 ((own_law_v325_68_S0 q0 q1 q2 q3)) (by rw [own_law_v327_70_L8, if_neg hc299_211, if_pos hc305_215])
                                by_cases hc310_216 : (own_law_v294_67_S0 q0 q1 q2 q3) = (0 : Int32)
                                · refine o_ifY Xj294_67 hx (hb hby at_310) (teq hc310_216).1 (by decide) (pc' := 324) (by decide) ?_
                                  refine o_iconst Xj294_67 hx (0 : Int32) (hb hby at_324) (pc' := 325) rfl (by decide) ?_
                                  exact J325_72 _ _ Xj294_67 ej294_67 Nj294_67 ((0 : Int32)) (by rw [own_law_v325_68_S0, if_pos hc310_216])
                                · refine o_ifN Xj294_67 hx (hb hby at_310) (feq hc310_216).1 (pc' := 313) rfl ?_
                                  refine o_iloadN Xj294_67 hx (hb hby at_313) (pc' := 314) rfl rfl ?_
                                  refine o_callS Xj294_67 hx hZ 0 (argsL := [.int q3]) (rest := []) hown (w 9 _ rfl) (w 10 _ rfl) (w 11 _ rfl) (w 12 _ rfl) (by decide) (rm1 l Z a0 hw [] q3 h63 n0 Z63 ) (by decide) (by decide) (cells' := 2) rfl (slots' := 30) rfl (by decide) (by decide) ej294_67 (by rw [hml]; rfl) (lenOf pd_0 rfl) rfl rfl (hb hby at_314) (pc' := 317) rfl ?_
                                  intro T217 v217 L217 X217 hQ217
                                  obtain ⟨rfl, Nq217, e217⟩ := hQ217
                                  have N217 := Fr.app Nj294_67 Nq217
                                  show Go p e below _ (T217.setTop (mkF m 317 _ [.int (own_f1_ret q3)]))
                                  by_cases hc317_218 : (own_f1_ret q3) = (0 : Int32)
                                  · refine o_ifN X217 hx (hb hby at_317) (teq hc317_218).2 (pc' := 320) rfl ?_
                                    refine o_iconst X217 hx (1 : Int32) (hb hby at_320) (pc' := 321) rfl (by decide) ?_
                                    refine o_goto X217 hx (hb hby at_321) (by decide) (pc' := 325) (by decide) ?_
                                    exact J325_72 _ _ X217 e217 N217 ((1 : Int32)) (by rw [own_law_v325_68_S0, if_neg hc310_216, if_pos hc317_218])
                                  · refine o_ifY X217 hx (hb hby at_317) (feq hc317_218).2 (by decide) (pc' := 324) (by decide) ?_
                                    refine o_iconst X217 hx (0 : Int32) (hb hby at_324) (pc' := 325) rfl (by decide) ?_
                                    exact J325_72 _ _ X217 e217 N217 ((0 : Int32)) (by rw [own_law_v325_68_S0, if_neg hc310_216, if_neg hc317_218])
                              · refine o_cmpY Xj294_67 hx (hb hby at_305) (flt hc305_215).2.2.2 (by decide) (pc' := 327) (by decide) ?_
                                exact J327_70 _ _ Xj294_67 ej294_67 Nj294_67 ((own_law_v294_67_S0 q0 q1 q2 q3)) (by rw [own_law_v327_70_L8, if_neg hc299_211, if_neg hc305_215])
                          by_cases hc278_210 : (own_law_x35 q0 q1 q2 q3) = (0 : Int32)
                          · refine o_ifY X209 hx (hb hby at_278) (teq hc278_210).1 (by decide) (pc' := 293) (by decide) ?_
                            refine o_iconst X209 hx (0 : Int32) (hb hby at_293) (pc' := 294) rfl (by decide) ?_
                            exact J294_67 _ _ X209 e209 N209 ((0 : Int32)) (by rw [own_law_v294_67_S0, if_pos hc278_210])
                          · refine o_ifN X209 hx (hb hby at_278) (feq hc278_210).1 (pc' := 281) rfl ?_
                            refine o_iload X209 hx (hb hby at_281) (pc' := 283) rfl rfl ?_
                            refine o_callS X209 hx hZ 0 (argsL := [.int (own_law_x36 q0 q1 q2 q3)]) (rest := []) hown (w 9 _ rfl) (w 10 _ rfl) (w 11 _ rfl) (w 12 _ rfl) (by decide) (rm1 l Z a0 hw [] (own_law_x36 q0 q1 q2 q3) h63 n0 Z63 ) (by decide) (by decide) (cells' := 2) rfl (slots' := 30) rfl (by decide) (by decide) e209 (by rw [hml]; rfl) (lenOf pd_0 rfl) rfl rfl (hb hby at_283) (pc' := 286) rfl ?_
                            intro T219 v219 L219 X219 hQ219
                            obtain ⟨rfl, Nq219, e219⟩ := hQ219
                            have N219 := Fr.app N209 Nq219
                            show Go p e below _ (T219.setTop (mkF m 286 _ [.int (own_f1_ret (own_law_x36 q0 q1 q2 q3))]))
                            by_cases hc286_220 : (own_f1_ret (own_law_x36 q0 q1 q2 q3)) = (0 : Int32)
                            · refine o_ifN X219 hx (hb hby at_286) (teq hc286_220).2 (pc' := 289) rfl ?_
                              refine o_iconst X219 hx (1 : Int32) (hb hby at_289) (pc' := 290) rfl (by decide) ?_
                              refine o_goto X219 hx (hb hby at_290) (by decide) (pc' := 294) (by decide) ?_
                              exact J294_67 _ _ X219 e219 N219 ((1 : Int32)) (by rw [own_law_v294_67_S0, if_neg hc278_210, if_pos hc286_220])
                            · refine o_ifY X219 hx (hb hby at_286) (feq hc286_220).2 (by decide) (pc' := 293) (by decide) ?_
                              refine o_iconst X219 hx (0 : Int32) (hb hby at_293) (pc' := 294) rfl (by decide) ?_
                              exact J294_67 _ _ X219 e219 N219 ((0 : Int32)) (by rw [own_law_v294_67_S0, if_neg hc278_210, if_neg hc286_220])
                        · by_cases hs221 : (own_law_x0 q0 q1 q2 q3) = (12 : Int32)
                          · rw [hs221]
                            refine o_aload X63 hx (hb hby at_206) (pc' := 208) rfl rfl rfl ?_
                            refine o_iload X63 hx (hb hby at_208) (pc' := 210) rfl rfl ?_
                            refine o_iaload X63 hx hZ (.int (63744 : Int32)) e63 V64_b1 (by decide) (by rfl) (hb hby at_210) (pc' := 211) rfl ?_
                            refine o_iloadN X63 hx (hb hby at_211) (pc' := 212) rfl rfl ?_
                            refine o_ldcI X63 hx hZ (2147483647 : Int32) hown (w 8 _ rfl) (hb hby at_212) (pc' := 214) rfl ?_
                            refine o_iand X63 hx (hb hby at_214) (pc' := 215) rfl ?_
                            refine o_aload X63 hx (hb hby at_215) (pc' := 217) rfl rfl rfl ?_
                            refine o_iload X63 hx (hb hby at_217) (pc' := 219) rfl rfl ?_
                            refine o_iaload X63 hx hZ (.int (64975 : Int32)) e63 V63_ (by decide) (by rfl) (hb hby at_219) (pc' := 220) rfl ?_
                            refine o_aload X63 hx (hb hby at_220) (pc' := 222) rfl rfl rfl ?_
                            refine o_iload X63 hx (hb hby at_222) (pc' := 224) rfl rfl ?_
                            refine o_iaload X63 hx hZ (.int (63744 : Int32)) e63 V64_b1 (by decide) (by rfl) (hb hby at_224) (pc' := 225) rfl ?_
                            refine o_isub X63 hx (hb hby at_225) (pc' := 226) rfl ?_
                            rw [show ((64975 : Int32) - (63744 : Int32)) = (1231 : Int32) from by decide]
                            refine o_iconst X63 hx (1 : Int32) (hb hby at_226) (pc' := 227) rfl (by decide) ?_
                            refine o_iadd X63 hx (hb hby at_227) (pc' := 228) rfl ?_
                            rw [show ((1231 : Int32) + (1 : Int32)) = (1232 : Int32) from by decide]
                            refine o_irem X63 hx (hb hby at_228) (pc' := 229) rfl (by decide) ?_
                            refine o_iadd X63 hx (hb hby at_229) (pc' := 230) rfl ?_
                            refine o_istore (x := (own_law_x37 q0 q1 q2 q3)) X63 hx (hb hby at_230) (pc' := 232) rfl (L' := #[.val (.int q0), .val (.int q1), .val (.int q2), .val (.int q3), .val (.ref b1), .val (.ref b33), .val (.int (12 : Int32)), .val (.int (own_law_x37 q0 q1 q2 q3)), .unset, .unset]) rfl ?_
                            refine o_iload X63 hx (hb hby at_232) (pc' := 234) rfl rfl ?_
                            refine o_callS X63 hx hZ 0 (argsL := [.int (own_law_x37 q0 q1 q2 q3)]) (rest := []) hown (w 9 _ rfl) (w 10 _ rfl) (w 11 _ rfl) (w 12 _ rfl) (by decide) (rm1 l Z a0 hw [] (own_law_x37 q0 q1 q2 q3) h63 n0 Z63 ) (by decide) (by decide) (cells' := 2) rfl (slots' := 30) rfl (by decide) (by decide) e63 (by rw [hml]; rfl) (lenOf pd_0 rfl) rfl rfl (hb hby at_234) (pc' := 237) rfl ?_
                            intro T222 v222 L222 X222 hQ222
                            obtain ⟨rfl, Nq222, e222⟩ := hQ222
                            have N222 := Fr.app N63 Nq222
                            show Go p e below _ (T222.setTop (mkF m 237 _ [.int (own_f1_ret (own_law_x37 q0 q1 q2 q3))]))
                            refine o_istore (x := (own_law_x38 q0 q1 q2 q3)) X222 hx (hb hby at_237) (pc' := 239) rfl (L' := #[.val (.int q0), .val (.int q1), .val (.int q2), .val (.int q3), .val (.ref b1), .val (.ref b33), .val (.int (12 : Int32)), .val (.int (own_law_x37 q0 q1 q2 q3)), .val (.int (own_law_x38 q0 q1 q2 q3)), .unset]) rfl ?_
                            refine o_iload X222 hx (hb hby at_239) (pc' := 241) rfl rfl ?_
                            refine o_bipush X222 hx (14 : Int32) (hb hby at_241) (pc' := 243) rfl (by decide) ?_
                            refine o_cmpN X222 hx (hb hby at_243) (tlt (by decide : (12 : Int32) < (14 : Int32))).2.1 (pc' := 246) rfl ?_
                            refine o_aload X222 hx (hb hby at_246) (pc' := 248) rfl rfl rfl ?_
                            refine o_iload X222 hx (hb hby at_248) (pc' := 250) rfl rfl ?_
                            refine o_iaload X222 hx hZ (.int (64975 : Int32)) e222 V63_ (by decide) (by rfl) (hb hby at_250) (pc' := 251) rfl ?_
                            refine o_iconst X222 hx (1 : Int32) (hb hby at_251) (pc' := 252) rfl (by decide) ?_
                            refine o_iadd X222 hx (hb hby at_252) (pc' := 253) rfl ?_
                            rw [show ((64975 : Int32) + (1 : Int32)) = (64976 : Int32) from by decide]
                            refine o_iloadN X222 hx (hb hby at_253) (pc' := 254) rfl rfl ?_
                            refine o_ldcI X222 hx hZ (2147483647 : Int32) hown (w 8 _ rfl) (hb hby at_254) (pc' := 256) rfl ?_
                            refine o_iand X222 hx (hb hby at_256) (pc' := 257) rfl ?_
                            refine o_aload X222 hx (hb hby at_257) (pc' := 259) rfl rfl rfl ?_
                            refine o_iload X222 hx (hb hby at_259) (pc' := 261) rfl rfl ?_
                            refine o_iconst X222 hx (1 : Int32) (hb hby at_261) (pc' := 262) rfl (by decide) ?_
                            refine o_iadd X222 hx (hb hby at_262) (pc' := 263) rfl ?_
                            rw [show ((12 : Int32) + (1 : Int32)) = (13 : Int32) from by decide]
                            refine o_iaload X222 hx hZ (.int (65008 : Int32)) e222 V64_b1 (by decide) (by rfl) (hb hby at_263) (pc' := 264) rfl ?_
                            refine o_aload X222 hx (hb hby at_264) (pc' := 266) rfl rfl rfl ?_
                            refine o_iload X222 hx (hb hby at_266) (pc' := 268) rfl rfl ?_
                            refine o_iaload X222 hx hZ (.int (64975 : Int32)) e222 V63_ (by decide) (by rfl) (hb hby at_268) (pc' := 269) rfl ?_
                            refine o_isub X222 hx (hb hby at_269) (pc' := 270) rfl ?_
                            rw [show ((65008 : Int32) - (64975 : Int32)) = (33 : Int32) from by decide]
                            refine o_iconst X222 hx (1 : Int32) (hb hby at_270) (pc' := 271) rfl (by decide) ?_
                            refine o_isub X222 hx (hb hby at_271) (pc' := 272) rfl ?_
                            rw [show ((33 : Int32) - (1 : Int32)) = (32 : Int32) from by decide]
                            refine o_irem X222 hx (hb hby at_272) (pc' := 273) rfl (by decide) ?_
                            refine o_iadd X222 hx (hb hby at_273) (pc' := 274) rfl ?_
                            refine o_istore (x := (own_law_x39 q0 q1 q2 q3)) X222 hx (hb hby at_274) (pc' := 276) rfl (L' := #[.val (.int q0), .val (.int q1), .val (.int q2), .val (.int q3), .val (.ref b1), .val (.ref b33), .val (.int (12 : Int32)), .val (.int (own_law_x37 q0 q1 q2 q3)), .val (.int (own_law_x38 q0 q1 q2 q3)), .val (.int (own_law_x39 q0 q1 q2 q3))]) rfl ?_
                            refine o_iload X222 hx (hb hby at_276) (pc' := 278) rfl rfl ?_
                            have J294_73 : ∀ (Tj294_73 : State) (lj294_73 : List Loc) (Xj294_73 : Stand p l e room_1 s m #[(.int q0), (.int q1), (.int q2), (.int q3)] below meth c Tj294_73 lj294_73 2 30) (ej294_73 : Tj294_73.heap = h63) (Nj294_73 : Fr n0 lj294_73) (z0 : Int32), z0 = (own_law_v294_73_S0 q0 q1 q2 q3) → Go p e below OWE (Tj294_73.setTop (mkF m 294 #[.val (.int q0), .val (.int q1), .val (.int q2), .val (.int q3), .val (.ref b1), .val (.ref b33), .val (.int (12 : Int32)), .val (.int (own_law_x37 q0 q1 q2 q3)), .val (.int (own_law_x38 q0 q1 q2 q3)), .val (.int (own_law_x39 q0 q1 q2 q3))] [.int z0])) := by
                              intro Tj294_73 lj294_73 Xj294_73 ej294_73 Nj294_73 z0 yy0
                              subst yy0
                              refine o_istore Xj294_73 hx (hb hby at_294) (pc' := 296) rfl (L' := #[.val (.int q0), .val (.int q1), .val (.int q2), .val (.int q3), .val (.ref b1), .val (.ref b33), .val (.int (12 : Int32)), .val (.int (own_law_x37 q0 q1 q2 q3)), .val (.int (own_law_v294_73_S0 q0 q1 q2 q3)), .val (.int (own_law_x39 q0 q1 q2 q3))]) rfl ?_
                              refine o_iloadN Xj294_73 hx (hb hby at_296) (pc' := 297) rfl rfl ?_
                              refine o_bipush Xj294_73 hx (65 : Int32) (hb hby at_297) (pc' := 299) rfl (by decide) ?_
                              have J327_76 : ∀ (Tj327_76 : State) (lj327_76 : List Loc) (Xj327_76 : Stand p l e room_1 s m #[(.int q0), (.int q1), (.int q2), (.int q3)] below meth c Tj327_76 lj327_76 2 30) (ej327_76 : Tj327_76.heap = h63) (Nj327_76 : Fr n0 lj327_76) (z0 : Int32), z0 = (own_law_v327_76_L8 q0 q1 q2 q3) → Go p e below OWE (Tj327_76.setTop (mkF m 327 #[.val (.int q0), .val (.int q1), .val (.int q2), .val (.int q3), .val (.ref b1), .val (.ref b33), .val (.int (12 : Int32)), .val (.int (own_law_x37 q0 q1 q2 q3)), .val (.int z0), .val (.int (own_law_x39 q0 q1 q2 q3))] [])) := by
                                intro Tj327_76 lj327_76 Xj327_76 ej327_76 Nj327_76 z0 yy0
                                subst yy0
                                refine o_iload Xj327_76 hx (hb hby at_327) (pc' := 329) rfl rfl ?_
                                rw [← hOWE]
                                exact o_retZ Xj327_76 hx (own_narZ (own_law_v327_76_L8_01 q0 q1 q2 q3)) hlk hrt (hb hby at_329) (by decide) (by decide) (by rw [ej327_76]; exact ⟨(by rw [own_law_ret, if_neg hs65, if_neg hs78, if_neg hs91, if_neg hs104, if_neg hs117, if_neg hs130, if_neg hs143, if_neg hs156, if_neg hs169, if_neg hs182, if_neg hs195, if_neg hs208, if_pos hs221, own_law_ret_j294_73, own_law_ret_j327_76]), Nj327_76⟩)
                              by_cases hc299_224 : q3 < (65 : Int32)
                              · refine o_cmpY Xj294_73 hx (hb hby at_299) (tlt hc299_224).1 (by decide) (pc' := 308) (by decide) ?_
                                refine o_iload Xj294_73 hx (hb hby at_308) (pc' := 310) rfl rfl ?_
                                have J325_77 : ∀ (Tj325_77 : State) (lj325_77 : List Loc) (Xj325_77 : Stand p l e room_1 s m #[(.int q0), (.int q1), (.int q2), (.int q3)] below meth c Tj325_77 lj325_77 2 30) (ej325_77 : Tj325_77.heap = h63) (Nj325_77 : Fr n0 lj325_77) (z0 : Int32), z0 = (own_law_v325_74_S0 q0 q1 q2 q3) → Go p e below OWE (Tj325_77.setTop (mkF m 325 #[.val (.int q0), .val (.int q1), .val (.int q2), .val (.int q3), .val (.ref b1), .val (.ref b33), .val (.int (12 : Int32)), .val (.int (own_law_x37 q0 q1 q2 q3)), .val (.int (own_law_v294_73_S0 q0 q1 q2 q3)), .val (.int (own_law_x39 q0 q1 q2 q3))] [.int z0])) := by
                                  intro Tj325_77 lj325_77 Xj325_77 ej325_77 Nj325_77 z0 yy0
                                  subst yy0
                                  refine o_istore Xj325_77 hx (hb hby at_325) (pc' := 327) rfl (L' := #[.val (.int q0), .val (.int q1), .val (.int q2), .val (.int q3), .val (.ref b1), .val (.ref b33), .val (.int (12 : Int32)), .val (.int (own_law_x37 q0 q1 q2 q3)), .val (.int (own_law_v325_74_S0 q0 q1 q2 q3)), .val (.int (own_law_x39 q0 q1 q2 q3))]) rfl ?_
                                  exact J327_76 _ _ Xj325_77 ej325_77 Nj325_77 ((own_law_v325_74_S0 q0 q1 q2 q3)) (by rw [own_law_v327_76_L8, if_pos hc299_224])
                                by_cases hc310_225 : (own_law_v294_73_S0 q0 q1 q2 q3) = (0 : Int32)
                                · refine o_ifY Xj294_73 hx (hb hby at_310) (teq hc310_225).1 (by decide) (pc' := 324) (by decide) ?_
                                  refine o_iconst Xj294_73 hx (0 : Int32) (hb hby at_324) (pc' := 325) rfl (by decide) ?_
                                  exact J325_77 _ _ Xj294_73 ej294_73 Nj294_73 ((0 : Int32)) (by rw [own_law_v325_74_S0, if_pos hc310_225])
                                · refine o_ifN Xj294_73 hx (hb hby at_310) (feq hc310_225).1 (pc' := 313) rfl ?_
                                  refine o_iloadN Xj294_73 hx (hb hby at_313) (pc' := 314) rfl rfl ?_
                                  refine o_callS Xj294_73 hx hZ 0 (argsL := [.int q3]) (rest := []) hown (w 9 _ rfl) (w 10 _ rfl) (w 11 _ rfl) (w 12 _ rfl) (by decide) (rm1 l Z a0 hw [] q3 h63 n0 Z63 ) (by decide) (by decide) (cells' := 2) rfl (slots' := 30) rfl (by decide) (by decide) ej294_73 (by rw [hml]; rfl) (lenOf pd_0 rfl) rfl rfl (hb hby at_314) (pc' := 317) rfl ?_
                                  intro T226 v226 L226 X226 hQ226
                                  obtain ⟨rfl, Nq226, e226⟩ := hQ226
                                  have N226 := Fr.app Nj294_73 Nq226
                                  show Go p e below _ (T226.setTop (mkF m 317 _ [.int (own_f1_ret q3)]))
                                  by_cases hc317_227 : (own_f1_ret q3) = (0 : Int32)
                                  · refine o_ifN X226 hx (hb hby at_317) (teq hc317_227).2 (pc' := 320) rfl ?_
                                    refine o_iconst X226 hx (1 : Int32) (hb hby at_320) (pc' := 321) rfl (by decide) ?_
                                    refine o_goto X226 hx (hb hby at_321) (by decide) (pc' := 325) (by decide) ?_
                                    exact J325_77 _ _ X226 e226 N226 ((1 : Int32)) (by rw [own_law_v325_74_S0, if_neg hc310_225, if_pos hc317_227])
                                  · refine o_ifY X226 hx (hb hby at_317) (feq hc317_227).2 (by decide) (pc' := 324) (by decide) ?_
                                    refine o_iconst X226 hx (0 : Int32) (hb hby at_324) (pc' := 325) rfl (by decide) ?_
                                    exact J325_77 _ _ X226 e226 N226 ((0 : Int32)) (by rw [own_law_v325_74_S0, if_neg hc310_225, if_neg hc317_227])
                              · refine o_cmpN Xj294_73 hx (hb hby at_299) (flt hc299_224).1 (pc' := 302) rfl ?_
                                refine o_iloadN Xj294_73 hx (hb hby at_302) (pc' := 303) rfl rfl ?_
                                refine o_ldcI Xj294_73 hx hZ (983039 : Int32) hown (w 7 _ rfl) (hb hby at_303) (pc' := 305) rfl ?_
                                by_cases hc305_228 : (983039 : Int32) < q3
                                · refine o_cmpN Xj294_73 hx (hb hby at_305) (tlt hc305_228).2.2.2 (pc' := 308) rfl ?_
                                  refine o_iload Xj294_73 hx (hb hby at_308) (pc' := 310) rfl rfl ?_
                                  have J325_78 : ∀ (Tj325_78 : State) (lj325_78 : List Loc) (Xj325_78 : Stand p l e room_1 s m #[(.int q0), (.int q1), (.int q2), (.int q3)] below meth c Tj325_78 lj325_78 2 30) (ej325_78 : Tj325_78.heap = h63) (Nj325_78 : Fr n0 lj325_78) (z0 : Int32), z0 = (own_law_v325_74_S0 q0 q1 q2 q3) → Go p e below OWE (Tj325_78.setTop (mkF m 325 #[.val (.int q0), .val (.int q1), .val (.int q2), .val (.int q3), .val (.ref b1), .val (.ref b33), .val (.int (12 : Int32)), .val (.int (own_law_x37 q0 q1 q2 q3)), .val (.int (own_law_v294_73_S0 q0 q1 q2 q3)), .val (.int (own_law_x39 q0 q1 q2 q3))] [.int z0])) := by
                                    intro Tj325_78 lj325_78 Xj325_78 ej325_78 Nj325_78 z0 yy0
                                    subst yy0
                                    refine o_istore Xj325_78 hx (hb hby at_325) (pc' := 327) rfl (L' := #[.val (.int q0), .val (.int q1), .val (.int q2), .val (.int q3), .val (.ref b1), .val (.ref b33), .val (.int (12 : Int32)), .val (.int (own_law_x37 q0 q1 q2 q3)), .val (.int (own_law_v325_74_S0 q0 q1 q2 q3)), .val (.int (own_law_x39 q0 q1 q2 q3))]) rfl ?_
                                    exact J327_76 _ _ Xj325_78 ej325_78 Nj325_78 ((own_law_v325_74_S0 q0 q1 q2 q3)) (by rw [own_law_v327_76_L8, if_neg hc299_224, if_pos hc305_228])
                                  by_cases hc310_229 : (own_law_v294_73_S0 q0 q1 q2 q3) = (0 : Int32)
                                  · refine o_ifY Xj294_73 hx (hb hby at_310) (teq hc310_229).1 (by decide) (pc' := 324) (by decide) ?_
                                    refine o_iconst Xj294_73 hx (0 : Int32) (hb hby at_324) (pc' := 325) rfl (by decide) ?_
                                    exact J325_78 _ _ Xj294_73 ej294_73 Nj294_73 ((0 : Int32)) (by rw [own_law_v325_74_S0, if_pos hc310_229])
                                  · refine o_ifN Xj294_73 hx (hb hby at_310) (feq hc310_229).1 (pc' := 313) rfl ?_
                                    refine o_iloadN Xj294_73 hx (hb hby at_313) (pc' := 314) rfl rfl ?_
                                    refine o_callS Xj294_73 hx hZ 0 (argsL := [.int q3]) (rest := []) hown (w 9 _ rfl) (w 10 _ rfl) (w 11 _ rfl) (w 12 _ rfl) (by decide) (rm1 l Z a0 hw [] q3 h63 n0 Z63 ) (by decide) (by decide) (cells' := 2) rfl (slots' := 30) rfl (by decide) (by decide) ej294_73 (by rw [hml]; rfl) (lenOf pd_0 rfl) rfl rfl (hb hby at_314) (pc' := 317) rfl ?_
                                    intro T230 v230 L230 X230 hQ230
                                    obtain ⟨rfl, Nq230, e230⟩ := hQ230
                                    have N230 := Fr.app Nj294_73 Nq230
                                    show Go p e below _ (T230.setTop (mkF m 317 _ [.int (own_f1_ret q3)]))
                                    by_cases hc317_231 : (own_f1_ret q3) = (0 : Int32)
                                    · refine o_ifN X230 hx (hb hby at_317) (teq hc317_231).2 (pc' := 320) rfl ?_
                                      refine o_iconst X230 hx (1 : Int32) (hb hby at_320) (pc' := 321) rfl (by decide) ?_
                                      refine o_goto X230 hx (hb hby at_321) (by decide) (pc' := 325) (by decide) ?_
                                      exact J325_78 _ _ X230 e230 N230 ((1 : Int32)) (by rw [own_law_v325_74_S0, if_neg hc310_229, if_pos hc317_231])
                                    · refine o_ifY X230 hx (hb hby at_317) (feq hc317_231).2 (by decide) (pc' := 324) (by decide) ?_
                                      refine o_iconst X230 hx (0 : Int32) (hb hby at_324) (pc' := 325) rfl (by decide) ?_
                                      exact J325_78 _ _ X230 e230 N230 ((0 : Int32)) (by rw [own_law_v325_74_S0, if_neg hc310_229, if_neg hc317_231])
                                · refine o_cmpY Xj294_73 hx (hb hby at_305) (flt hc305_228).2.2.2 (by decide) (pc' := 327) (by decide) ?_
                                  exact J327_76 _ _ Xj294_73 ej294_73 Nj294_73 ((own_law_v294_73_S0 q0 q1 q2 q3)) (by rw [own_law_v327_76_L8, if_neg hc299_224, if_neg hc305_228])
                            by_cases hc278_223 : (own_law_x38 q0 q1 q2 q3) = (0 : Int32)
                            · refine o_ifY X222 hx (hb hby at_278) (teq hc278_223).1 (by decide) (pc' := 293) (by decide) ?_
                              refine o_iconst X222 hx (0 : Int32) (hb hby at_293) (pc' := 294) rfl (by decide) ?_
                              exact J294_73 _ _ X222 e222 N222 ((0 : Int32)) (by rw [own_law_v294_73_S0, if_pos hc278_223])
                            · refine o_ifN X222 hx (hb hby at_278) (feq hc278_223).1 (pc' := 281) rfl ?_
                              refine o_iload X222 hx (hb hby at_281) (pc' := 283) rfl rfl ?_
                              refine o_callS X222 hx hZ 0 (argsL := [.int (own_law_x39 q0 q1 q2 q3)]) (rest := []) hown (w 9 _ rfl) (w 10 _ rfl) (w 11 _ rfl) (w 12 _ rfl) (by decide) (rm1 l Z a0 hw [] (own_law_x39 q0 q1 q2 q3) h63 n0 Z63 ) (by decide) (by decide) (cells' := 2) rfl (slots' := 30) rfl (by decide) (by decide) e222 (by rw [hml]; rfl) (lenOf pd_0 rfl) rfl rfl (hb hby at_283) (pc' := 286) rfl ?_
                              intro T232 v232 L232 X232 hQ232
                              obtain ⟨rfl, Nq232, e232⟩ := hQ232
                              have N232 := Fr.app N222 Nq232
                              show Go p e below _ (T232.setTop (mkF m 286 _ [.int (own_f1_ret (own_law_x39 q0 q1 q2 q3))]))
                              by_cases hc286_233 : (own_f1_ret (own_law_x39 q0 q1 q2 q3)) = (0 : Int32)
                              · refine o_ifN X232 hx (hb hby at_286) (teq hc286_233).2 (pc' := 289) rfl ?_
                                refine o_iconst X232 hx (1 : Int32) (hb hby at_289) (pc' := 290) rfl (by decide) ?_
                                refine o_goto X232 hx (hb hby at_290) (by decide) (pc' := 294) (by decide) ?_
                                exact J294_73 _ _ X232 e232 N232 ((1 : Int32)) (by rw [own_law_v294_73_S0, if_neg hc278_223, if_pos hc286_233])
                              · refine o_ifY X232 hx (hb hby at_286) (feq hc286_233).2 (by decide) (pc' := 293) (by decide) ?_
                                refine o_iconst X232 hx (0 : Int32) (hb hby at_293) (pc' := 294) rfl (by decide) ?_
                                exact J294_73 _ _ X232 e232 N232 ((0 : Int32)) (by rw [own_law_v294_73_S0, if_neg hc278_223, if_neg hc286_233])
                          · by_cases hs234 : (own_law_x0 q0 q1 q2 q3) = (13 : Int32)
                            · rw [hs234]
                              refine o_aload X63 hx (hb hby at_206) (pc' := 208) rfl rfl rfl ?_
                              refine o_iload X63 hx (hb hby at_208) (pc' := 210) rfl rfl ?_
                              refine o_iaload X63 hx hZ (.int (65008 : Int32)) e63 V64_b1 (by decide) (by rfl) (hb hby at_210) (pc' := 211) rfl ?_
                              refine o_iloadN X63 hx (hb hby at_211) (pc' := 212) rfl rfl ?_
                              refine o_ldcI X63 hx hZ (2147483647 : Int32) hown (w 8 _ rfl) (hb hby at_212) (pc' := 214) rfl ?_
                              refine o_iand X63 hx (hb hby at_214) (pc' := 215) rfl ?_
                              refine o_aload X63 hx (hb hby at_215) (pc' := 217) rfl rfl rfl ?_
                              refine o_iload X63 hx (hb hby at_217) (pc' := 219) rfl rfl ?_
                              refine o_iaload X63 hx hZ (.int (65533 : Int32)) e63 V63_ (by decide) (by rfl) (hb hby at_219) (pc' := 220) rfl ?_
                              refine o_aload X63 hx (hb hby at_220) (pc' := 222) rfl rfl rfl ?_
                              refine o_iload X63 hx (hb hby at_222) (pc' := 224) rfl rfl ?_
                              refine o_iaload X63 hx hZ (.int (65008 : Int32)) e63 V64_b1 (by decide) (by rfl) (hb hby at_224) (pc' := 225) rfl ?_
                              refine o_isub X63 hx (hb hby at_225) (pc' := 226) rfl ?_
                              rw [show ((65533 : Int32) - (65008 : Int32)) = (525 : Int32) from by decide]
                              refine o_iconst X63 hx (1 : Int32) (hb hby at_226) (pc' := 227) rfl (by decide) ?_
                              refine o_iadd X63 hx (hb hby at_227) (pc' := 228) rfl ?_
                              rw [show ((525 : Int32) + (1 : Int32)) = (526 : Int32) from by decide]
                              refine o_irem X63 hx (hb hby at_228) (pc' := 229) rfl (by decide) ?_
                              refine o_iadd X63 hx (hb hby at_229) (pc' := 230) rfl ?_
                              refine o_istore (x := (own_law_x40 q0 q1 q2 q3)) X63 hx (hb hby at_230) (pc' := 232) rfl (L' := #[.val (.int q0), .val (.int q1), .val (.int q2), .val (.int q3), .val (.ref b1), .val (.ref b33), .val (.int (13 : Int32)), .val (.int (own_law_x40 q0 q1 q2 q3)), .unset, .unset]) rfl ?_
                              refine o_iload X63 hx (hb hby at_232) (pc' := 234) rfl rfl ?_
                              refine o_callS X63 hx hZ 0 (argsL := [.int (own_law_x40 q0 q1 q2 q3)]) (rest := []) hown (w 9 _ rfl) (w 10 _ rfl) (w 11 _ rfl) (w 12 _ rfl) (by decide) (rm1 l Z a0 hw [] (own_law_x40 q0 q1 q2 q3) h63 n0 Z63 ) (by decide) (by decide) (cells' := 2) rfl (slots' := 30) rfl (by decide) (by decide) e63 (by rw [hml]; rfl) (lenOf pd_0 rfl) rfl rfl (hb hby at_234) (pc' := 237) rfl ?_
                              intro T235 v235 L235 X235 hQ235
                              obtain ⟨rfl, Nq235, e235⟩ := hQ235
                              have N235 := Fr.app N63 Nq235
                              show Go p e below _ (T235.setTop (mkF m 237 _ [.int (own_f1_ret (own_law_x40 q0 q1 q2 q3))]))
                              refine o_istore (x := (own_law_x41 q0 q1 q2 q3)) X235 hx (hb hby at_237) (pc' := 239) rfl (L' := #[.val (.int q0), .val (.int q1), .val (.int q2), .val (.int q3), .val (.ref b1), .val (.ref b33), .val (.int (13 : Int32)), .val (.int (own_law_x40 q0 q1 q2 q3)), .val (.int (own_law_x41 q0 q1 q2 q3)), .unset]) rfl ?_
                              refine o_iload X235 hx (hb hby at_239) (pc' := 241) rfl rfl ?_
                              refine o_bipush X235 hx (14 : Int32) (hb hby at_241) (pc' := 243) rfl (by decide) ?_
                              refine o_cmpN X235 hx (hb hby at_243) (tlt (by decide : (13 : Int32) < (14 : Int32))).2.1 (pc' := 246) rfl ?_
                              refine o_aload X235 hx (hb hby at_246) (pc' := 248) rfl rfl rfl ?_
                              refine o_iload X235 hx (hb hby at_248) (pc' := 250) rfl rfl ?_
                              refine o_iaload X235 hx hZ (.int (65533 : Int32)) e235 V63_ (by decide) (by rfl) (hb hby at_250) (pc' := 251) rfl ?_
                              refine o_iconst X235 hx (1 : Int32) (hb hby at_251) (pc' := 252) rfl (by decide) ?_
                              refine o_iadd X235 hx (hb hby at_252) (pc' := 253) rfl ?_
                              rw [show ((65533 : Int32) + (1 : Int32)) = (65534 : Int32) from by decide]
                              refine o_iloadN X235 hx (hb hby at_253) (pc' := 254) rfl rfl ?_
                              refine o_ldcI X235 hx hZ (2147483647 : Int32) hown (w 8 _ rfl) (hb hby at_254) (pc' := 256) rfl ?_
                              refine o_iand X235 hx (hb hby at_256) (pc' := 257) rfl ?_
                              refine o_aload X235 hx (hb hby at_257) (pc' := 259) rfl rfl rfl ?_
                              refine o_iload X235 hx (hb hby at_259) (pc' := 261) rfl rfl ?_
                              refine o_iconst X235 hx (1 : Int32) (hb hby at_261) (pc' := 262) rfl (by decide) ?_
                              refine o_iadd X235 hx (hb hby at_262) (pc' := 263) rfl ?_
                              rw [show ((13 : Int32) + (1 : Int32)) = (14 : Int32) from by decide]
                              refine o_iaload X235 hx hZ (.int (65536 : Int32)) e235 V64_b1 (by decide) (by rfl) (hb hby at_263) (pc' := 264) rfl ?_
                              refine o_aload X235 hx (hb hby at_264) (pc' := 266) rfl rfl rfl ?_
                              refine o_iload X235 hx (hb hby at_266) (pc' := 268) rfl rfl ?_
                              refine o_iaload X235 hx hZ (.int (65533 : Int32)) e235 V63_ (by decide) (by rfl) (hb hby at_268) (pc' := 269) rfl ?_
                              refine o_isub X235 hx (hb hby at_269) (pc' := 270) rfl ?_
                              rw [show ((65536 : Int32) - (65533 : Int32)) = (3 : Int32) from by decide]
                              refine o_iconst X235 hx (1 : Int32) (hb hby at_270) (pc' := 271) rfl (by decide) ?_
                              refine o_isub X235 hx (hb hby at_271) (pc' := 272) rfl ?_
                              rw [show ((3 : Int32) - (1 : Int32)) = (2 : Int32) from by decide]
                              refine o_irem X235 hx (hb hby at_272) (pc' := 273) rfl (by decide) ?_
                              refine o_iadd X235 hx (hb hby at_273) (pc' := 274) rfl ?_
                              refine o_istore (x := (own_law_x42 q0 q1 q2 q3)) X235 hx (hb hby at_274) (pc' := 276) rfl (L' := #[.val (.int q0), .val (.int q1), .val (.int q2), .val (.int q3), .val (.ref b1), .val (.ref b33), .val (.int (13 : Int32)), .val (.int (own_law_x40 q0 q1 q2 q3)), .val (.int (own_law_x41 q0 q1 q2 q3)), .val (.int (own_law_x42 q0 q1 q2 q3))]) rfl ?_
                              refine o_iload X235 hx (hb hby at_276) (pc' := 278) rfl rfl ?_
                              have J294_79 : ∀ (Tj294_79 : State) (lj294_79 : List Loc) (Xj294_79 : Stand p l e room_1 s m #[(.int q0), (.int q1), (.int q2), (.int q3)] below meth c Tj294_79 lj294_79 2 30) (ej294_79 : Tj294_79.heap = h63) (Nj294_79 : Fr n0 lj294_79) (z0 : Int32), z0 = (own_law_v294_79_S0 q0 q1 q2 q3) → Go p e below OWE (Tj294_79.setTop (mkF m 294 #[.val (.int q0), .val (.int q1), .val (.int q2), .val (.int q3), .val (.ref b1), .val (.ref b33), .val (.int (13 : Int32)), .val (.int (own_law_x40 q0 q1 q2 q3)), .val (.int (own_law_x41 q0 q1 q2 q3)), .val (.int (own_law_x42 q0 q1 q2 q3))] [.int z0])) := by
                                intro Tj294_79 lj294_79 Xj294_79 ej294_79 Nj294_79 z0 yy0
                                subst yy0
                                refine o_istore Xj294_79 hx (hb hby at_294) (pc' := 296) rfl (L' := #[.val (.int q0), .val (.int q1), .val (.int q2), .val (.int q3), .val (.ref b1), .val (.ref b33), .val (.int (13 : Int32)), .val (.int (own_law_x40 q0 q1 q2 q3)), .val (.int (own_law_v294_79_S0 q0 q1 q2 q3)), .val (.int (own_law_x42 q0 q1 q2 q3))]) rfl ?_
                                refine o_iloadN Xj294_79 hx (hb hby at_296) (pc' := 297) rfl rfl ?_
                                refine o_bipush Xj294_79 hx (65 : Int32) (hb hby at_297) (pc' := 299) rfl (by decide) ?_
                                have J327_82 : ∀ (Tj327_82 : State) (lj327_82 : List Loc) (Xj327_82 : Stand p l e room_1 s m #[(.int q0), (.int q1), (.int q2), (.int q3)] below meth c Tj327_82 lj327_82 2 30) (ej327_82 : Tj327_82.heap = h63) (Nj327_82 : Fr n0 lj327_82) (z0 : Int32), z0 = (own_law_v327_82_L8 q0 q1 q2 q3) → Go p e below OWE (Tj327_82.setTop (mkF m 327 #[.val (.int q0), .val (.int q1), .val (.int q2), .val (.int q3), .val (.ref b1), .val (.ref b33), .val (.int (13 : Int32)), .val (.int (own_law_x40 q0 q1 q2 q3)), .val (.int z0), .val (.int (own_law_x42 q0 q1 q2 q3))] [])) := by
                                  intro Tj327_82 lj327_82 Xj327_82 ej327_82 Nj327_82 z0 yy0
                                  subst yy0
                                  refine o_iload Xj327_82 hx (hb hby at_327) (pc' := 329) rfl rfl ?_
                                  rw [← hOWE]
                                  exact o_retZ Xj327_82 hx (own_narZ (own_law_v327_82_L8_01 q0 q1 q2 q3)) hlk hrt (hb hby at_329) (by decide) (by decide) (by rw [ej327_82]; exact ⟨(by rw [own_law_ret, if_neg hs65, if_neg hs78, if_neg hs91, if_neg hs104, if_neg hs117, if_neg hs130, if_neg hs143, if_neg hs156, if_neg hs169, if_neg hs182, if_neg hs195, if_neg hs208, if_neg hs221, if_pos hs234, own_law_ret_j294_79, own_law_ret_j327_82]), Nj327_82⟩)
                                by_cases hc299_237 : q3 < (65 : Int32)
                                · refine o_cmpY Xj294_79 hx (hb hby at_299) (tlt hc299_237).1 (by decide) (pc' := 308) (by decide) ?_
                                  refine o_iload Xj294_79 hx (hb hby at_308) (pc' := 310) rfl rfl ?_
                                  have J325_83 : ∀ (Tj325_83 : State) (lj325_83 : List Loc) (Xj325_83 : Stand p l e room_1 s m #[(.int q0), (.int q1), (.int q2), (.int q3)] below meth c Tj325_83 lj325_83 2 30) (ej325_83 : Tj325_83.heap = h63) (Nj325_83 : Fr n0 lj325_83) (z0 : Int32), z0 = (own_law_v325_80_S0 q0 q1 q2 q3) → Go p e below OWE (Tj325_83.setTop (mkF m 325 #[.val (.int q0), .val (.int q1), .val (.int q2), .val (.int q3), .val (.ref b1), .val (.ref b33), .val (.int (13 : Int32)), .val (.int (own_law_x40 q0 q1 q2 q3)), .val (.int (own_law_v294_79_S0 q0 q1 q2 q3)), .val (.int (own_law_x42 q0 q1 q2 q3))] [.int z0])) := by
                                    intro Tj325_83 lj325_83 Xj325_83 ej325_83 Nj325_83 z0 yy0
                                    subst yy0
                                    refine o_istore Xj325_83 hx (hb hby at_325) (pc' := 327) rfl (L' := #[.val (.int q0), .val (.int q1), .val (.int q2), .val (.int q3), .val (.ref b1), .val (.ref b33), .val (.int (13 : Int32)), .val (.int (own_law_x40 q0 q1 q2 q3)), .val (.int (own_law_v325_80_S0 q0 q1 q2 q3)), .val (.int (own_law_x42 q0 q1 q2 q3))]) rfl ?_
                                    exact J327_82 _ _ Xj325_83 ej325_83 Nj325_83 ((own_law_v325_80_S0 q0 q1 q2 q3)) (by rw [own_law_v327_82_L8, if_pos hc299_237])
                                  by_cases hc310_238 : (own_law_v294_79_S0 q0 q1 q2 q3) = (0 : Int32)
                                  · refine o_ifY Xj294_79 hx (hb hby at_310) (teq hc310_238).1 (by decide) (pc' := 324) (by decide) ?_
                                    refine o_iconst Xj294_79 hx (0 : Int32) (hb hby at_324) (pc' := 325) rfl (by decide) ?_
                                    exact J325_83 _ _ Xj294_79 ej294_79 Nj294_79 ((0 : Int32)) (by rw [own_law_v325_80_S0, if_pos hc310_238])
                                  · refine o_ifN Xj294_79 hx (hb hby at_310) (feq hc310_238).1 (pc' := 313) rfl ?_
                                    refine o_iloadN Xj294_79 hx (hb hby at_313) (pc' := 314) rfl rfl ?_
                                    refine o_callS Xj294_79 hx hZ 0 (argsL := [.int q3]) (rest := []) hown (w 9 _ rfl) (w 10 _ rfl) (w 11 _ rfl) (w 12 _ rfl) (by decide) (rm1 l Z a0 hw [] q3 h63 n0 Z63 ) (by decide) (by decide) (cells' := 2) rfl (slots' := 30) rfl (by decide) (by decide) ej294_79 (by rw [hml]; rfl) (lenOf pd_0 rfl) rfl rfl (hb hby at_314) (pc' := 317) rfl ?_
                                    intro T239 v239 L239 X239 hQ239
                                    obtain ⟨rfl, Nq239, e239⟩ := hQ239
                                    have N239 := Fr.app Nj294_79 Nq239
                                    show Go p e below _ (T239.setTop (mkF m 317 _ [.int (own_f1_ret q3)]))
                                    by_cases hc317_240 : (own_f1_ret q3) = (0 : Int32)
                                    · refine o_ifN X239 hx (hb hby at_317) (teq hc317_240).2 (pc' := 320) rfl ?_
                                      refine o_iconst X239 hx (1 : Int32) (hb hby at_320) (pc' := 321) rfl (by decide) ?_
                                      refine o_goto X239 hx (hb hby at_321) (by decide) (pc' := 325) (by decide) ?_
                                      exact J325_83 _ _ X239 e239 N239 ((1 : Int32)) (by rw [own_law_v325_80_S0, if_neg hc310_238, if_pos hc317_240])
                                    · refine o_ifY X239 hx (hb hby at_317) (feq hc317_240).2 (by decide) (pc' := 324) (by decide) ?_
                                      refine o_iconst X239 hx (0 : Int32) (hb hby at_324) (pc' := 325) rfl (by decide) ?_
                                      exact J325_83 _ _ X239 e239 N239 ((0 : Int32)) (by rw [own_law_v325_80_S0, if_neg hc310_238, if_neg hc317_240])
                                · refine o_cmpN Xj294_79 hx (hb hby at_299) (flt hc299_237).1 (pc' := 302) rfl ?_
                                  refine o_iloadN Xj294_79 hx (hb hby at_302) (pc' := 303) rfl rfl ?_
                                  refine o_ldcI Xj294_79 hx hZ (983039 : Int32) hown (w 7 _ rfl) (hb hby at_303) (pc' := 305) rfl ?_
                                  by_cases hc305_241 : (983039 : Int32) < q3
                                  · refine o_cmpN Xj294_79 hx (hb hby at_305) (tlt hc305_241).2.2.2 (pc' := 308) rfl ?_
                                    refine o_iload Xj294_79 hx (hb hby at_308) (pc' := 310) rfl rfl ?_
                                    have J325_84 : ∀ (Tj325_84 : State) (lj325_84 : List Loc) (Xj325_84 : Stand p l e room_1 s m #[(.int q0), (.int q1), (.int q2), (.int q3)] below meth c Tj325_84 lj325_84 2 30) (ej325_84 : Tj325_84.heap = h63) (Nj325_84 : Fr n0 lj325_84) (z0 : Int32), z0 = (own_law_v325_80_S0 q0 q1 q2 q3) → Go p e below OWE (Tj325_84.setTop (mkF m 325 #[.val (.int q0), .val (.int q1), .val (.int q2), .val (.int q3), .val (.ref b1), .val (.ref b33), .val (.int (13 : Int32)), .val (.int (own_law_x40 q0 q1 q2 q3)), .val (.int (own_law_v294_79_S0 q0 q1 q2 q3)), .val (.int (own_law_x42 q0 q1 q2 q3))] [.int z0])) := by
                                      intro Tj325_84 lj325_84 Xj325_84 ej325_84 Nj325_84 z0 yy0
                                      subst yy0
                                      refine o_istore Xj325_84 hx (hb hby at_325) (pc' := 327) rfl (L' := #[.val (.int q0), .val (.int q1), .val (.int q2), .val (.int q3), .val (.ref b1), .val (.ref b33), .val (.int (13 : Int32)), .val (.int (own_law_x40 q0 q1 q2 q3)), .val (.int (own_law_v325_80_S0 q0 q1 q2 q3)), .val (.int (own_law_x42 q0 q1 q2 q3))]) rfl ?_
                                      exact J327_82 _ _ Xj325_84 ej325_84 Nj325_84 ((own_law_v325_80_S0 q0 q1 q2 q3)) (by rw [own_law_v327_82_L8, if_neg hc299_237, if_pos hc305_241])
                                    by_cases hc310_242 : (own_law_v294_79_S0 q0 q1 q2 q3) = (0 : Int32)
                                    · refine o_ifY Xj294_79 hx (hb hby at_310) (teq hc310_242).1 (by decide) (pc' := 324) (by decide) ?_
                                      refine o_iconst Xj294_79 hx (0 : Int32) (hb hby at_324) (pc' := 325) rfl (by decide) ?_
                                      exact J325_84 _ _ Xj294_79 ej294_79 Nj294_79 ((0 : Int32)) (by rw [own_law_v325_80_S0, if_pos hc310_242])
                                    · refine o_ifN Xj294_79 hx (hb hby at_310) (feq hc310_242).1 (pc' := 313) rfl ?_
                                      refine o_iloadN Xj294_79 hx (hb hby at_313) (pc' := 314) rfl rfl ?_
                                      refine o_callS Xj294_79 hx hZ 0 (argsL := [.int q3]) (rest := []) hown (w 9 _ rfl) (w 10 _ rfl) (w 11 _ rfl) (w 12 _ rfl) (by decide) (rm1 l Z a0 hw [] q3 h63 n0 Z63 ) (by decide) (by decide) (cells' := 2) rfl (slots' := 30) rfl (by decide) (by decide) ej294_79 (by rw [hml]; rfl) (lenOf pd_0 rfl) rfl rfl (hb hby at_314) (pc' := 317) rfl ?_
                                      intro T243 v243 L243 X243 hQ243
                                      obtain ⟨rfl, Nq243, e243⟩ := hQ243
                                      have N243 := Fr.app Nj294_79 Nq243
                                      show Go p e below _ (T243.setTop (mkF m 317 _ [.int (own_f1_ret q3)]))
                                      by_cases hc317_244 : (own_f1_ret q3) = (0 : Int32)
                                      · refine o_ifN X243 hx (hb hby at_317) (teq hc317_244).2 (pc' := 320) rfl ?_
                                        refine o_iconst X243 hx (1 : Int32) (hb hby at_320) (pc' := 321) rfl (by decide) ?_
                                        refine o_goto X243 hx (hb hby at_321) (by decide) (pc' := 325) (by decide) ?_
                                        exact J325_84 _ _ X243 e243 N243 ((1 : Int32)) (by rw [own_law_v325_80_S0, if_neg hc310_242, if_pos hc317_244])
                                      · refine o_ifY X243 hx (hb hby at_317) (feq hc317_244).2 (by decide) (pc' := 324) (by decide) ?_
                                        refine o_iconst X243 hx (0 : Int32) (hb hby at_324) (pc' := 325) rfl (by decide) ?_
                                        exact J325_84 _ _ X243 e243 N243 ((0 : Int32)) (by rw [own_law_v325_80_S0, if_neg hc310_242, if_neg hc317_244])
                                  · refine o_cmpY Xj294_79 hx (hb hby at_305) (flt hc305_241).2.2.2 (by decide) (pc' := 327) (by decide) ?_
                                    exact J327_82 _ _ Xj294_79 ej294_79 Nj294_79 ((own_law_v294_79_S0 q0 q1 q2 q3)) (by rw [own_law_v327_82_L8, if_neg hc299_237, if_neg hc305_241])
                              by_cases hc278_236 : (own_law_x41 q0 q1 q2 q3) = (0 : Int32)
                              · refine o_ifY X235 hx (hb hby at_278) (teq hc278_236).1 (by decide) (pc' := 293) (by decide) ?_
                                refine o_iconst X235 hx (0 : Int32) (hb hby at_293) (pc' := 294) rfl (by decide) ?_
                                exact J294_79 _ _ X235 e235 N235 ((0 : Int32)) (by rw [own_law_v294_79_S0, if_pos hc278_236])
                              · refine o_ifN X235 hx (hb hby at_278) (feq hc278_236).1 (pc' := 281) rfl ?_
                                refine o_iload X235 hx (hb hby at_281) (pc' := 283) rfl rfl ?_
                                refine o_callS X235 hx hZ 0 (argsL := [.int (own_law_x42 q0 q1 q2 q3)]) (rest := []) hown (w 9 _ rfl) (w 10 _ rfl) (w 11 _ rfl) (w 12 _ rfl) (by decide) (rm1 l Z a0 hw [] (own_law_x42 q0 q1 q2 q3) h63 n0 Z63 ) (by decide) (by decide) (cells' := 2) rfl (slots' := 30) rfl (by decide) (by decide) e235 (by rw [hml]; rfl) (lenOf pd_0 rfl) rfl rfl (hb hby at_283) (pc' := 286) rfl ?_
                                intro T245 v245 L245 X245 hQ245
                                obtain ⟨rfl, Nq245, e245⟩ := hQ245
                                have N245 := Fr.app N235 Nq245
                                show Go p e below _ (T245.setTop (mkF m 286 _ [.int (own_f1_ret (own_law_x42 q0 q1 q2 q3))]))
                                by_cases hc286_246 : (own_f1_ret (own_law_x42 q0 q1 q2 q3)) = (0 : Int32)
                                · refine o_ifN X245 hx (hb hby at_286) (teq hc286_246).2 (pc' := 289) rfl ?_
                                  refine o_iconst X245 hx (1 : Int32) (hb hby at_289) (pc' := 290) rfl (by decide) ?_
                                  refine o_goto X245 hx (hb hby at_290) (by decide) (pc' := 294) (by decide) ?_
                                  exact J294_79 _ _ X245 e245 N245 ((1 : Int32)) (by rw [own_law_v294_79_S0, if_neg hc278_236, if_pos hc286_246])
                                · refine o_ifY X245 hx (hb hby at_286) (feq hc286_246).2 (by decide) (pc' := 293) (by decide) ?_
                                  refine o_iconst X245 hx (0 : Int32) (hb hby at_293) (pc' := 294) rfl (by decide) ?_
                                  exact J294_79 _ _ X245 e245 N245 ((0 : Int32)) (by rw [own_law_v294_79_S0, if_neg hc278_236, if_neg hc286_246])
                            · have hs247 : (own_law_x0 q0 q1 q2 q3) = (14 : Int32) := (((((((((((((((own_i15 q0 q1 q2 q3)).resolve_left hs65).resolve_left hs78).resolve_left hs91).resolve_left hs104).resolve_left hs117).resolve_left hs130).resolve_left hs143).resolve_left hs156).resolve_left hs169).resolve_left hs182).resolve_left hs195).resolve_left hs208).resolve_left hs221).resolve_left hs234
                              rw [hs247]
                              refine o_aload X63 hx (hb hby at_206) (pc' := 208) rfl rfl rfl ?_
                              refine o_iload X63 hx (hb hby at_208) (pc' := 210) rfl rfl ?_
                              refine o_iaload X63 hx hZ (.int (65536 : Int32)) e63 V64_b1 (by decide) (by rfl) (hb hby at_210) (pc' := 211) rfl ?_
                              refine o_iloadN X63 hx (hb hby at_211) (pc' := 212) rfl rfl ?_
                              refine o_ldcI X63 hx hZ (2147483647 : Int32) hown (w 8 _ rfl) (hb hby at_212) (pc' := 214) rfl ?_
                              refine o_iand X63 hx (hb hby at_214) (pc' := 215) rfl ?_
                              refine o_aload X63 hx (hb hby at_215) (pc' := 217) rfl rfl rfl ?_
                              refine o_iload X63 hx (hb hby at_217) (pc' := 219) rfl rfl ?_
                              refine o_iaload X63 hx hZ (.int (983039 : Int32)) e63 V63_ (by decide) (by rfl) (hb hby at_219) (pc' := 220) rfl ?_
                              refine o_aload X63 hx (hb hby at_220) (pc' := 222) rfl rfl rfl ?_
                              refine o_iload X63 hx (hb hby at_222) (pc' := 224) rfl rfl ?_
                              refine o_iaload X63 hx hZ (.int (65536 : Int32)) e63 V64_b1 (by decide) (by rfl) (hb hby at_224) (pc' := 225) rfl ?_
                              refine o_isub X63 hx (hb hby at_225) (pc' := 226) rfl ?_
                              rw [show ((983039 : Int32) - (65536 : Int32)) = (917503 : Int32) from by decide]
                              refine o_iconst X63 hx (1 : Int32) (hb hby at_226) (pc' := 227) rfl (by decide) ?_
                              refine o_iadd X63 hx (hb hby at_227) (pc' := 228) rfl ?_
                              rw [show ((917503 : Int32) + (1 : Int32)) = (917504 : Int32) from by decide]
                              refine o_irem X63 hx (hb hby at_228) (pc' := 229) rfl (by decide) ?_
                              refine o_iadd X63 hx (hb hby at_229) (pc' := 230) rfl ?_
                              refine o_istore (x := (own_law_x43 q0 q1 q2 q3)) X63 hx (hb hby at_230) (pc' := 232) rfl (L' := #[.val (.int q0), .val (.int q1), .val (.int q2), .val (.int q3), .val (.ref b1), .val (.ref b33), .val (.int (14 : Int32)), .val (.int (own_law_x43 q0 q1 q2 q3)), .unset, .unset]) rfl ?_
                              refine o_iload X63 hx (hb hby at_232) (pc' := 234) rfl rfl ?_
                              refine o_callS X63 hx hZ 0 (argsL := [.int (own_law_x43 q0 q1 q2 q3)]) (rest := []) hown (w 9 _ rfl) (w 10 _ rfl) (w 11 _ rfl) (w 12 _ rfl) (by decide) (rm1 l Z a0 hw [] (own_law_x43 q0 q1 q2 q3) h63 n0 Z63 ) (by decide) (by decide) (cells' := 2) rfl (slots' := 30) rfl (by decide) (by decide) e63 (by rw [hml]; rfl) (lenOf pd_0 rfl) rfl rfl (hb hby at_234) (pc' := 237) rfl ?_
                              intro T248 v248 L248 X248 hQ248
                              obtain ⟨rfl, Nq248, e248⟩ := hQ248
                              have N248 := Fr.app N63 Nq248
                              show Go p e below _ (T248.setTop (mkF m 237 _ [.int (own_f1_ret (own_law_x43 q0 q1 q2 q3))]))
                              refine o_istore (x := (own_law_x44 q0 q1 q2 q3)) X248 hx (hb hby at_237) (pc' := 239) rfl (L' := #[.val (.int q0), .val (.int q1), .val (.int q2), .val (.int q3), .val (.ref b1), .val (.ref b33), .val (.int (14 : Int32)), .val (.int (own_law_x43 q0 q1 q2 q3)), .val (.int (own_law_x44 q0 q1 q2 q3)), .unset]) rfl ?_
                              refine o_iload X248 hx (hb hby at_239) (pc' := 241) rfl rfl ?_
                              refine o_bipush X248 hx (14 : Int32) (hb hby at_241) (pc' := 243) rfl (by decide) ?_
                              refine o_cmpY X248 hx (hb hby at_243) (flt (by decide : ¬ ((14 : Int32) < (14 : Int32)))).2.1 (by decide) (pc' := 296) (by decide) ?_
                              refine o_iloadN X248 hx (hb hby at_296) (pc' := 297) rfl rfl ?_
                              refine o_bipush X248 hx (65 : Int32) (hb hby at_297) (pc' := 299) rfl (by decide) ?_
                              have J327_87 : ∀ (Tj327_87 : State) (lj327_87 : List Loc) (Xj327_87 : Stand p l e room_1 s m #[(.int q0), (.int q1), (.int q2), (.int q3)] below meth c Tj327_87 lj327_87 2 30) (ej327_87 : Tj327_87.heap = h63) (Nj327_87 : Fr n0 lj327_87) (z0 : Int32), z0 = (own_law_v327_87_L8 q0 q1 q2 q3) → Go p e below OWE (Tj327_87.setTop (mkF m 327 #[.val (.int q0), .val (.int q1), .val (.int q2), .val (.int q3), .val (.ref b1), .val (.ref b33), .val (.int (14 : Int32)), .val (.int (own_law_x43 q0 q1 q2 q3)), .val (.int z0), .unset] [])) := by
                                intro Tj327_87 lj327_87 Xj327_87 ej327_87 Nj327_87 z0 yy0
                                subst yy0
                                refine o_iload Xj327_87 hx (hb hby at_327) (pc' := 329) rfl rfl ?_
                                rw [← hOWE]
                                exact o_retZ Xj327_87 hx (own_narZ (own_law_v327_87_L8_01 q0 q1 q2 q3)) hlk hrt (hb hby at_329) (by decide) (by decide) (by rw [ej327_87]; exact ⟨(by rw [own_law_ret, if_neg hs65, if_neg hs78, if_neg hs91, if_neg hs104, if_neg hs117, if_neg hs130, if_neg hs143, if_neg hs156, if_neg hs169, if_neg hs182, if_neg hs195, if_neg hs208, if_neg hs221, if_neg hs234, own_law_ret_j327_87]), Nj327_87⟩)
                              by_cases hc299_249 : q3 < (65 : Int32)
                              · refine o_cmpY X248 hx (hb hby at_299) (tlt hc299_249).1 (by decide) (pc' := 308) (by decide) ?_
                                refine o_iload X248 hx (hb hby at_308) (pc' := 310) rfl rfl ?_
                                have J325_88 : ∀ (Tj325_88 : State) (lj325_88 : List Loc) (Xj325_88 : Stand p l e room_1 s m #[(.int q0), (.int q1), (.int q2), (.int q3)] below meth c Tj325_88 lj325_88 2 30) (ej325_88 : Tj325_88.heap = h63) (Nj325_88 : Fr n0 lj325_88) (z0 : Int32), z0 = (own_law_v325_85_S0 q0 q1 q2 q3) → Go p e below OWE (Tj325_88.setTop (mkF m 325 #[.val (.int q0), .val (.int q1), .val (.int q2), .val (.int q3), .val (.ref b1), .val (.ref b33), .val (.int (14 : Int32)), .val (.int (own_law_x43 q0 q1 q2 q3)), .val (.int (own_law_x44 q0 q1 q2 q3)), .unset] [.int z0])) := by
                                  intro Tj325_88 lj325_88 Xj325_88 ej325_88 Nj325_88 z0 yy0
                                  subst yy0
                                  refine o_istore Xj325_88 hx (hb hby at_325) (pc' := 327) rfl (L' := #[.val (.int q0), .val (.int q1), .val (.int q2), .val (.int q3), .val (.ref b1), .val (.ref b33), .val (.int (14 : Int32)), .val (.int (own_law_x43 q0 q1 q2 q3)), .val (.int (own_law_v325_85_S0 q0 q1 q2 q3)), .unset]) rfl ?_
                                  exact J327_87 _ _ Xj325_88 ej325_88 Nj325_88 ((own_law_v325_85_S0 q0 q1 q2 q3)) (by rw [own_law_v327_87_L8, if_pos hc299_249])
                                by_cases hc310_250 : (own_law_x44 q0 q1 q2 q3) = (0 : Int32)
                                · refine o_ifY X248 hx (hb hby at_310) (teq hc310_250).1 (by decide) (pc' := 324) (by decide) ?_
                                  refine o_iconst X248 hx (0 : Int32) (hb hby at_324) (pc' := 325) rfl (by decide) ?_
                                  exact J325_88 _ _ X248 e248 N248 ((0 : Int32)) (by rw [own_law_v325_85_S0, if_pos hc310_250])
                                · refine o_ifN X248 hx (hb hby at_310) (feq hc310_250).1 (pc' := 313) rfl ?_
                                  refine o_iloadN X248 hx (hb hby at_313) (pc' := 314) rfl rfl ?_
                                  refine o_callS X248 hx hZ 0 (argsL := [.int q3]) (rest := []) hown (w 9 _ rfl) (w 10 _ rfl) (w 11 _ rfl) (w 12 _ rfl) (by decide) (rm1 l Z a0 hw [] q3 h63 n0 Z63 ) (by decide) (by decide) (cells' := 2) rfl (slots' := 30) rfl (by decide) (by decide) e248 (by rw [hml]; rfl) (lenOf pd_0 rfl) rfl rfl (hb hby at_314) (pc' := 317) rfl ?_
                                  intro T251 v251 L251 X251 hQ251
                                  obtain ⟨rfl, Nq251, e251⟩ := hQ251
                                  have N251 := Fr.app N248 Nq251
                                  show Go p e below _ (T251.setTop (mkF m 317 _ [.int (own_f1_ret q3)]))
                                  by_cases hc317_252 : (own_f1_ret q3) = (0 : Int32)
                                  · refine o_ifN X251 hx (hb hby at_317) (teq hc317_252).2 (pc' := 320) rfl ?_
                                    refine o_iconst X251 hx (1 : Int32) (hb hby at_320) (pc' := 321) rfl (by decide) ?_
                                    refine o_goto X251 hx (hb hby at_321) (by decide) (pc' := 325) (by decide) ?_
                                    exact J325_88 _ _ X251 e251 N251 ((1 : Int32)) (by rw [own_law_v325_85_S0, if_neg hc310_250, if_pos hc317_252])
                                  · refine o_ifY X251 hx (hb hby at_317) (feq hc317_252).2 (by decide) (pc' := 324) (by decide) ?_
                                    refine o_iconst X251 hx (0 : Int32) (hb hby at_324) (pc' := 325) rfl (by decide) ?_
                                    exact J325_88 _ _ X251 e251 N251 ((0 : Int32)) (by rw [own_law_v325_85_S0, if_neg hc310_250, if_neg hc317_252])
                              · refine o_cmpN X248 hx (hb hby at_299) (flt hc299_249).1 (pc' := 302) rfl ?_
                                refine o_iloadN X248 hx (hb hby at_302) (pc' := 303) rfl rfl ?_
                                refine o_ldcI X248 hx hZ (983039 : Int32) hown (w 7 _ rfl) (hb hby at_303) (pc' := 305) rfl ?_
                                by_cases hc305_253 : (983039 : Int32) < q3
                                · refine o_cmpN X248 hx (hb hby at_305) (tlt hc305_253).2.2.2 (pc' := 308) rfl ?_
                                  refine o_iload X248 hx (hb hby at_308) (pc' := 310) rfl rfl ?_
                                  have J325_89 : ∀ (Tj325_89 : State) (lj325_89 : List Loc) (Xj325_89 : Stand p l e room_1 s m #[(.int q0), (.int q1), (.int q2), (.int q3)] below meth c Tj325_89 lj325_89 2 30) (ej325_89 : Tj325_89.heap = h63) (Nj325_89 : Fr n0 lj325_89) (z0 : Int32), z0 = (own_law_v325_85_S0 q0 q1 q2 q3) → Go p e below OWE (Tj325_89.setTop (mkF m 325 #[.val (.int q0), .val (.int q1), .val (.int q2), .val (.int q3), .val (.ref b1), .val (.ref b33), .val (.int (14 : Int32)), .val (.int (own_law_x43 q0 q1 q2 q3)), .val (.int (own_law_x44 q0 q1 q2 q3)), .unset] [.int z0])) := by
                                    intro Tj325_89 lj325_89 Xj325_89 ej325_89 Nj325_89 z0 yy0
                                    subst yy0
                                    refine o_istore Xj325_89 hx (hb hby at_325) (pc' := 327) rfl (L' := #[.val (.int q0), .val (.int q1), .val (.int q2), .val (.int q3), .val (.ref b1), .val (.ref b33), .val (.int (14 : Int32)), .val (.int (own_law_x43 q0 q1 q2 q3)), .val (.int (own_law_v325_85_S0 q0 q1 q2 q3)), .unset]) rfl ?_
                                    exact J327_87 _ _ Xj325_89 ej325_89 Nj325_89 ((own_law_v325_85_S0 q0 q1 q2 q3)) (by rw [own_law_v327_87_L8, if_neg hc299_249, if_pos hc305_253])
                                  by_cases hc310_254 : (own_law_x44 q0 q1 q2 q3) = (0 : Int32)
                                  · refine o_ifY X248 hx (hb hby at_310) (teq hc310_254).1 (by decide) (pc' := 324) (by decide) ?_
                                    refine o_iconst X248 hx (0 : Int32) (hb hby at_324) (pc' := 325) rfl (by decide) ?_
                                    exact J325_89 _ _ X248 e248 N248 ((0 : Int32)) (by rw [own_law_v325_85_S0, if_pos hc310_254])
                                  · refine o_ifN X248 hx (hb hby at_310) (feq hc310_254).1 (pc' := 313) rfl ?_
                                    refine o_iloadN X248 hx (hb hby at_313) (pc' := 314) rfl rfl ?_
                                    refine o_callS X248 hx hZ 0 (argsL := [.int q3]) (rest := []) hown (w 9 _ rfl) (w 10 _ rfl) (w 11 _ rfl) (w 12 _ rfl) (by decide) (rm1 l Z a0 hw [] q3 h63 n0 Z63 ) (by decide) (by decide) (cells' := 2) rfl (slots' := 30) rfl (by decide) (by decide) e248 (by rw [hml]; rfl) (lenOf pd_0 rfl) rfl rfl (hb hby at_314) (pc' := 317) rfl ?_
                                    intro T255 v255 L255 X255 hQ255
                                    obtain ⟨rfl, Nq255, e255⟩ := hQ255
                                    have N255 := Fr.app N248 Nq255
                                    show Go p e below _ (T255.setTop (mkF m 317 _ [.int (own_f1_ret q3)]))
                                    by_cases hc317_256 : (own_f1_ret q3) = (0 : Int32)
                                    · refine o_ifN X255 hx (hb hby at_317) (teq hc317_256).2 (pc' := 320) rfl ?_
                                      refine o_iconst X255 hx (1 : Int32) (hb hby at_320) (pc' := 321) rfl (by decide) ?_
                                      refine o_goto X255 hx (hb hby at_321) (by decide) (pc' := 325) (by decide) ?_
                                      exact J325_89 _ _ X255 e255 N255 ((1 : Int32)) (by rw [own_law_v325_85_S0, if_neg hc310_254, if_pos hc317_256])
                                    · refine o_ifY X255 hx (hb hby at_317) (feq hc317_256).2 (by decide) (pc' := 324) (by decide) ?_
                                      refine o_iconst X255 hx (0 : Int32) (hb hby at_324) (pc' := 325) rfl (by decide) ?_
                                      exact J325_89 _ _ X255 e255 N255 ((0 : Int32)) (by rw [own_law_v325_85_S0, if_neg hc310_254, if_neg hc317_256])
                                · refine o_cmpY X248 hx (hb hby at_305) (flt hc305_253).2.2.2 (by decide) (pc' := 327) (by decide) ?_
                                  exact J327_87 _ _ X248 e248 N248 ((own_law_x44 q0 q1 q2 q3)) (by rw [own_law_v327_87_L8, if_neg hc299_249, if_neg hc305_253])
theorem own_e95 (x1 : Int32) : x1 = (95 : Int32) ↔ x1.toInt = 95 := by
  rw [← Int32.toInt_inj]
  exact Iff.rfl
theorem own_or (A R : Prop) [Decidable A] [Decidable R] [Decidable (A ∨ R)] (h : ¬ A) {z : Int32} (k : z = if R then (1 : Int32) else (0 : Int32)) : z = if A ∨ R then (1 : Int32) else (0 : Int32) := by
  rw [k]
  by_cases r : R
  · rw [if_pos r, if_pos (Or.inr r)]
  · rw [if_neg r, if_neg (fun q => q.elim h r)]
theorem own_orT (A R : Prop) [Decidable A] [Decidable R] [Decidable (A ∨ R)] (h : A) : (1 : Int32) = if A ∨ R then (1 : Int32) else (0 : Int32) := by rw [if_pos (Or.inl h)]
theorem own_r_f1_ret_m195 (x1 : Int32) : own_f1_ret_m195 x1 = (0 : Int32) := rfl
theorem own_r_f1_ret_m191 (x1 : Int32) : own_f1_ret_m191 x1 = (1 : Int32) := rfl
theorem own_r_f1_ret_m179 (x1 : Int32) : own_f1_ret_m179 x1 = if (65536 ≤ x1.toInt ∧ x1.toInt ≤ 983039) then (1 : Int32) else (0 : Int32) := by
  unfold own_f1_ret_m179
  rw [own_r_f1_ret_m195, own_r_f1_ret_m191]
  simp only [Int32.lt_iff_toInt_lt, own_e95, show (65536 : Int32).toInt = 65536 from by decide, show (983039 : Int32).toInt = 983039 from by decide]
  by_cases e0 : x1.toInt < 65536
  · rw [if_pos e0]
    exact (if_neg (by omega)).symm
  rw [if_neg e0]
  by_cases g0 : 983039 < x1.toInt
  · rw [if_pos g0]
    exact (if_neg (by omega)).symm
  rw [if_neg g0]
  exact (if_pos (by omega)).symm
theorem own_r_f1_ret_m167 (x1 : Int32) : own_f1_ret_m167 x1 = if (65008 ≤ x1.toInt ∧ x1.toInt ≤ 65533) ∨ (65536 ≤ x1.toInt ∧ x1.toInt ≤ 983039) then (1 : Int32) else (0 : Int32) := by
  unfold own_f1_ret_m167
  rw [own_r_f1_ret_m179, own_r_f1_ret_m191]
  simp only [Int32.lt_iff_toInt_lt, own_e95, show (65008 : Int32).toInt = 65008 from by decide, show (65533 : Int32).toInt = 65533 from by decide]
  by_cases e0 : x1.toInt < 65008
  · rw [if_pos e0]
    refine own_or _ _ (by omega) ?_
    rfl
  rw [if_neg e0]
  by_cases g0 : 65533 < x1.toInt
  · rw [if_pos g0]
    refine own_or _ _ (by omega) ?_
    rfl
  rw [if_neg g0]
  exact own_orT _ _ (by omega)
theorem own_r_f1_ret_m155 (x1 : Int32) : own_f1_ret_m155 x1 = if (63744 ≤ x1.toInt ∧ x1.toInt ≤ 64975) ∨ (65008 ≤ x1.toInt ∧ x1.toInt ≤ 65533) ∨ (65536 ≤ x1.toInt ∧ x1.toInt ≤ 983039) then (1 : Int32) else (0 : Int32) := by
  unfold own_f1_ret_m155
  rw [own_r_f1_ret_m167, own_r_f1_ret_m191]
  simp only [Int32.lt_iff_toInt_lt, own_e95, show (63744 : Int32).toInt = 63744 from by decide, show (64975 : Int32).toInt = 64975 from by decide]
  by_cases e0 : x1.toInt < 63744
  · rw [if_pos e0]
    refine own_or _ _ (by omega) ?_
    rfl
  rw [if_neg e0]
  by_cases g0 : 64975 < x1.toInt
  · rw [if_pos g0]
    refine own_or _ _ (by omega) ?_
    rfl
  rw [if_neg g0]
  exact own_orT _ _ (by omega)
theorem own_r_f1_ret_m142 (x1 : Int32) : own_f1_ret_m142 x1 = if (12289 ≤ x1.toInt ∧ x1.toInt ≤ 55295) ∨ (63744 ≤ x1.toInt ∧ x1.toInt ≤ 64975) ∨ (65008 ≤ x1.toInt ∧ x1.toInt ≤ 65533) ∨ (65536 ≤ x1.toInt ∧ x1.toInt ≤ 983039) then (1 : Int32) else (0 : Int32) := by
  unfold own_f1_ret_m142
  rw [own_r_f1_ret_m155, own_r_f1_ret_m191]
  simp only [Int32.lt_iff_toInt_lt, own_e95, show (12289 : Int32).toInt = 12289 from by decide, show (55295 : Int32).toInt = 55295 from by decide]
  by_cases e0 : x1.toInt < 12289
  · rw [if_pos e0]
    refine own_or _ _ (by omega) ?_
    rfl
  rw [if_neg e0]
  by_cases g0 : 55295 < x1.toInt
  · rw [if_pos g0]
    refine own_or _ _ (by omega) ?_
    rfl
  rw [if_neg g0]
  exact own_orT _ _ (by omega)
theorem own_r_f1_ret_m128 (x1 : Int32) : own_f1_ret_m128 x1 = if (11264 ≤ x1.toInt ∧ x1.toInt ≤ 12271) ∨ (12289 ≤ x1.toInt ∧ x1.toInt ≤ 55295) ∨ (63744 ≤ x1.toInt ∧ x1.toInt ≤ 64975) ∨ (65008 ≤ x1.toInt ∧ x1.toInt ≤ 65533) ∨ (65536 ≤ x1.toInt ∧ x1.toInt ≤ 983039) then (1 : Int32) else (0 : Int32) := by
  unfold own_f1_ret_m128
  rw [own_r_f1_ret_m142, own_r_f1_ret_m191]
  simp only [Int32.lt_iff_toInt_lt, own_e95, show (11264 : Int32).toInt = 11264 from by decide, show (12271 : Int32).toInt = 12271 from by decide]
  by_cases e0 : x1.toInt < 11264
  · rw [if_pos e0]
    refine own_or _ _ (by omega) ?_
    rfl
  rw [if_neg e0]
  by_cases g0 : 12271 < x1.toInt
  · rw [if_pos g0]
    refine own_or _ _ (by omega) ?_
    rfl
  rw [if_neg g0]
  exact own_orT _ _ (by omega)
theorem own_r_f1_ret_m114 (x1 : Int32) : own_f1_ret_m114 x1 = if (8304 ≤ x1.toInt ∧ x1.toInt ≤ 8591) ∨ (11264 ≤ x1.toInt ∧ x1.toInt ≤ 12271) ∨ (12289 ≤ x1.toInt ∧ x1.toInt ≤ 55295) ∨ (63744 ≤ x1.toInt ∧ x1.toInt ≤ 64975) ∨ (65008 ≤ x1.toInt ∧ x1.toInt ≤ 65533) ∨ (65536 ≤ x1.toInt ∧ x1.toInt ≤ 983039) then (1 : Int32) else (0 : Int32) := by
  unfold own_f1_ret_m114
  rw [own_r_f1_ret_m128, own_r_f1_ret_m191]
  simp only [Int32.lt_iff_toInt_lt, own_e95, show (8304 : Int32).toInt = 8304 from by decide, show (8591 : Int32).toInt = 8591 from by decide]
  by_cases e0 : x1.toInt < 8304
  · rw [if_pos e0]
    refine own_or _ _ (by omega) ?_
    rfl
  rw [if_neg e0]
  by_cases g0 : 8591 < x1.toInt
  · rw [if_pos g0]
    refine own_or _ _ (by omega) ?_
    rfl
  rw [if_neg g0]
  exact own_orT _ _ (by omega)
theorem own_r_f1_ret_m100 (x1 : Int32) : own_f1_ret_m100 x1 = if (8204 ≤ x1.toInt ∧ x1.toInt ≤ 8205) ∨ (8304 ≤ x1.toInt ∧ x1.toInt ≤ 8591) ∨ (11264 ≤ x1.toInt ∧ x1.toInt ≤ 12271) ∨ (12289 ≤ x1.toInt ∧ x1.toInt ≤ 55295) ∨ (63744 ≤ x1.toInt ∧ x1.toInt ≤ 64975) ∨ (65008 ≤ x1.toInt ∧ x1.toInt ≤ 65533) ∨ (65536 ≤ x1.toInt ∧ x1.toInt ≤ 983039) then (1 : Int32) else (0 : Int32) := by
  unfold own_f1_ret_m100
  rw [own_r_f1_ret_m114, own_r_f1_ret_m191]
  simp only [Int32.lt_iff_toInt_lt, own_e95, show (8204 : Int32).toInt = 8204 from by decide, show (8205 : Int32).toInt = 8205 from by decide]
  by_cases e0 : x1.toInt < 8204
  · rw [if_pos e0]
    refine own_or _ _ (by omega) ?_
    rfl
  rw [if_neg e0]
  by_cases g0 : 8205 < x1.toInt
  · rw [if_pos g0]
    refine own_or _ _ (by omega) ?_
    rfl
  rw [if_neg g0]
  exact own_orT _ _ (by omega)
theorem own_r_f1_ret_m86 (x1 : Int32) : own_f1_ret_m86 x1 = if (895 ≤ x1.toInt ∧ x1.toInt ≤ 8191) ∨ (8204 ≤ x1.toInt ∧ x1.toInt ≤ 8205) ∨ (8304 ≤ x1.toInt ∧ x1.toInt ≤ 8591) ∨ (11264 ≤ x1.toInt ∧ x1.toInt ≤ 12271) ∨ (12289 ≤ x1.toInt ∧ x1.toInt ≤ 55295) ∨ (63744 ≤ x1.toInt ∧ x1.toInt ≤ 64975) ∨ (65008 ≤ x1.toInt ∧ x1.toInt ≤ 65533) ∨ (65536 ≤ x1.toInt ∧ x1.toInt ≤ 983039) then (1 : Int32) else (0 : Int32) := by
  unfold own_f1_ret_m86
  rw [own_r_f1_ret_m100, own_r_f1_ret_m191]
  simp only [Int32.lt_iff_toInt_lt, own_e95, show (895 : Int32).toInt = 895 from by decide, show (8191 : Int32).toInt = 8191 from by decide]
  by_cases e0 : x1.toInt < 895
  · rw [if_pos e0]
    refine own_or _ _ (by omega) ?_
    rfl
  rw [if_neg e0]
  by_cases g0 : 8191 < x1.toInt
  · rw [if_pos g0]
    refine own_or _ _ (by omega) ?_
    rfl
  rw [if_neg g0]
  exact own_orT _ _ (by omega)
theorem own_r_f1_ret_m72 (x1 : Int32) : own_f1_ret_m72 x1 = if (880 ≤ x1.toInt ∧ x1.toInt ≤ 893) ∨ (895 ≤ x1.toInt ∧ x1.toInt ≤ 8191) ∨ (8204 ≤ x1.toInt ∧ x1.toInt ≤ 8205) ∨ (8304 ≤ x1.toInt ∧ x1.toInt ≤ 8591) ∨ (11264 ≤ x1.toInt ∧ x1.toInt ≤ 12271) ∨ (12289 ≤ x1.toInt ∧ x1.toInt ≤ 55295) ∨ (63744 ≤ x1.toInt ∧ x1.toInt ≤ 64975) ∨ (65008 ≤ x1.toInt ∧ x1.toInt ≤ 65533) ∨ (65536 ≤ x1.toInt ∧ x1.toInt ≤ 983039) then (1 : Int32) else (0 : Int32) := by
  unfold own_f1_ret_m72
  rw [own_r_f1_ret_m86, own_r_f1_ret_m191]
  simp only [Int32.lt_iff_toInt_lt, own_e95, show (880 : Int32).toInt = 880 from by decide, show (893 : Int32).toInt = 893 from by decide]
  by_cases e0 : x1.toInt < 880
  · rw [if_pos e0]
    refine own_or _ _ (by omega) ?_
    rfl
  rw [if_neg e0]
  by_cases g0 : 893 < x1.toInt
  · rw [if_pos g0]
    refine own_or _ _ (by omega) ?_
    rfl
  rw [if_neg g0]
  exact own_orT _ _ (by omega)
theorem own_r_f1_ret_m58 (x1 : Int32) : own_f1_ret_m58 x1 = if (248 ≤ x1.toInt ∧ x1.toInt ≤ 767) ∨ (880 ≤ x1.toInt ∧ x1.toInt ≤ 893) ∨ (895 ≤ x1.toInt ∧ x1.toInt ≤ 8191) ∨ (8204 ≤ x1.toInt ∧ x1.toInt ≤ 8205) ∨ (8304 ≤ x1.toInt ∧ x1.toInt ≤ 8591) ∨ (11264 ≤ x1.toInt ∧ x1.toInt ≤ 12271) ∨ (12289 ≤ x1.toInt ∧ x1.toInt ≤ 55295) ∨ (63744 ≤ x1.toInt ∧ x1.toInt ≤ 64975) ∨ (65008 ≤ x1.toInt ∧ x1.toInt ≤ 65533) ∨ (65536 ≤ x1.toInt ∧ x1.toInt ≤ 983039) then (1 : Int32) else (0 : Int32) := by
  unfold own_f1_ret_m58
  rw [own_r_f1_ret_m72, own_r_f1_ret_m191]
  simp only [Int32.lt_iff_toInt_lt, own_e95, show (248 : Int32).toInt = 248 from by decide, show (767 : Int32).toInt = 767 from by decide]
  by_cases e0 : x1.toInt < 248
  · rw [if_pos e0]
    refine own_or _ _ (by omega) ?_
    rfl
  rw [if_neg e0]
  by_cases g0 : 767 < x1.toInt
  · rw [if_pos g0]
    refine own_or _ _ (by omega) ?_
    rfl
  rw [if_neg g0]
  exact own_orT _ _ (by omega)
theorem own_r_f1_ret_m44 (x1 : Int32) : own_f1_ret_m44 x1 = if (216 ≤ x1.toInt ∧ x1.toInt ≤ 246) ∨ (248 ≤ x1.toInt ∧ x1.toInt ≤ 767) ∨ (880 ≤ x1.toInt ∧ x1.toInt ≤ 893) ∨ (895 ≤ x1.toInt ∧ x1.toInt ≤ 8191) ∨ (8204 ≤ x1.toInt ∧ x1.toInt ≤ 8205) ∨ (8304 ≤ x1.toInt ∧ x1.toInt ≤ 8591) ∨ (11264 ≤ x1.toInt ∧ x1.toInt ≤ 12271) ∨ (12289 ≤ x1.toInt ∧ x1.toInt ≤ 55295) ∨ (63744 ≤ x1.toInt ∧ x1.toInt ≤ 64975) ∨ (65008 ≤ x1.toInt ∧ x1.toInt ≤ 65533) ∨ (65536 ≤ x1.toInt ∧ x1.toInt ≤ 983039) then (1 : Int32) else (0 : Int32) := by
  unfold own_f1_ret_m44
  rw [own_r_f1_ret_m58, own_r_f1_ret_m191]
  simp only [Int32.lt_iff_toInt_lt, own_e95, show (216 : Int32).toInt = 216 from by decide, show (246 : Int32).toInt = 246 from by decide]
  by_cases e0 : x1.toInt < 216
  · rw [if_pos e0]
    refine own_or _ _ (by omega) ?_
    rfl
  rw [if_neg e0]
  by_cases g0 : 246 < x1.toInt
  · rw [if_pos g0]
    refine own_or _ _ (by omega) ?_
    rfl
  rw [if_neg g0]
  exact own_orT _ _ (by omega)
theorem own_r_f1_ret_m24 (x1 : Int32) : own_f1_ret_m24 x1 = if (95 ≤ x1.toInt ∧ x1.toInt ≤ 95) ∨ (192 ≤ x1.toInt ∧ x1.toInt ≤ 214) ∨ (216 ≤ x1.toInt ∧ x1.toInt ≤ 246) ∨ (248 ≤ x1.toInt ∧ x1.toInt ≤ 767) ∨ (880 ≤ x1.toInt ∧ x1.toInt ≤ 893) ∨ (895 ≤ x1.toInt ∧ x1.toInt ≤ 8191) ∨ (8204 ≤ x1.toInt ∧ x1.toInt ≤ 8205) ∨ (8304 ≤ x1.toInt ∧ x1.toInt ≤ 8591) ∨ (11264 ≤ x1.toInt ∧ x1.toInt ≤ 12271) ∨ (12289 ≤ x1.toInt ∧ x1.toInt ≤ 55295) ∨ (63744 ≤ x1.toInt ∧ x1.toInt ≤ 64975) ∨ (65008 ≤ x1.toInt ∧ x1.toInt ≤ 65533) ∨ (65536 ≤ x1.toInt ∧ x1.toInt ≤ 983039) then (1 : Int32) else (0 : Int32) := by
  unfold own_f1_ret_m24
  rw [own_r_f1_ret_m191, own_r_f1_ret_m44]
  simp only [Int32.lt_iff_toInt_lt, own_e95, show (95 : Int32).toInt = 95 from by decide, show (192 : Int32).toInt = 192 from by decide, show (214 : Int32).toInt = 214 from by decide]
  by_cases e0 : x1.toInt = 95
  · rw [if_pos e0]
    exact own_orT _ _ (by omega)
  rw [if_neg e0]
  refine own_or _ _ (by omega) ?_
  by_cases e1 : x1.toInt < 192
  · rw [if_pos e1]
    refine own_or _ _ (by omega) ?_
    rfl
  rw [if_neg e1]
  by_cases g1 : 214 < x1.toInt
  · rw [if_pos g1]
    refine own_or _ _ (by omega) ?_
    rfl
  rw [if_neg g1]
  exact own_orT _ _ (by omega)
theorem own_r_f1_ret_m12 (x1 : Int32) : own_f1_ret_m12 x1 = if (97 ≤ x1.toInt ∧ x1.toInt ≤ 122) ∨ (95 ≤ x1.toInt ∧ x1.toInt ≤ 95) ∨ (192 ≤ x1.toInt ∧ x1.toInt ≤ 214) ∨ (216 ≤ x1.toInt ∧ x1.toInt ≤ 246) ∨ (248 ≤ x1.toInt ∧ x1.toInt ≤ 767) ∨ (880 ≤ x1.toInt ∧ x1.toInt ≤ 893) ∨ (895 ≤ x1.toInt ∧ x1.toInt ≤ 8191) ∨ (8204 ≤ x1.toInt ∧ x1.toInt ≤ 8205) ∨ (8304 ≤ x1.toInt ∧ x1.toInt ≤ 8591) ∨ (11264 ≤ x1.toInt ∧ x1.toInt ≤ 12271) ∨ (12289 ≤ x1.toInt ∧ x1.toInt ≤ 55295) ∨ (63744 ≤ x1.toInt ∧ x1.toInt ≤ 64975) ∨ (65008 ≤ x1.toInt ∧ x1.toInt ≤ 65533) ∨ (65536 ≤ x1.toInt ∧ x1.toInt ≤ 983039) then (1 : Int32) else (0 : Int32) := by
  unfold own_f1_ret_m12
  rw [own_r_f1_ret_m24, own_r_f1_ret_m191]
  simp only [Int32.lt_iff_toInt_lt, own_e95, show (97 : Int32).toInt = 97 from by decide, show (122 : Int32).toInt = 122 from by decide]
  by_cases e0 : x1.toInt < 97
  · rw [if_pos e0]
    refine own_or _ _ (by omega) ?_
    rfl
  rw [if_neg e0]
  by_cases g0 : 122 < x1.toInt
  · rw [if_pos g0]
    refine own_or _ _ (by omega) ?_
    rfl
  rw [if_neg g0]
  exact own_orT _ _ (by omega)
theorem own_r_f1_ret (x1 : Int32) : own_f1_ret x1 = if (65 ≤ x1.toInt ∧ x1.toInt ≤ 90) ∨ (97 ≤ x1.toInt ∧ x1.toInt ≤ 122) ∨ (95 ≤ x1.toInt ∧ x1.toInt ≤ 95) ∨ (192 ≤ x1.toInt ∧ x1.toInt ≤ 214) ∨ (216 ≤ x1.toInt ∧ x1.toInt ≤ 246) ∨ (248 ≤ x1.toInt ∧ x1.toInt ≤ 767) ∨ (880 ≤ x1.toInt ∧ x1.toInt ≤ 893) ∨ (895 ≤ x1.toInt ∧ x1.toInt ≤ 8191) ∨ (8204 ≤ x1.toInt ∧ x1.toInt ≤ 8205) ∨ (8304 ≤ x1.toInt ∧ x1.toInt ≤ 8591) ∨ (11264 ≤ x1.toInt ∧ x1.toInt ≤ 12271) ∨ (12289 ≤ x1.toInt ∧ x1.toInt ≤ 55295) ∨ (63744 ≤ x1.toInt ∧ x1.toInt ≤ 64975) ∨ (65008 ≤ x1.toInt ∧ x1.toInt ≤ 65533) ∨ (65536 ≤ x1.toInt ∧ x1.toInt ≤ 983039) then (1 : Int32) else (0 : Int32) := by
  unfold own_f1_ret
  rw [own_r_f1_ret_m12, own_r_f1_ret_m191]
  simp only [Int32.lt_iff_toInt_lt, own_e95, show (65 : Int32).toInt = 65 from by decide, show (90 : Int32).toInt = 90 from by decide]
  by_cases e0 : x1.toInt < 65
  · rw [if_pos e0]
    refine own_or _ _ (by omega) ?_
    rfl
  rw [if_neg e0]
  by_cases g0 : 90 < x1.toInt
  · rw [if_pos g0]
    refine own_or _ _ (by omega) ?_
    rfl
  rw [if_neg g0]
  exact own_orT _ _ (by omega)
theorem own_yes (x1 : Int32) (h : (65 ≤ x1.toInt ∧ x1.toInt ≤ 90) ∨ (97 ≤ x1.toInt ∧ x1.toInt ≤ 122) ∨ (95 ≤ x1.toInt ∧ x1.toInt ≤ 95) ∨ (192 ≤ x1.toInt ∧ x1.toInt ≤ 214) ∨ (216 ≤ x1.toInt ∧ x1.toInt ≤ 246) ∨ (248 ≤ x1.toInt ∧ x1.toInt ≤ 767) ∨ (880 ≤ x1.toInt ∧ x1.toInt ≤ 893) ∨ (895 ≤ x1.toInt ∧ x1.toInt ≤ 8191) ∨ (8204 ≤ x1.toInt ∧ x1.toInt ≤ 8205) ∨ (8304 ≤ x1.toInt ∧ x1.toInt ≤ 8591) ∨ (11264 ≤ x1.toInt ∧ x1.toInt ≤ 12271) ∨ (12289 ≤ x1.toInt ∧ x1.toInt ≤ 55295) ∨ (63744 ≤ x1.toInt ∧ x1.toInt ≤ 64975) ∨ (65008 ≤ x1.toInt ∧ x1.toInt ≤ 65533) ∨ (65536 ≤ x1.toInt ∧ x1.toInt ≤ 983039)) : own_f1_ret x1 = 1 := by rw [own_r_f1_ret, if_pos h]
theorem own_no (x1 : Int32) (h : ¬ ((65 ≤ x1.toInt ∧ x1.toInt ≤ 90) ∨ (97 ≤ x1.toInt ∧ x1.toInt ≤ 122) ∨ (95 ≤ x1.toInt ∧ x1.toInt ≤ 95) ∨ (192 ≤ x1.toInt ∧ x1.toInt ≤ 214) ∨ (216 ≤ x1.toInt ∧ x1.toInt ≤ 246) ∨ (248 ≤ x1.toInt ∧ x1.toInt ≤ 767) ∨ (880 ≤ x1.toInt ∧ x1.toInt ≤ 893) ∨ (895 ≤ x1.toInt ∧ x1.toInt ≤ 8191) ∨ (8204 ≤ x1.toInt ∧ x1.toInt ≤ 8205) ∨ (8304 ≤ x1.toInt ∧ x1.toInt ≤ 8591) ∨ (11264 ≤ x1.toInt ∧ x1.toInt ≤ 12271) ∨ (12289 ≤ x1.toInt ∧ x1.toInt ≤ 55295) ∨ (63744 ≤ x1.toInt ∧ x1.toInt ≤ 64975) ∨ (65008 ≤ x1.toInt ∧ x1.toInt ≤ 65533) ∨ (65536 ≤ x1.toInt ∧ x1.toInt ≤ 983039))) : own_f1_ret x1 = 0 := by rw [own_r_f1_ret, if_neg h]
theorem own_in (a n d : Int32) (A N : Int) (ha : a.toInt = A) (hn : n.toInt = N) (h1 : 0 ≤ A) (h2 : 0 < N) (h3 : A + N ≤ 2000000) : A ≤ (a + ((d &&& (2147483647 : Int32)) % n)).toInt ∧ (a + ((d &&& (2147483647 : Int32)) % n)).toInt < A + N := by
  have e1 := c_and d 2147483647 (by decide)
  have e2 := (c_irem (d &&& 2147483647) n N hn).1 e1.1
  have e3 := c_iadd a ((d &&& 2147483647) % n)
  have e4 := rng32 (a + (d &&& 2147483647) % n)
  have e5 := Int.emod_nonneg (d &&& 2147483647).toInt (show N ≠ 0 by omega)
  have e6 := Int.emod_lt_of_pos (d &&& 2147483647).toInt h2
  rw [ha, e2] at e3
  omega
theorem own_case (a g c : Int32) (ha : own_f1_ret a = 1) (hg : own_f1_ret g = 0) :
    (if c < (65 : Int32) then (if (if own_f1_ret a = (0 : Int32) then (0 : Int32) else (if own_f1_ret g = (0 : Int32) then (1 : Int32) else (0 : Int32))) = (0 : Int32) then (0 : Int32) else (if own_f1_ret c = (0 : Int32) then (1 : Int32) else (0 : Int32))) else (if (983039 : Int32) < c then (if (if own_f1_ret a = (0 : Int32) then (0 : Int32) else (if own_f1_ret g = (0 : Int32) then (1 : Int32) else (0 : Int32))) = (0 : Int32) then (0 : Int32) else (if own_f1_ret c = (0 : Int32) then (1 : Int32) else (0 : Int32))) else (if own_f1_ret a = (0 : Int32) then (0 : Int32) else (if own_f1_ret g = (0 : Int32) then (1 : Int32) else (0 : Int32))))) = 1 := by
  have z : ¬ (1 : Int32) = 0 := by decide
  rw [ha, hg, if_neg z, if_pos rfl, if_neg z]
  by_cases h1 : c < (65 : Int32)
  · rw [if_pos h1, own_no c (by rw [Int32.lt_iff_toInt_lt, show (65 : Int32).toInt = 65 from by decide] at h1; omega), if_pos rfl]
  · rw [if_neg h1]
    by_cases h2 : (983039 : Int32) < c
    · rw [if_pos h2, own_no c (by rw [Int32.lt_iff_toInt_lt, show (983039 : Int32).toInt = 983039 from by decide] at h2; omega), if_pos rfl]
    · rw [if_neg h2]
theorem own_case' (a c : Int32) (ha : own_f1_ret a = 1) :
    (if c < (65 : Int32) then (if own_f1_ret a = (0 : Int32) then (0 : Int32) else (if own_f1_ret c = (0 : Int32) then (1 : Int32) else (0 : Int32))) else (if (983039 : Int32) < c then (if own_f1_ret a = (0 : Int32) then (0 : Int32) else (if own_f1_ret c = (0 : Int32) then (1 : Int32) else (0 : Int32))) else own_f1_ret a)) = 1 := by
  have z : ¬ (1 : Int32) = 0 := by decide
  rw [ha, if_neg z]
  by_cases h1 : c < (65 : Int32)
  · rw [if_pos h1, own_no c (by rw [Int32.lt_iff_toInt_lt, show (65 : Int32).toInt = 65 from by decide] at h1; omega), if_pos rfl]
  · rw [if_neg h1]
    by_cases h2 : (983039 : Int32) < c
    · rw [if_pos h2, own_no c (by rw [Int32.lt_iff_toInt_lt, show (983039 : Int32).toInt = 983039 from by decide] at h2; omega), if_pos rfl]
    · rw [if_neg h2]
theorem own_c0 (q0 q1 q2 q3 : Int32) : own_law_ret_j294_1 q0 q1 q2 q3 = 1 := by
  have h1 := own_in (65 : Int32) (26 : Int32) q1 65 26 (by decide) (by decide) (by decide) (by decide) (by decide)
  have h2 := own_in (91 : Int32) (4 : Int32) q2 91 4 (by decide) (by decide) (by decide) (by decide) (by decide)
  exact own_case ((65 : Int32) + ((q1 &&& (2147483647 : Int32)) % (26 : Int32))) ((91 : Int32) + ((q2 &&& (2147483647 : Int32)) % (4 : Int32))) q3 (own_yes _ (Or.inl ⟨by omega, by omega⟩)) (own_no _ (fun h => by rcases h with h | h | h | h | h | h | h | h | h | h | h | h | h | h | h <;> omega))
theorem own_c1 (q0 q1 q2 q3 : Int32) : own_law_ret_j294_7 q0 q1 q2 q3 = 1 := by
  have h1 := own_in (95 : Int32) (1 : Int32) q1 95 1 (by decide) (by decide) (by decide) (by decide) (by decide)
  have h2 := own_in (96 : Int32) (1 : Int32) q2 96 1 (by decide) (by decide) (by decide) (by decide) (by decide)
  exact own_case ((95 : Int32) + ((q1 &&& (2147483647 : Int32)) % (1 : Int32))) ((96 : Int32) + ((q2 &&& (2147483647 : Int32)) % (1 : Int32))) q3 (own_yes _ (Or.inr (Or.inr (Or.inl ⟨by omega, by omega⟩)))) (own_no _ (fun h => by rcases h with h | h | h | h | h | h | h | h | h | h | h | h | h | h | h <;> omega))
theorem own_c2 (q0 q1 q2 q3 : Int32) : own_law_ret_j294_13 q0 q1 q2 q3 = 1 := by
  have h1 := own_in (97 : Int32) (26 : Int32) q1 97 26 (by decide) (by decide) (by decide) (by decide) (by decide)
  have h2 := own_in (123 : Int32) (69 : Int32) q2 123 69 (by decide) (by decide) (by decide) (by decide) (by decide)
  exact own_case ((97 : Int32) + ((q1 &&& (2147483647 : Int32)) % (26 : Int32))) ((123 : Int32) + ((q2 &&& (2147483647 : Int32)) % (69 : Int32))) q3 (own_yes _ (Or.inr (Or.inl ⟨by omega, by omega⟩))) (own_no _ (fun h => by rcases h with h | h | h | h | h | h | h | h | h | h | h | h | h | h | h <;> omega))
theorem own_c3 (q0 q1 q2 q3 : Int32) : own_law_ret_j294_19 q0 q1 q2 q3 = 1 := by
  have h1 := own_in (192 : Int32) (23 : Int32) q1 192 23 (by decide) (by decide) (by decide) (by decide) (by decide)
  have h2 := own_in (215 : Int32) (1 : Int32) q2 215 1 (by decide) (by decide) (by decide) (by decide) (by decide)
  exact own_case ((192 : Int32) + ((q1 &&& (2147483647 : Int32)) % (23 : Int32))) ((215 : Int32) + ((q2 &&& (2147483647 : Int32)) % (1 : Int32))) q3 (own_yes _ (Or.inr (Or.inr (Or.inr (Or.inl ⟨by omega, by omega⟩))))) (own_no _ (fun h => by rcases h with h | h | h | h | h | h | h | h | h | h | h | h | h | h | h <;> omega))
theorem own_c4 (q0 q1 q2 q3 : Int32) : own_law_ret_j294_25 q0 q1 q2 q3 = 1 := by
  have h1 := own_in (216 : Int32) (31 : Int32) q1 216 31 (by decide) (by decide) (by decide) (by decide) (by decide)
  have h2 := own_in (247 : Int32) (1 : Int32) q2 247 1 (by decide) (by decide) (by decide) (by decide) (by decide)
  exact own_case ((216 : Int32) + ((q1 &&& (2147483647 : Int32)) % (31 : Int32))) ((247 : Int32) + ((q2 &&& (2147483647 : Int32)) % (1 : Int32))) q3 (own_yes _ (Or.inr (Or.inr (Or.inr (Or.inr (Or.inl ⟨by omega, by omega⟩)))))) (own_no _ (fun h => by rcases h with h | h | h | h | h | h | h | h | h | h | h | h | h | h | h <;> omega))
theorem own_c5 (q0 q1 q2 q3 : Int32) : own_law_ret_j294_31 q0 q1 q2 q3 = 1 := by
  have h1 := own_in (248 : Int32) (520 : Int32) q1 248 520 (by decide) (by decide) (by decide) (by decide) (by decide)
  have h2 := own_in (768 : Int32) (112 : Int32) q2 768 112 (by decide) (by decide) (by decide) (by decide) (by decide)
  exact own_case ((248 : Int32) + ((q1 &&& (2147483647 : Int32)) % (520 : Int32))) ((768 : Int32) + ((q2 &&& (2147483647 : Int32)) % (112 : Int32))) q3 (own_yes _ (Or.inr (Or.inr (Or.inr (Or.inr (Or.inr (Or.inl ⟨by omega, by omega⟩))))))) (own_no _ (fun h => by rcases h with h | h | h | h | h | h | h | h | h | h | h | h | h | h | h <;> omega))
theorem own_c6 (q0 q1 q2 q3 : Int32) : own_law_ret_j294_37 q0 q1 q2 q3 = 1 := by
  have h1 := own_in (880 : Int32) (14 : Int32) q1 880 14 (by decide) (by decide) (by decide) (by decide) (by decide)
  have h2 := own_in (894 : Int32) (1 : Int32) q2 894 1 (by decide) (by decide) (by decide) (by decide) (by decide)
  exact own_case ((880 : Int32) + ((q1 &&& (2147483647 : Int32)) % (14 : Int32))) ((894 : Int32) + ((q2 &&& (2147483647 : Int32)) % (1 : Int32))) q3 (own_yes _ (Or.inr (Or.inr (Or.inr (Or.inr (Or.inr (Or.inr (Or.inl ⟨by omega, by omega⟩)))))))) (own_no _ (fun h => by rcases h with h | h | h | h | h | h | h | h | h | h | h | h | h | h | h <;> omega))
theorem own_c7 (q0 q1 q2 q3 : Int32) : own_law_ret_j294_43 q0 q1 q2 q3 = 1 := by
  have h1 := own_in (895 : Int32) (7297 : Int32) q1 895 7297 (by decide) (by decide) (by decide) (by decide) (by decide)
  have h2 := own_in (8192 : Int32) (12 : Int32) q2 8192 12 (by decide) (by decide) (by decide) (by decide) (by decide)
  exact own_case ((895 : Int32) + ((q1 &&& (2147483647 : Int32)) % (7297 : Int32))) ((8192 : Int32) + ((q2 &&& (2147483647 : Int32)) % (12 : Int32))) q3 (own_yes _ (Or.inr (Or.inr (Or.inr (Or.inr (Or.inr (Or.inr (Or.inr (Or.inl ⟨by omega, by omega⟩))))))))) (own_no _ (fun h => by rcases h with h | h | h | h | h | h | h | h | h | h | h | h | h | h | h <;> omega))
theorem own_c8 (q0 q1 q2 q3 : Int32) : own_law_ret_j294_49 q0 q1 q2 q3 = 1 := by
  have h1 := own_in (8204 : Int32) (2 : Int32) q1 8204 2 (by decide) (by decide) (by decide) (by decide) (by decide)
  have h2 := own_in (8206 : Int32) (98 : Int32) q2 8206 98 (by decide) (by decide) (by decide) (by decide) (by decide)
  exact own_case ((8204 : Int32) + ((q1 &&& (2147483647 : Int32)) % (2 : Int32))) ((8206 : Int32) + ((q2 &&& (2147483647 : Int32)) % (98 : Int32))) q3 (own_yes _ (Or.inr (Or.inr (Or.inr (Or.inr (Or.inr (Or.inr (Or.inr (Or.inr (Or.inl ⟨by omega, by omega⟩)))))))))) (own_no _ (fun h => by rcases h with h | h | h | h | h | h | h | h | h | h | h | h | h | h | h <;> omega))
theorem own_c9 (q0 q1 q2 q3 : Int32) : own_law_ret_j294_55 q0 q1 q2 q3 = 1 := by
  have h1 := own_in (8304 : Int32) (288 : Int32) q1 8304 288 (by decide) (by decide) (by decide) (by decide) (by decide)
  have h2 := own_in (8592 : Int32) (2672 : Int32) q2 8592 2672 (by decide) (by decide) (by decide) (by decide) (by decide)
  exact own_case ((8304 : Int32) + ((q1 &&& (2147483647 : Int32)) % (288 : Int32))) ((8592 : Int32) + ((q2 &&& (2147483647 : Int32)) % (2672 : Int32))) q3 (own_yes _ (Or.inr (Or.inr (Or.inr (Or.inr (Or.inr (Or.inr (Or.inr (Or.inr (Or.inr (Or.inl ⟨by omega, by omega⟩))))))))))) (own_no _ (fun h => by rcases h with h | h | h | h | h | h | h | h | h | h | h | h | h | h | h <;> omega))
theorem own_c10 (q0 q1 q2 q3 : Int32) : own_law_ret_j294_61 q0 q1 q2 q3 = 1 := by
  have h1 := own_in (11264 : Int32) (1008 : Int32) q1 11264 1008 (by decide) (by decide) (by decide) (by decide) (by decide)
  have h2 := own_in (12272 : Int32) (17 : Int32) q2 12272 17 (by decide) (by decide) (by decide) (by decide) (by decide)
  exact own_case ((11264 : Int32) + ((q1 &&& (2147483647 : Int32)) % (1008 : Int32))) ((12272 : Int32) + ((q2 &&& (2147483647 : Int32)) % (17 : Int32))) q3 (own_yes _ (Or.inr (Or.inr (Or.inr (Or.inr (Or.inr (Or.inr (Or.inr (Or.inr (Or.inr (Or.inr (Or.inl ⟨by omega, by omega⟩)))))))))))) (own_no _ (fun h => by rcases h with h | h | h | h | h | h | h | h | h | h | h | h | h | h | h <;> omega))
theorem own_c11 (q0 q1 q2 q3 : Int32) : own_law_ret_j294_67 q0 q1 q2 q3 = 1 := by
  have h1 := own_in (12289 : Int32) (43007 : Int32) q1 12289 43007 (by decide) (by decide) (by decide) (by decide) (by decide)
  have h2 := own_in (55296 : Int32) (8448 : Int32) q2 55296 8448 (by decide) (by decide) (by decide) (by decide) (by decide)
  exact own_case ((12289 : Int32) + ((q1 &&& (2147483647 : Int32)) % (43007 : Int32))) ((55296 : Int32) + ((q2 &&& (2147483647 : Int32)) % (8448 : Int32))) q3 (own_yes _ (Or.inr (Or.inr (Or.inr (Or.inr (Or.inr (Or.inr (Or.inr (Or.inr (Or.inr (Or.inr (Or.inr (Or.inl ⟨by omega, by omega⟩))))))))))))) (own_no _ (fun h => by rcases h with h | h | h | h | h | h | h | h | h | h | h | h | h | h | h <;> omega))
theorem own_c12 (q0 q1 q2 q3 : Int32) : own_law_ret_j294_73 q0 q1 q2 q3 = 1 := by
  have h1 := own_in (63744 : Int32) (1232 : Int32) q1 63744 1232 (by decide) (by decide) (by decide) (by decide) (by decide)
  have h2 := own_in (64976 : Int32) (32 : Int32) q2 64976 32 (by decide) (by decide) (by decide) (by decide) (by decide)
  exact own_case ((63744 : Int32) + ((q1 &&& (2147483647 : Int32)) % (1232 : Int32))) ((64976 : Int32) + ((q2 &&& (2147483647 : Int32)) % (32 : Int32))) q3 (own_yes _ (Or.inr (Or.inr (Or.inr (Or.inr (Or.inr (Or.inr (Or.inr (Or.inr (Or.inr (Or.inr (Or.inr (Or.inr (Or.inl ⟨by omega, by omega⟩)))))))))))))) (own_no _ (fun h => by rcases h with h | h | h | h | h | h | h | h | h | h | h | h | h | h | h <;> omega))
theorem own_c13 (q0 q1 q2 q3 : Int32) : own_law_ret_j294_79 q0 q1 q2 q3 = 1 := by
  have h1 := own_in (65008 : Int32) (526 : Int32) q1 65008 526 (by decide) (by decide) (by decide) (by decide) (by decide)
  have h2 := own_in (65534 : Int32) (2 : Int32) q2 65534 2 (by decide) (by decide) (by decide) (by decide) (by decide)
  exact own_case ((65008 : Int32) + ((q1 &&& (2147483647 : Int32)) % (526 : Int32))) ((65534 : Int32) + ((q2 &&& (2147483647 : Int32)) % (2 : Int32))) q3 (own_yes _ (Or.inr (Or.inr (Or.inr (Or.inr (Or.inr (Or.inr (Or.inr (Or.inr (Or.inr (Or.inr (Or.inr (Or.inr (Or.inr (Or.inl ⟨by omega, by omega⟩))))))))))))))) (own_no _ (fun h => by rcases h with h | h | h | h | h | h | h | h | h | h | h | h | h | h | h <;> omega))
theorem own_c14 (q0 q1 q2 q3 : Int32) : own_law_ret_j327_87 q0 q1 q2 q3 = 1 := by
  have h1 := own_in (65536 : Int32) (917504 : Int32) q1 65536 917504 (by decide) (by decide) (by decide) (by decide) (by decide)
  exact own_case' ((65536 : Int32) + ((q1 &&& (2147483647 : Int32)) % (917504 : Int32))) q3 (own_yes _ (Or.inr (Or.inr (Or.inr (Or.inr (Or.inr (Or.inr (Or.inr (Or.inr (Or.inr (Or.inr (Or.inr (Or.inr (Or.inr (Or.inr (⟨by omega, by omega⟩))))))))))))))))
theorem own_main (q0 q1 q2 q3 : Int32) : own_law_ret q0 q1 q2 q3 = 1 := by
  unfold own_law_ret
  rw [own_c0, own_c1, own_c2, own_c3, own_c4, own_c5, own_c6, own_c7, own_c8, own_c9, own_c10, own_c11, own_c12, own_c13, own_c14]
  simp only [ite_self]
set_option maxRecDepth 65536 in
set_option maxHeartbeats 40000000 in
theorem comes_1 {Post : Tables → Env → Array Value → State → Outcome → State → Prop} (hpost : ∀ tb e args s v u, (limb_1_1.after args s (.returned v) u = true ∧ limb_1_2.after args s (.returned v) u = true ∧ True) → FrameEnd s (.returned v) u (Jvm.fieldLocs frame_1_writes args s ++ Jvm.arrayLocs frame_1_arrays args s ++ Jvm.staticLocs frame_1_statics s) 16 128 → Post tb e args s (.returned v) u) :
    ArmFor flags0 classFile x code maxLocals ret World_1 tables_1 room_1 Calls_1 rest_1 Pre_1 Post := by
  intro l hfl _ _ p e ha hc hk s m args below hf hA hF happ hP
  obtain ⟨hcalls, hrest, hpre⟩ := hP
  obtain ⟨-, -, -, hnamed, -, -, -, hat⟩ := (Spec.applies_iff hf).mp happ
  obtain ⟨hg, hn⟩ := and_e (Cond.before_iff.mp (show (Jvm.Cond.and given_1 narrow_1).before args s = true from hpre))
  obtain ⟨hcnt, r0⟩ := and_e hg
  obtain ⟨a0, r1⟩ := and_e r0
  obtain ⟨a1, r2⟩ := and_e r1
  obtain ⟨a2, r3⟩ := and_e r2
  obtain ⟨w0, w1, w2, w3, rfl⟩ : ∃ w0 w1 w2 w3 : Value, args = #[w0, w1, w2, w3] := by
    have hs : args.size = 4 := by simpa [Cond.value, given_1] using hcnt
    obtain ⟨L⟩ := args
    match L, hs with
    | [w0, w1, w2, w3], _ => exact ⟨w0, w1, w2, w3, rfl⟩
  have hw := fun d (hd : d ∈ tables_1) => atoms_spec (ws := Jvm.Cond.code x code maxLocals ret :: tables_1) hat d (List.mem_cons_of_mem _ hd)
  obtain ⟨q0, y0⟩ := is_v a0
  obtain rfl : w0 = (.int q0) := Option.some.inj y0
  obtain ⟨q1, y1⟩ := is_v a1
  obtain rfl : w1 = (.int q1) := Option.some.inj y1
  obtain ⟨q2, y2⟩ := is_v a2
  obtain rfl : w2 = (.int q2) := Option.some.inj y2
  obtain ⟨q3, y3⟩ := is_v r3
  obtain rfl : w3 = (.int q3) := Option.some.inj y3
  obtain ⟨n, o, h1, h2, h3, _, L, rfl, ⟨rfl, N⟩, hq⟩ := rm0 l s _ hw tables_1 q0 q1 q2 q3 s.heap s.heap.size (Nat.le_refl _) p e ha hc hk s m _ below hf ((Spec.applies_iff_loose hf).mp happ).1 ⟨rfl, State.Warmed39.refl s, rfl⟩ trivial
  refine ⟨n, _, h1, h2, h3, hpost _ _ _ _ _ _ ⟨Cond.after_iff.mpr rfl, Cond.after_iff.mpr (eq_i res_at (Term.int_eval (1)) (congrArg Value.int (own_main q0 q1 q2 q3))), trivial⟩ ⟨hq.1, hq.2.1, (hq.2.2.sift fun y hy => Or.inr (N y hy)).mono (by decide) (by decide)⟩⟩
theorem main_1_1 : Claimed_1_1 := comes_1 fun _ _ _ _ _ _ h hF => ⟨h.1, hF⟩
theorem main_1_2 : Claimed_1_2 := comes_1 fun _ _ _ _ _ _ h hF => ⟨h.2.1, hF⟩
end Jvm.Pilot.@@N@@
namespace Jvm.Pilot.@@N@@
open Jvm Jvm.ClassFile Sem Op Lib Jvm.Free Jvm.Stand Jvm.Pilot.@@N@@.Jvm.D
/-! MADE BY PROGRAM (witnessworld.py) out of the Statement's table words and the real class files: 9 classes; the members and pool entries that the words name. The judged class is class 1, her method 1. -/
namespace start1
open Jvm.ClassFile
def u (s : String) : CpInfo := .utf8 (stringToUtf16 s)
/-- a pool by its gaps: so many unusable entries, then the entry; so many at the end -/
def gap : Nat → List CpInfo → List CpInfo
  | 0, r => r
  | n + 1, r => .unusable :: gap n r
def poolList (es : List (Nat × CpInfo)) (last : Nat) : List CpInfo := es.foldr (fun e r => gap e.1 (e.2 :: r)) (gap last [])
def pool (es : List (Nat × CpInfo)) (last : Nat) : Array CpInfo := ⟨poolList es last⟩
def fileOf (pool : Array CpInfo) (this : Nat) (attrs : Array Attribute := #[]) (ms : Array MethodInfo := #[]) (fl : Nat := 33) (sup : Nat := 0) (ifs : Array Nat := #[]) (fds : Array FieldInfo := #[]) : ClassFile where
  minorVersion := 0
  majorVersion := 65
  constantPool := pool
  accessFlags := fl
  thisClass := this
  superClass := sup
  interfaces := ifs
  fields := fds
  methods := ms
  attributes := attrs
def plain (name : String) (sup : Option ClassId) : Class where
  name := name
  kind := .ordinary
  loader := none
  accessFlags := 33
  super := sup
  interfaces := #[]
  cf := none
  fields := #[]
  methods := #[]
  instanceTypes := #[]
  staticTypes := #[]
  resolved := #[]
  callSites := []
  init := .initialized
  statics := none
  mirror := none

def pool0 : Array CpInfo := pool [(5, u "<init>"), (0, u "()V"), (1, .class_ 10), (1, u "java/lang/Object")] 113

def k0m0 : Method := { name := "<init>", desc := "()V", sig := { parameters := [], returnType := none }, accessFlags := 1, code := none }
/-- java/lang/Object -/
def k0 : Class := { plain "java/lang/Object" none with
  accessFlags := 33
  interfaces := #[]
  cf := some (fileOf pool0 8 #[] #[{ accessFlags := 1, nameIndex := 5, descriptorIndex := 6, attributes := #[] }] 33 0 #[] #[])
  fields := #[]
  methods := #[k0m0]
  instanceTypes := #[]
  staticTypes := #[]
  resolved := Array.replicate 124 none
  statics := none }

def pool1 : Array CpInfo := pool [(2, .class_ 4), (1, u "java/lang/Object"), (0, u "<init>"), (0, u "()V"), (0, .integer 63744), (0, .integer 65008), (0, .integer 65536), (0, .integer 55295), (0, .integer 64975), (0, .integer 65533), (0, .integer 983039), (0, .integer 2147483647), (0, .methodref 16 17), (0, .class_ 18), (0, .nameAndType 19 20), (0, u "com/example/canopyguard/canopyguard/xml/XmlNames"), (0, u "isNcNameStart"), (0, u "(I)Z"), (0, .class_ 22), (0, u "com/example/canopyguard/canopyguard/xml/XmlNamesIsNcNameStartPinLaw"), (2, u "law"), (0, u "(IIII)Z")] 5

def k1m0 : Method := { name := "<init>", desc := "()V", sig := { parameters := [], returnType := none }, accessFlags := 2, code := none }
def k1c1 : Code := { maxStack := 5, maxLocals := 10, code := code, exceptionTable := #[], attributes := #[] }
def k1m1 : Method := { name := "law", desc := "(IIII)Z", sig := { parameters := [.int, .int, .int, .int], returnType := some .boolean }, accessFlags := 9, code := some k1c1 }
/-- com/example/canopyguard/canopyguard/xml/XmlNamesIsNcNameStartPinLaw -/
def k1 : Class := { plain "com/example/canopyguard/canopyguard/xml/XmlNamesIsNcNameStartPinLaw" (some 0) with
  accessFlags := 49
  interfaces := #[]
  cf := some (fileOf pool1 21 #[] #[{ accessFlags := 2, nameIndex := 5, descriptorIndex := 6, attributes := #[] }, { accessFlags := 9, nameIndex := 25, descriptorIndex := 26, attributes := #[] }] 49 2 #[] #[])
  fields := #[]
  methods := #[k1m0, k1m1]
  instanceTypes := #[]
  staticTypes := #[]
  resolved := Array.replicate 32 none
  statics := none }

def pool2 : Array CpInfo := pool [(2, .class_ 4), (1, u "java/lang/Object"), (0, u "<init>"), (0, u "()V"), (7, .class_ 16), (1, u "com/example/canopyguard/canopyguard/xml/XmlNames"), (12, u "isNcNameStart"), (0, u "(I)Z"), (8, .integer 55295), (0, .integer 63744), (0, .integer 64975), (0, .integer 65008), (0, .integer 65533), (0, .integer 65536), (0, .integer 983039)] 38

def k2m0 : Method := { name := "<init>", desc := "()V", sig := { parameters := [], returnType := none }, accessFlags := 2, code := none }
def k2c1 : Code := { maxStack := 2, maxLocals := 1, code := prog_135_method_4_code, exceptionTable := #[], attributes := #[] }
def k2m1 : Method := { name := "isNcNameStart", desc := "(I)Z", sig := { parameters := [.int], returnType := some .boolean }, accessFlags := 9, code := some k2c1 }
/-- com/example/canopyguard/canopyguard/xml/XmlNames -/
def k2 : Class := { plain "com/example/canopyguard/canopyguard/xml/XmlNames" (some 0) with
  accessFlags := 49
  interfaces := #[]
  cf := some (fileOf pool2 14 #[] #[{ accessFlags := 2, nameIndex := 5, descriptorIndex := 6, attributes := #[] }, { accessFlags := 9, nameIndex := 29, descriptorIndex := 30, attributes := #[] }] 49 2 #[] #[])
  fields := #[]
  methods := #[k2m0, k2m1]
  instanceTypes := #[]
  staticTypes := #[]
  resolved := Array.replicate 84 none
  statics := none }

def pool3 : Array CpInfo := pool [(1, u "java/lang/Cloneable"), (0, .class_ 1), (0, u "java/lang/Object"), (0, .class_ 3)] 3

/-- java/lang/Cloneable -/
def k3 : Class := { plain "java/lang/Cloneable" (some 0) with
  accessFlags := 1537
  interfaces := #[]
  cf := some (fileOf pool3 2 #[] #[] 1537 4 #[] #[])
  fields := #[]
  methods := #[]
  instanceTypes := #[]
  staticTypes := #[]
  resolved := Array.replicate 8 none
  statics := none }

def pool4 : Array CpInfo := pool [(1, u "java/io/Serializable"), (0, .class_ 1), (0, u "java/lang/Object"), (0, .class_ 3)] 3

/-- java/io/Serializable -/
def k4 : Class := { plain "java/io/Serializable" (some 0) with
  accessFlags := 1537
  interfaces := #[]
  cf := some (fileOf pool4 2 #[] #[] 1537 4 #[] #[])
  fields := #[]
  methods := #[]
  instanceTypes := #[]
  staticTypes := #[]
  resolved := Array.replicate 8 none
  statics := none }

/-- the primitive byte -/
def k5 : Class := { plain "byte" none with kind := .primitive 'B', accessFlags := 0x411 }
/-- [B -/
def k6 : Class := { plain "[B" (some 0) with kind := .array 5 .byte, interfaces := #[3, 4], accessFlags := 1041 }

/-- the primitive int -/
def k7 : Class := { plain "int" none with kind := .primitive 'I', accessFlags := 0x411 }
/-- [I -/
def k8 : Class := { plain "[I" (some 0) with kind := .array 7 .int, interfaces := #[3, 4], accessFlags := 1041 }

def heap : Heap := #[]
def classes : Array Class := #[k0, k1, k2, k3, k4, k5, k6, k7, k8]
def interned : List (Array UInt16 × Addr) := []
def slotsUsed : Nat := 0
def theMethod : MethodId := ⟨1, 1⟩
def args0 : Array Value := #[.int 5, .int 7, .int 5, .int 7]
def aboutOver (below : List Frame) : State where
  vm := { classes := classes, interned := interned.toArray }
  heap := heap
  slotsUsed := slotsUsed
  threads := #[{ frames := .invoking theMethod args0 :: below }]
def below0 : List Frame := [.native { method := ⟨0, 0⟩, args := #[] }]
def about1 : State := aboutOver below0
def p0 : Program := .bare "" "" ""
def e0 : Env := launch0.env 0 0 0
theorem w_frames : about1.frames = Frame.invoking theMethod args0 :: below0 := rfl
set_option maxRecDepth 65536 in
theorem w_args : argsFit about1.vm theMethod args0 = true := by decide +kernel
set_option maxRecDepth 65536 in
theorem w_heap : heapFits about1 = true := by decide +kernel
set_option maxRecDepth 65536 in
theorem w_runnable : about1.curStatus? = some .runnable := by decide +kernel
set_option maxRecDepth 65536 in
theorem w_alone : about1.alone = true := by decide +kernel
set_option maxRecDepth 65536 in
theorem w_named : about1.methodNamed? x = some theMethod := by decide +kernel
set_option maxRecDepth 65536 in
theorem w_hears : about1.hears theMethod below0 = true := by decide +kernel
set_option maxRecDepth 65536 in
theorem w_ripe : about1.ripe theMethod args0 below0 = true := by decide +kernel
theorem w_running : about1.status = .running := rfl
set_option maxRecDepth 65536 in
theorem w_room : about1.hasRoom e0.platform room_1 = true :=
  launch0.hasRoom_least _ room_1 (by decide +kernel) (by decide +kernel) (by decide +kernel) (by decide +kernel) (by decide +kernel) (by decide +kernel)
theorem allAtoms_all (ts : List Jvm.Cond) (a : Array Jvm.Value) (st : Jvm.State) : (allAtoms ts).before a st = ts.all (fun c => c.before a st) := by
  induction ts with
  | nil => rfl
  | cons c t ih =>
    show (Jvm.Cond.and c (allAtoms t)).before a st = _
    rw [Jvm.Cond.before_and, ih, List.all_cons]
def words1 : List Jvm.Cond := Jvm.Cond.code x code maxLocals ret :: tables_1
/-- a 'code' word, met by the world's own term for the bytes: nothing is compared byte by byte -/
theorem code_word {y : MethodName} {bytes : ByteArray} {mx : Nat} {rt : Option FieldType} {a : Array Value} {s : State} {m : MethodId} {meth : Method} {c : Code} (h1 : s.methodNamed? y = some m) (h2 : s.vm.method? m = some meth) (h3 : meth.code = some c) (h4 : c.code = bytes)
    (h5 : (c.maxLocals == mx && c.exceptionTable.isEmpty && decide (c.maxStack ≤ mostOperands) && decide (meth.sig.returnType = rt) && !meth.locks && decide (parseMethodDescriptor y.desc = some meth.sig)) = true) : (Jvm.Cond.code y bytes mx rt).before a s = true := by
  simp only [Bool.and_eq_true, beq_iff_eq, Bool.not_eq_true', decide_eq_true_eq] at h5
  obtain ⟨⟨⟨⟨⟨g1, g2⟩, g3⟩, g4⟩, g5⟩, g6⟩ := h5
  simp [Cond.before, Cond.holds, Cond.value, h1, h2, h3, h4, g1, g2, g3, g4, g5, g6]
def isCode : Jvm.Cond → Bool
  | .code _ _ _ _ => true
  | _ => false
theorem all_split {L : List Jvm.Cond} {P : Jvm.Cond → Bool} (h1 : L.all (fun c => isCode c || P c) = true) (h2 : ∀ c ∈ L.filter isCode, P c = true) : L.all P = true := by
  refine List.all_eq_true.mpr fun c hc => ?_
  have h := List.all_eq_true.mp h1 c hc
  rcases Bool.eq_false_or_eq_true (isCode c) with hi | hi
  · exact h2 c (List.mem_filter.mpr ⟨hc, hi⟩)
  · simpa [hi] using h
set_option maxRecDepth 65536 in
theorem w_c0 : (Jvm.Cond.code x code maxLocals ret).before args0 about1 = true := code_word (m := ⟨1, 1⟩) (meth := k1m1) (c := k1c1) (by decide +kernel) rfl rfl rfl (by decide +kernel)
set_option maxRecDepth 65536 in
theorem w_c1 : (Jvm.Cond.code ({ cls := "com/example/canopyguard/canopyguard/xml/XmlNames", name := "isNcNameStart", desc := "(I)Z" } : Jvm.MethodName) prog_135_method_4_code (1 : Nat) (Option.some Jvm.ClassFile.FieldType.boolean)).before args0 about1 = true := code_word (m := ⟨2, 1⟩) (meth := k2m1) (c := k2c1) (by decide +kernel) rfl rfl rfl (by decide +kernel)
def codes1 : List Jvm.Cond := [Jvm.Cond.code x code maxLocals ret, Jvm.Cond.code ({ cls := "com/example/canopyguard/canopyguard/xml/XmlNames", name := "isNcNameStart", desc := "(I)Z" } : Jvm.MethodName) prog_135_method_4_code (1 : Nat) (Option.some Jvm.ClassFile.FieldType.boolean)]
set_option maxRecDepth 65536 in
theorem codes_eq : words1.filter isCode = codes1 := rfl
theorem w_codes : ∀ c ∈ words1.filter isCode, c.before args0 about1 = true := by
  rw [codes_eq]
  intro c hc
  simp only [codes1, List.mem_cons, List.not_mem_nil, or_false] at hc
  rcases hc with rfl | rfl
  · exact w_c0
  · exact w_c1
set_option maxRecDepth 65536 in
theorem w_t1 : words1.all (fun c => isCode c || c.before args0 about1) = true := by decide +kernel
theorem w_tables : (allAtoms (Jvm.Cond.code x code maxLocals ret :: tables_1)).before args0 about1 = true := by
  rw [allAtoms_all]
  show words1.all (fun c => c.before args0 about1) = true
  refine all_split ?_ w_codes
  rw [w_t1]
set_option maxRecDepth 65536 in
theorem w_case : (Jvm.Cond.and given_1 narrow_1).before args0 about1 = true := by decide +kernel
theorem w_applies : (headSpec (Jvm.Cond.code x code maxLocals ret :: tables_1) room_1).applies x e0.platform about1 = true :=
  (Spec.applies_iff w_frames).mpr ⟨w_running, w_runnable, w_alone, w_named, w_hears, w_ripe, w_room, w_tables⟩
theorem atStart : AtStart classFile x code maxLocals ret World_1 tables_1 room_1 Calls_1 rest_1 Pre_1 launch0 p0 e0 about1 theMethod args0 below0 :=
  ⟨lists_1, trivial, launch0.admits_env _ _ _, launch0.least_env, fairChoices_fair.cas, fairChoices_fair.clock, w_frames, w_args, w_heap, w_applies, trivial, trivial, w_case⟩
end start1
theorem witness_1 : WitnessClaimed_1 := ⟨start1.p0, start1.e0, start1.about1, start1.theMethod, start1.args0, start1.below0, start1.atStart⟩
end Jvm.Pilot.@@N@@
