import JvmDerived
import JvmDerived.Pilot.@@N@@Statement
import JvmDerived.Pilot.@@N@@Code
set_option linter.unusedVariables false
set_option linter.unusedSimpArgs false
namespace Jvm.Pilot.@@N@@
open Jvm Jvm.ClassFile Sem Op Lib Jvm.Free Jvm.Stand Jvm.LawKit Jvm.RoadKit Bundle Jvm.Pilot.@@N@@.Jvm.D
/-- from T with the frame fr on top the invocation ends; Q holds of what it returned, of the heap and of the written places; kc cells and ks slots at most are new -/
def Go (p : Program) (e : Env) (below : List Frame) (s : State) (kc ks : Nat) (Q : Option Value → Heap → List Loc → Prop) (T : State) (fr : JFrame) : Prop :=
  ∃ s₂ o, Steps p.tables e below (T.setTop fr) s₂ ∧ s₂.status = .running ∧ Ended s₂ below o ∧ ∃ v L, o = .returned v ∧ Q v s₂.heap L ∧ FrameEnd s o s₂ L kc ks
section OwnKit
variable {p : Program} {l : Launch} {e : Env} {R : Room} {s : State} {m : MethodId} {args : Array Value} {below : List Frame} {meth : Method} {c : Code} {T T' : State} {locs : List Loc} {cells slots : Nat} {Z : State} {a0 : Array Value} {h : Heap} {kc ks : Nat} {Q : Option Value → Heap → List Loc → Prop}
theorem own_st {fr fr' : JFrame} (st : ∀ t, Steps p.tables e below (T'.setTop fr') t → Steps p.tables e below (T.setTop fr) t) (k : Go p e below s kc ks Q T' fr') : Go p e below s kc ks Q T fr := by
  obtain ⟨s₂, o, h1, h2⟩ := k
  exact ⟨s₂, o, st _ h1, h2⟩
theorem own_tr {fr fr' : JFrame} (st : Steps p.tables e below (T.setTop fr) (T'.setTop fr')) (k : Go p e below s kc ks Q T' fr') : Go p e below s kc ks Q T fr :=
  own_st (fun _ q => st.trans q) k
theorem own_met {y : MethodName} {bytes : ByteArray} {maxL : Nat} {ret : Option FieldType} {ws : List Jvm.Cond} {rm : Room} {as' : Array Value} {Ls : Array Slot} {h0 : Heap} (hn : plainFor y = true) (hef : ∀ m : MethodId, entryFrame m as' maxL = mkF m 0 Ls [])
    (body : ∀ (p : Program) (e : Env) (s : State) (m : MethodId) (below : List Frame) (meth : Method) (c : Code) (s₁ : State), p.tables.exec = Jvm.exec → c.code = bytes → c.maxLocals = maxL → meth.sig.returnType = ret → meth.locks = false → Z.Warmed39 s.vm → s.vm.findClass y.cls = some m.cls → meth.name = y.name →
      Stand p l e rm s m as' below meth c s₁ [] 0 0 → s₁.heap = h0 → s.heap = h0 → Go p e below s rm.cells rm.slots Q s₁ (mkF m 0 Ls [])) :
    MetFree l y (head1 (Jvm.Cond.code y bytes maxL ret :: ws) rm) (fun a U => a = as' ∧ Z.Warmed39 U.vm ∧ U.heap = h0) (fun _ _ _ _ _ => True) (fun _ U o U' => ∃ v L, o = .returned v ∧ Q v U'.heap L ∧ FrameEnd U o U' L rm.cells rm.slots) := by
  refine MetFree.of_bodySF hn hisR ?_
  intro p e s m args below meth c s₁ Bd hml0 hP hK
  obtain ⟨rfl, hZ, hh⟩ := hP
  have hg := body p e s m below meth c s₁ Bd.exec Bd.bytes hml0 Bd.returns Bd.notSynchronized hZ (findClass_of_methodNamed Bd.named) (name_of_methodNamed Bd.named Bd.method).1 (Stand.of_body Bd) (by rw [← hh, Bd.state]; rfl) hh
  unfold Go at hg
  rw [← hef m] at hg
  exact hg
theorem own_ret (X : Stand p l e R s m args below meth c T locs cells slots) (hx : p.tables.exec = Jvm.exec) (hlk : meth.locks = false) {pc : Nat} {Ls : Array Slot} {w : Value} {t : FieldType} {i : Instr} {rest : List Value} (hret : meth.sig.returnType = some t) (hn : narrow t w = w)
    (hi : (i = .ireturn ∧ (t = .int ∨ t = .boolean ∨ t = .byte ∨ t = .char ∨ t = .short) ∧ ∃ z, w = .int z) ∨ (i = .lreturn ∧ t = .long ∧ ∃ z, w = .long z) ∨ (i = .dreturn ∧ t = .double ∧ ∃ z, w = .double z) ∨ (i = .freturn ∧ t = .float ∧ ∃ z, w = .float z) ∨ (i = .areturn ∧ t.isReference = true ∧ w.isRef = true))
    (hd : decode c.code pc = .ok (i, 1)) (hc : cells ≤ kc) (hs : slots ≤ ks) (hq : Q (some w) T.heap locs) : Go p e below s kc ks Q T (mkF m pc Ls (w :: rest)) := by
  obtain ⟨fs, hr, hrun, hended, hW, hsame⟩ := X.leave (v := some w) (fun h => by rw [hret] at h; cases h) hlk
  exact ⟨_, _, retOut X hx hret hn hi hd hr, hrun, hended, _, _, rfl, hq, ⟨_, rfl⟩, hW, hsame.mono hc hs⟩
theorem own_retI (X : Stand p l e R s m args below meth c T locs cells slots) (hx : p.tables.exec = Jvm.exec) (hlk : meth.locks = false) {pc : Nat} {Ls : Array Slot} {z : Int32} {rest : List Value} (hret : meth.sig.returnType = some .int)
    (hd : decode c.code pc = .ok (.ireturn, 1)) (hc : cells ≤ kc) (hs : slots ≤ ks) (hq : Q (some (.int z)) T.heap locs) : Go p e below s kc ks Q T (mkF m pc Ls (.int z :: rest)) :=
  own_ret X hx hlk hret rfl (Or.inl ⟨rfl, Or.inl rfl, _, rfl⟩) hd hc hs hq
theorem own_retJ (X : Stand p l e R s m args below meth c T locs cells slots) (hx : p.tables.exec = Jvm.exec) (hlk : meth.locks = false) {pc : Nat} {Ls : Array Slot} {z : Int64} {rest : List Value} (hret : meth.sig.returnType = some .long)
    (hd : decode c.code pc = .ok (.lreturn, 1)) (hc : cells ≤ kc) (hs : slots ≤ ks) (hq : Q (some (.long z)) T.heap locs) : Go p e below s kc ks Q T (mkF m pc Ls (.long z :: rest)) :=
  own_ret X hx hlk hret rfl (Or.inr (Or.inl ⟨rfl, rfl, _, rfl⟩)) hd hc hs hq
theorem own_retA (X : Stand p l e R s m args below meth c T locs cells slots) (hx : p.tables.exec = Jvm.exec) (hlk : meth.locks = false) {pc : Nat} {Ls : Array Slot} {w : Value} {t : FieldType} {rest : List Value} (hret : meth.sig.returnType = some t) (ht : t.isReference = true) (hw : w.isRef = true)
    (hd : decode c.code pc = .ok (.areturn, 1)) (hc : cells ≤ kc) (hs : slots ≤ ks) (hq : Q (some w) T.heap locs) : Go p e below s kc ks Q T (mkF m pc Ls (w :: rest)) :=
  own_ret X hx hlk hret (by cases w <;> simp [Value.isRef] at hw <;> cases t <;> simp [FieldType.isReference] at ht <;> rfl) (Or.inr (Or.inr (Or.inr (Or.inr ⟨rfl, ht, hw⟩)))) hd hc hs hq
theorem own_retV (X : Stand p l e R s m args below meth c T locs cells slots) (hx : p.tables.exec = Jvm.exec) (hlk : meth.locks = false) {pc : Nat} {Ls : Array Slot} (hret : meth.sig.returnType = none)
    (hd : decode c.code pc = .ok (.return_, 1)) (hc : cells ≤ kc) (hs : slots ≤ ks) (hq : Q none T.heap locs) : Go p e below s kc ks Q T (mkF m pc Ls []) := by
  obtain ⟨fs, hr, hrun, hended, hW, hsame⟩ := X.leave (v := none) (fun _ => rfl) hlk
  exact ⟨_, _, X.returnOut hx hret hd hr, hrun, hended, _, _, rfl, hq, ⟨_, rfl⟩, hW, hsame.mono hc hs⟩
theorem own_bit {z : Int32} (h : z.toInt = 0 ∨ z.toInt = 1) : z = 0 ∨ z = 1 := by
  rcases h with h | h
  · exact Or.inl (Int32.toInt_inj.mp h)
  · exact Or.inr (Int32.toInt_inj.mp h)
theorem own_retZ (X : Stand p l e R s m args below meth c T locs cells slots) (hx : p.tables.exec = Jvm.exec) (hlk : meth.locks = false) {pc : Nat} {Ls : Array Slot} {z : Int32} {rest : List Value} (hret : meth.sig.returnType = some .boolean) (hz : z.toInt = 0 ∨ z.toInt = 1)
    (hd : decode c.code pc = .ok (.ireturn, 1)) (hc : cells ≤ kc) (hs : slots ≤ ks) (hq : Q (some (.int z)) T.heap locs) : Go p e below s kc ks Q T (mkF m pc Ls (.int z :: rest)) :=
  own_ret X hx hlk hret (by rcases own_bit hz with rfl | rfl <;> rfl) (Or.inl ⟨rfl, Or.inr (Or.inl rfl), _, rfl⟩) hd hc hs hq
theorem own_one {z : Int32} (h : z.toInt = 1) : z = 1 := Int32.toInt_inj.mp h
/-- a static call by the callee's contract -/
theorem own_callS (X : Stand p l e R s m args below meth c T locs cells slots) (hx : p.tables.exec = Jvm.exec) (hZ : Z.Warmed39 s.vm) {own : String} {index : Nat} {y : MethodName} {bytes : ByteArray} {maxL : Nat} {ret : Option FieldType} (hown : s.vm.findClass own = some m.cls)
    (w1 : (Jvm.Cond.methodLink own index y).before a0 Z = true) (w2 : (Jvm.Cond.static y).before a0 Z = true) (w3 : (Jvm.Cond.initialized y.cls).before a0 Z = true) (w4 : (Jvm.Cond.code y bytes maxL ret).before a0 Z = true) (hy : y.cls ≠ "java/lang/invoke/MethodHandle" ∧ y.cls ≠ "java/lang/invoke/VarHandle")
    {rm : Room} {Q' : Option Value → Heap → List Loc → Prop} {argsL rest stk : List Value} {pc W : Nat} {Ls : Array Slot}
    (hM : MetFree l y (head1 [Jvm.Cond.code y bytes maxL ret] rm) (fun a U => a = argsL.toArray ∧ Z.Warmed39 U.vm ∧ U.heap = h) (fun _ _ _ _ _ => True) (fun _ U o U' => ∃ v L, o = .returned v ∧ Q' v U'.heap L ∧ FrameEnd U o U' L rm.cells rm.slots))
    (eT : T.heap = h) (hsize : Ls.size = c.maxLocals) (hlen : ∀ sig, parseMethodDescriptor y.desc = some sig → argsL.length = sig.parameters.length) (hst : stk = argsL.reverse ++ rest) (hW : (rest.map fun v => v.category).sum ≤ W) (hd : decode c.code pc = .ok (.invokestatic index, 3))
    (hf : rm.frames + 1 ≤ R.frames) (hl : W + (maxL + 11) + rm.locals ≤ R.locals) (hc : cells + rm.cells ≤ R.cells) (hs : slots + rm.slots ≤ R.slots)
    (k : ∀ (v : Option Value) (T' : State) (L : List Loc), Stand p l e R s m args below meth c T' (locs ++ L) (cells + rm.cells) (slots + rm.slots) → Q' v T'.heap L → Go p e below s kc ks Q T' (mkF m (pc + 3) Ls (v.toList ++ rest))) :
    Go p e below s kc ks Q T (mkF m pc Ls stk) := by
  subst hst
  obtain ⟨v, _, ⟨T1, L1, k1, n1⟩, -, X1, ⟨Lc, hQ, l1, y1, z1⟩, st⟩ := Jvm.LawKit.callS X hx (y := y) hown (mvT hZ w1) (mvT hZ w2) (mvT hZ w3) (mvT hZ w4) hy (backOf (W := W) hM hZ w4 w3 hf hl) (g := mkF m pc Ls (argsL.reverse ++ rest)) rfl hsize (argsL := argsL) (rest := rest) hlen rfl (by show 2 * 0 + _ ≤ _; omega) hd (fun _ _ => ⟨rfl, eT, hc, hs⟩)
  dsimp only [Pt.U, Pt.locs, Pt.cells, Pt.slots] at X1 l1 y1 z1 st hQ
  subst l1 y1 z1
  exact own_st st (k v T1 Lc X1 hQ)
/-- a constructor by its contract -/
theorem own_callN (X : Stand p l e R s m args below meth c T locs cells slots) (hx : p.tables.exec = Jvm.exec) (hZ : Z.Warmed39 s.vm) {own : String} {index : Nat} {y : MethodName} {bytes : ByteArray} {maxL : Nat} (hown : s.vm.findClass own = some m.cls) (hy1 : y.name = "<init>")
    (w1 : (Jvm.Cond.methodLink own index y).before a0 Z = true) (w2 : (Jvm.Cond.instanceMethod y).before a0 Z = true) (w3 : (Jvm.Cond.initialized y.cls).before a0 Z = true) (w4 : (Jvm.Cond.code y bytes maxL none).before a0 Z = true) (hy : y.cls ≠ "java/lang/invoke/MethodHandle" ∧ y.cls ≠ "java/lang/invoke/VarHandle")
    {rm : Room} {Q' : Option Value → Heap → List Loc → Prop} {a : Addr} {argsL rest stk : List Value} {pc W : Nat} {Ls : Array Slot}
    (hM : MetFree l y (head1 [Jvm.Cond.code y bytes maxL none] rm) (fun a' U => a' = (.ref a :: argsL).toArray ∧ Z.Warmed39 U.vm ∧ U.heap = h) (fun _ _ _ _ _ => True) (fun _ U o U' => ∃ v L, o = .returned v ∧ Q' v U'.heap L ∧ FrameEnd U o U' L rm.cells rm.slots))
    (eT : T.heap = h) (hsize : Ls.size = c.maxLocals) (hlen : ∀ sig, parseMethodDescriptor y.desc = some sig → argsL.length = sig.parameters.length) (hst : stk = argsL.reverse ++ .ref a :: rest) (hW : (rest.map fun v => v.category).sum ≤ W) (hd : decode c.code pc = .ok (.invokespecial index, 3))
    (hf : rm.frames + 1 ≤ R.frames) (hl : W + (maxL + 11) + rm.locals ≤ R.locals) (hc : cells + rm.cells ≤ R.cells) (hs : slots + rm.slots ≤ R.slots)
    (k : ∀ (v : Option Value) (T' : State) (L : List Loc), Stand p l e R s m args below meth c T' (locs ++ L) (cells + rm.cells) (slots + rm.slots) → Q' v T'.heap L → Go p e below s kc ks Q T' (mkF m (pc + 3) Ls (v.toList ++ rest))) :
    Go p e below s kc ks Q T (mkF m pc Ls stk) := by
  subst hst
  obtain ⟨v, _, ⟨T1, L1, k1, n1⟩, -, X1, ⟨Lc, hQ, l1, y1, z1⟩, st⟩ := X.specialBack hx (y := y) hy1 hown (mvT hZ w1) (mvT hZ w2) (mvT hZ w4) hy (backOf (W := W) hM hZ w4 w3 hf hl) (g := mkF m pc Ls (argsL.reverse ++ .ref a :: rest)) rfl hsize (Steps.refl _) (a := a) (argsL := argsL) (rest := rest) hlen rfl (by show 2 * 0 + _ ≤ _; omega) hd (fun _ _ => ⟨rfl, eT, hc, hs⟩)
  dsimp only [Pt.U, Pt.locs, Pt.cells, Pt.slots] at X1 l1 y1 z1 st hQ
  subst l1 y1 z1
  exact own_tr st (k v T1 Lc X1 hQ)
/-- an instance method by the contract of the body that the receiver's class selects -/
theorem own_callV (X : Stand p l e R s m args below meth c T locs cells slots) (hx : p.tables.exec = Jvm.exec) (hZ : Z.Warmed39 s.vm) {own C : String} {index : Nat} {y z : MethodName} {bytes : ByteArray} {maxL : Nat} {ret : Option FieldType} (hown : s.vm.findClass own = some m.cls)
    (w1 : (Jvm.Cond.methodLink own index y).before a0 Z = true) (w2 : (Jvm.Cond.declares y).before a0 Z = true) (hnf : NotFace s y) (w3 : (Jvm.Cond.selects C y z).before a0 Z = true) (w4 : (Jvm.Cond.instanceMethod z).before a0 Z = true) (w5 : (Jvm.Cond.initialized z.cls).before a0 Z = true) (w6 : (Jvm.Cond.code z bytes maxL ret).before a0 Z = true) (hy : y.cls ≠ "java/lang/invoke/MethodHandle" ∧ y.cls ≠ "java/lang/invoke/VarHandle")
    {rm : Room} {Q' : Option Value → Heap → List Loc → Prop} {a : Addr} {argsL rest stk : List Value} {pc W : Nat} {Ls : Array Slot}
    (hM : MetFree l z (head1 [Jvm.Cond.code z bytes maxL ret] rm) (fun a' U => a' = (.ref a :: argsL).toArray ∧ Z.Warmed39 U.vm ∧ U.heap = h) (fun _ _ _ _ _ => True) (fun _ U o U' => ∃ v L, o = .returned v ∧ Q' v U'.heap L ∧ FrameEnd U o U' L rm.cells rm.slots))
    (eT : T.heap = h) (E : Exa Z h a C) (hsize : Ls.size = c.maxLocals) (hlen : ∀ sig, parseMethodDescriptor y.desc = some sig → argsL.length = sig.parameters.length) (hst : stk = argsL.reverse ++ .ref a :: rest) (hW : (rest.map fun v => v.category).sum ≤ W) (hd : decode c.code pc = .ok (.invokevirtual index, 3))
    (hf : rm.frames + 1 ≤ R.frames) (hl : W + (maxL + 11) + rm.locals ≤ R.locals) (hc : cells + rm.cells ≤ R.cells) (hs : slots + rm.slots ≤ R.slots)
    (k : ∀ (v : Option Value) (T' : State) (L : List Loc), Stand p l e R s m args below meth c T' (locs ++ L) (cells + rm.cells) (slots + rm.slots) → Q' v T'.heap L → Go p e below s kc ks Q T' (mkF m (pc + 3) Ls (v.toList ++ rest))) :
    Go p e below s kc ks Q T (mkF m pc Ls stk) := by
  subst hst
  obtain ⟨cq, kq, qa, qb, qc⟩ := isOf hZ eT E
  obtain ⟨v, _, ⟨T1, L1, k1, n1⟩, -, X1, ⟨Lc, hQ, l1, y1, z1⟩, st⟩ := X.virtualBack hx (y := y) (z := z) hown (mvT hZ w1) (mvT hZ w2) hnf (mvT hZ w3) (mvT hZ w4) hy (backOf (W := W) hM hZ w6 w5 hf hl) qa qc (g := mkF m pc Ls (argsL.reverse ++ .ref a :: rest)) rfl hsize (Steps.refl _) (argsL := argsL) (rest := rest) hlen rfl (by show 2 * 0 + _ ≤ _; omega) hd (fun _ _ => ⟨rfl, eT, hc, hs⟩)
  dsimp only [Pt.U, Pt.locs, Pt.cells, Pt.slots] at X1 l1 y1 z1 st hQ
  subst l1 y1 z1
  exact own_tr st (k v T1 Lc X1 hQ)
/-- the branches, by the integers' worth -/
theorem own_tlt {x y : Int32} (h : x.toInt < y.toInt) : if_icmp.holds .lt x y = true ∧ if_icmp.holds .ge x y = false ∧ if_icmp.holds .gt y x = true ∧ if_icmp.holds .le y x = false := tlt (Int32.lt_iff_toInt_lt.mpr h)
theorem own_flt {x y : Int32} (h : ¬ x.toInt < y.toInt) : if_icmp.holds .lt x y = false ∧ if_icmp.holds .ge x y = true ∧ if_icmp.holds .gt y x = false ∧ if_icmp.holds .le y x = true := flt fun q => h (Int32.lt_iff_toInt_lt.mp q)
theorem own_teq {x y : Int32} (h : x.toInt = y.toInt) : if_icmp.holds .eq x y = true ∧ if_icmp.holds .ne x y = false := teq (Int32.toInt_inj.mp h)
theorem own_feq {x y : Int32} (h : ¬ x.toInt = y.toInt) : if_icmp.holds .eq x y = false ∧ if_icmp.holds .ne x y = true := feq fun q => h (congrArg _ q)
theorem own_tltL {x y : Int64} (h : x.toInt < y.toInt) : ifCond.holds .lt (lcmpW x y) = true ∧ ifCond.holds .ge (lcmpW x y) = false := by
  have q := tlt ((lw_lt x y).mpr (Int64.lt_iff_toInt_lt.mpr h))
  exact ⟨(if0 _ _).trans q.1, (if0 _ _).trans q.2.1⟩
theorem own_fltL {x y : Int64} (h : ¬ x.toInt < y.toInt) : ifCond.holds .lt (lcmpW x y) = false ∧ ifCond.holds .ge (lcmpW x y) = true := by
  have q := flt fun r => h (Int64.lt_iff_toInt_lt.mp ((lw_lt x y).mp r))
  exact ⟨(if0 _ _).trans q.1, (if0 _ _).trans q.2.1⟩
theorem own_tgtL {x y : Int64} (h : y.toInt < x.toInt) : ifCond.holds .gt (lcmpW x y) = true ∧ ifCond.holds .le (lcmpW x y) = false := by
  have q := tlt ((lw_gt x y).mpr (Int64.lt_iff_toInt_lt.mpr h))
  exact ⟨(if0 _ _).trans q.2.2.1, (if0 _ _).trans q.2.2.2⟩
theorem own_fgtL {x y : Int64} (h : ¬ y.toInt < x.toInt) : ifCond.holds .gt (lcmpW x y) = false ∧ ifCond.holds .le (lcmpW x y) = true := by
  have q := flt fun r => h (Int64.lt_iff_toInt_lt.mp ((lw_gt x y).mp r))
  exact ⟨(if0 _ _).trans q.2.2.1, (if0 _ _).trans q.2.2.2⟩
theorem own_teqL {x y : Int64} (h : x.toInt = y.toInt) : ifCond.holds .eq (lcmpW x y) = true ∧ ifCond.holds .ne (lcmpW x y) = false := by
  have q := teq ((lw_eq x y).mpr (Int64.toInt_inj.mp h))
  exact ⟨(if0 _ _).trans q.1, (if0 _ _).trans q.2⟩
theorem own_feqL {x y : Int64} (h : ¬ x.toInt = y.toInt) : ifCond.holds .eq (lcmpW x y) = false ∧ ifCond.holds .ne (lcmpW x y) = true := by
  have q := feq fun r => h (congrArg _ ((lw_eq x y).mp r))
  exact ⟨(if0 _ _).trans q.1, (if0 _ _).trans q.2⟩
/-- an array by its length and what each place holds -/
def own_A (Z : State) (h : Heap) (a : Addr) (ty : FieldType) (n : Int32) (f : Nat → Value) : Prop := ∃ cl : Cell, Arr Z h a cl ty ∧ cl.slots.size = n.toNatClampNeg ∧ 0 ≤ n.toInt ∧ (∀ i, i < cl.slots.size → cl.slots[i]? = some (f i)) ∧ ∀ i, i < cl.slots.size → fits ty (f i) = true
theorem own_cl {n : Int32} : n.toNatClampNeg = n.toInt.toNat := rfl
theorem own_nneg {n : Int32} (h : 0 ≤ n.toInt) : ¬ n < 0 := fun q => by
  have q := Int32.lt_iff_toInt_lt.mp q
  have : (0 : Int32).toInt = 0 := rfl
  omega
theorem own_in {cl : Cell} {n j : Int32} (hs : cl.slots.size = n.toNatClampNeg) (h0 : 0 ≤ j.toInt) (h1 : j.toInt < n.toInt) : ¬ (j < 0 ∨ cl.slots.size ≤ j.toNatClampNeg) := by
  rintro (q | q)
  · exact own_nneg h0 q
  · rw [hs, own_cl, own_cl] at q; omega
theorem own_ilt {cl : Cell} {n j : Int32} (hs : cl.slots.size = n.toNatClampNeg) (h0 : 0 ≤ j.toInt) (h1 : j.toInt < n.toInt) : j.toInt.toNat < cl.slots.size := by rw [hs, own_cl]; omega
section OwnArr
variable {h h' : Heap} {a b : Addr} {ty : FieldType} {n : Int32} {f g : Nat → Value} {sl : Nat} {v : Value} {ws : List Addr}
theorem own_A.lt (F : own_A Z h a ty n f) : a < h.size := by obtain ⟨c, A, -⟩ := F; exact A.lt
theorem own_A.ext (F : own_A Z h a ty n f) (E : Ext h h') : own_A Z h' a ty n f := by obtain ⟨c, A, r⟩ := F; exact ⟨c, A.ext E, r⟩
theorem own_A.other (F : own_A Z h b ty n f) (W : Wr h h' a sl v) (q : b ≠ a) : own_A Z h' b ty n f := by obtain ⟨c, A, r⟩ := F; exact ⟨c, A.other W q, r⟩
theorem own_A.keep (F : own_A Z h a ty n f) (K : Keep h h' ws) (q : a ∉ ws) : own_A Z h' a ty n f := by obtain ⟨c, A, r⟩ := F; exact ⟨c, ⟨K.2.1 a c A.1 q, A.2⟩, r⟩
theorem own_A.congr (F : own_A Z h a ty n f) (q : ∀ i : Nat, (i : Int) < n.toInt → f i = g i) : own_A Z h a ty n g := by
  obtain ⟨c, A, hs, h0, H, G⟩ := F
  have t : ∀ i, i < c.slots.size → f i = g i := fun i hi => q i (by rw [hs, own_cl] at hi; omega)
  exact ⟨c, A, hs, h0, fun i hi => by rw [← t i hi]; exact H i hi, fun i hi => by rw [← t i hi]; exact G i hi⟩
theorem own_A.new {k : ClassId} (A : Arr Z h a (newA k ty n) ty) (q : 0 ≤ n.toInt) (hd : fits ty (defaultValue ty) = true) : own_A Z h a ty n (fun _ => defaultValue ty) :=
  ⟨_, A, sz_new _ _ _, q, fun i hi => by
    rw [sz_new] at hi
    simp [newA, hi], fun _ _ => hd⟩
theorem own_A.setN {cl : Cell} (A : Arr Z h a cl ty) (hs : cl.slots.size = n.toNatClampNeg) (h0 : 0 ≤ n.toInt) (H : ∀ i, i < cl.slots.size → cl.slots[i]? = some (f i)) (G : ∀ i, i < cl.slots.size → fits ty (f i) = true) (hv : fits ty v = true) {j : Nat} (W : Wr h h' a j v) (hj : j < cl.slots.size) :
    own_A Z h' a ty n (fun i => if i = j then v else f i) := by
  refine ⟨_, A.same W, by rw [sz_set]; exact hs, h0, fun i hi => ?_, fun i hi => ?_⟩
  · rw [sz_set] at hi
    by_cases e : i = j
    · subst e; simp [Cell.setSlot, hj]
    · have : j ≠ i := fun q => e q.symm
      simp [Cell.setSlot, e, this, H i hi]
  · rw [sz_set] at hi
    by_cases e : i = j
    · simp [e, hv]
    · simp [e, G i hi]
theorem own_A.set {cl : Cell} (A : Arr Z h a cl ty) (hs : cl.slots.size = n.toNatClampNeg) (h0 : 0 ≤ n.toInt) (H : ∀ i, i < cl.slots.size → cl.slots[i]? = some (f i)) (G : ∀ i, i < cl.slots.size → fits ty (f i) = true) (hv : fits ty v = true) {j : Int32} (W : Wr h h' a j.toNatClampNeg v) (hj : j.toInt.toNat < cl.slots.size) :
    own_A Z h' a ty n (fun i => if i = j.toInt.toNat then v else f i) := own_A.setN A hs h0 H G hv (j := j.toInt.toNat) W hj
end OwnArr
theorem own_A.int {h : Heap} {a : Addr} {n j : Int32} {f : Nat → Value} (F : own_A Z h a .int n f) (h0 : 0 ≤ j.toInt) (h1 : j.toInt < n.toInt) : ∃ z : Int32, f j.toInt.toNat = .int z := by
  obtain ⟨c, A, hs, hn, H, G⟩ := F
  exact fit_I (G _ (own_ilt hs h0 h1)) (Or.inl rfl)
theorem own_newarr (X : Stand p l e R s m args below meth c T locs cells slots) (hx : p.tables.exec = Jvm.exec) (hZ : Z.Warmed39 s.vm) {aty : ArrayType} (w : (Jvm.Cond.arrayClass (newarray.typeOf aty)).before a0 Z = true) (eT : T.heap = h) {pc : Nat} {Ls : Array Slot} (hd : decode c.code pc = .ok (.newarray aty, 2)) {n : Int32} {rest : List Value}
    (hn : 0 ≤ n.toInt) {cap : Nat} (hcap : n.toInt ≤ cap) (hb : cap * 8 ≤ 536870912) (hc : cells + 1 ≤ R.cells) (hl : slots + cap ≤ R.slots) (hf : fits (newarray.typeOf aty) (defaultValue (newarray.typeOf aty)) = true)
    (k : ∀ (T' : State) (h' : Heap) (a : Addr), a = h.size → Stand p l e R s m args below meth c T' locs (cells + 1) (slots + cap) → T'.heap = h' → Ext h h' → own_A Z h' a (newarray.typeOf aty) n (fun _ => defaultValue (newarray.typeOf aty)) → Go p e below s kc ks Q T' (mkF m (pc + 2) Ls (.ref a :: rest))) :
    Go p e below s kc ks Q T (mkF m pc Ls (.int n :: rest)) := by
  obtain ⟨T', h', cA, X', e', E', A', st⟩ := newP X hx hZ w eT (g := mkF m pc Ls (.int n :: rest)) rfl hd rfl (own_nneg hn) (cap := cap) (by rw [own_cl]; omega) hb hc hl
  exact own_st st (k T' h' _ rfl X' e' E' (own_A.new A' hn hf))
theorem own_alen (X : Stand p l e R s m args below meth c T locs cells slots) (hx : p.tables.exec = Jvm.exec) (hZ : Z.Warmed39 s.vm) (eT : T.heap = h) {a : Addr} {ty : FieldType} {n : Int32} {f : Nat → Value} (A : own_A Z h a ty n f) {pc : Nat} {Ls : Array Slot} {rest : List Value} (hd : decode c.code pc = .ok (.arraylength, 1))
    (k : Go p e below s kc ks Q T (mkF m (pc + 1) Ls (.int n :: rest))) : Go p e below s kc ks Q T (mkF m pc Ls (.ref a :: rest)) := by
  obtain ⟨cl, Ar, hs, h0, -, -⟩ := A
  rw [← len_of hs (own_nneg h0)] at k
  exact own_st (fun t q => X.arraylength hx (by rw [eT]; exact Ar.1) (State.isArrayOf_alike hZ.alike Ar.2.1) (g := mkF m pc Ls (.ref a :: rest)) rfl rfl hd t q) k
theorem own_iaload (X : Stand p l e R s m args below meth c T locs cells slots) (hx : p.tables.exec = Jvm.exec) (hZ : Z.Warmed39 s.vm) (eT : T.heap = h) {a : Addr} {n j : Int32} {f : Nat → Value} {v : Value} (A : own_A Z h a .int n f) (h0 : 0 ≤ j.toInt) (h1 : j.toInt < n.toInt) (hv : f j.toInt.toNat = v) {pc : Nat} {Ls : Array Slot} {rest : List Value} (hd : decode c.code pc = .ok (.iaload, 1))
    (k : Go p e below s kc ks Q T (mkF m (pc + 1) Ls (v :: rest))) : Go p e below s kc ks Q T (mkF m pc Ls (.int j :: .ref a :: rest)) := by
  obtain ⟨cl, Ar, hs, hn, H, -⟩ := A
  exact own_st (fun t q => X.iaload hx (j := j) (v := v) (by rw [eT]; exact Ar.1) (State.isArrayOf_alike hZ.alike Ar.2.1) Ar.2.2 (own_in hs h0 h1) (hv ▸ H _ (own_ilt hs h0 h1)) (g := mkF m pc Ls (.int j :: .ref a :: rest)) rfl rfl hd t q) k
theorem own_laload (X : Stand p l e R s m args below meth c T locs cells slots) (hx : p.tables.exec = Jvm.exec) (hZ : Z.Warmed39 s.vm) (eT : T.heap = h) {a : Addr} {n j : Int32} {f : Nat → Value} {v : Value} (A : own_A Z h a .long n f) (h0 : 0 ≤ j.toInt) (h1 : j.toInt < n.toInt) (hv : f j.toInt.toNat = v) {pc : Nat} {Ls : Array Slot} {rest : List Value} (hd : decode c.code pc = .ok (.laload, 1))
    (k : Go p e below s kc ks Q T (mkF m (pc + 1) Ls (v :: rest))) : Go p e below s kc ks Q T (mkF m pc Ls (.int j :: .ref a :: rest)) := by
  obtain ⟨cl, Ar, hs, hn, H, -⟩ := A
  exact own_st (fun t q => X.laload hx (j := j) (v := v) (by rw [eT]; exact Ar.1) (State.isArrayOf_alike hZ.alike Ar.2.1) Ar.2.2 (own_in hs h0 h1) (hv ▸ H _ (own_ilt hs h0 h1)) (g := mkF m pc Ls (.int j :: .ref a :: rest)) rfl rfl hd t q) k
theorem own_caload (X : Stand p l e R s m args below meth c T locs cells slots) (hx : p.tables.exec = Jvm.exec) (hZ : Z.Warmed39 s.vm) (eT : T.heap = h) {a : Addr} {n j : Int32} {f : Nat → Value} {v : Value} (A : own_A Z h a .char n f) (h0 : 0 ≤ j.toInt) (h1 : j.toInt < n.toInt) (hv : f j.toInt.toNat = v) {pc : Nat} {Ls : Array Slot} {rest : List Value} (hd : decode c.code pc = .ok (.caload, 1))
    (k : Go p e below s kc ks Q T (mkF m (pc + 1) Ls (v :: rest))) : Go p e below s kc ks Q T (mkF m pc Ls (.int j :: .ref a :: rest)) := by
  obtain ⟨cl, Ar, hs, hn, H, -⟩ := A
  exact own_st (fun t q => X.caload hx (j := j) (v := v) (by rw [eT]; exact Ar.1) (State.isArrayOf_alike hZ.alike Ar.2.1) Ar.2.2 (own_in hs h0 h1) (hv ▸ H _ (own_ilt hs h0 h1)) (g := mkF m pc Ls (.int j :: .ref a :: rest)) rfl rfl hd t q) k
theorem own_baload (X : Stand p l e R s m args below meth c T locs cells slots) (hx : p.tables.exec = Jvm.exec) (hZ : Z.Warmed39 s.vm) (eT : T.heap = h) {a : Addr} {n j : Int32} {f : Nat → Value} {v : Value} (A : own_A Z h a .byte n f) (h0 : 0 ≤ j.toInt) (h1 : j.toInt < n.toInt) (hv : f j.toInt.toNat = v) {pc : Nat} {Ls : Array Slot} {rest : List Value} (hd : decode c.code pc = .ok (.baload, 1))
    (k : Go p e below s kc ks Q T (mkF m (pc + 1) Ls (v :: rest))) : Go p e below s kc ks Q T (mkF m pc Ls (.int j :: .ref a :: rest)) := by
  obtain ⟨cl, Ar, hs, hn, H, -⟩ := A
  exact own_st (fun t q => X.baloadBytes hx (j := j) (v := v) (by rw [eT]; exact Ar.1) (State.isArrayOf_alike hZ.alike Ar.2.1) Ar.2.2 (own_in hs h0 h1) (hv ▸ H _ (own_ilt hs h0 h1)) (g := mkF m pc Ls (.int j :: .ref a :: rest)) rfl rfl hd t q) k
theorem own_zaload (X : Stand p l e R s m args below meth c T locs cells slots) (hx : p.tables.exec = Jvm.exec) (hZ : Z.Warmed39 s.vm) (eT : T.heap = h) {a : Addr} {n j : Int32} {f : Nat → Value} {v : Value} (A : own_A Z h a .boolean n f) (h0 : 0 ≤ j.toInt) (h1 : j.toInt < n.toInt) (hv : f j.toInt.toNat = v) {pc : Nat} {Ls : Array Slot} {rest : List Value} (hd : decode c.code pc = .ok (.baload, 1))
    (k : Go p e below s kc ks Q T (mkF m (pc + 1) Ls (v :: rest))) : Go p e below s kc ks Q T (mkF m pc Ls (.int j :: .ref a :: rest)) := by
  obtain ⟨cl, Ar, hs, hn, H, -⟩ := A
  exact own_st (fun t q => X.baloadBooleans hx (j := j) (v := v) (by rw [eT]; exact Ar.1) (State.isArrayOf_alike hZ.alike Ar.2.1) Ar.2.2 (own_in hs h0 h1) (hv ▸ H _ (own_ilt hs h0 h1)) (g := mkF m pc Ls (.int j :: .ref a :: rest)) rfl rfl hd t q) k
theorem own_aaload (X : Stand p l e R s m args below meth c T locs cells slots) (hx : p.tables.exec = Jvm.exec) (hZ : Z.Warmed39 s.vm) (eT : T.heap = h) {a : Addr} {ty : FieldType} {n j : Int32} {f : Nat → Value} {v : Value} (A : own_A Z h a ty n f) (hty : ty.isReference = true) (h0 : 0 ≤ j.toInt) (h1 : j.toInt < n.toInt) (hv : f j.toInt.toNat = v) {pc : Nat} {Ls : Array Slot} {rest : List Value} (hd : decode c.code pc = .ok (.aaload, 1))
    (k : Go p e below s kc ks Q T (mkF m (pc + 1) Ls (v :: rest))) : Go p e below s kc ks Q T (mkF m pc Ls (.int j :: .ref a :: rest)) := by
  obtain ⟨cl, Ar, hs, hn, H, -⟩ := A
  exact own_st (fun t q => X.aaload hx (j := j) (v := v) (by rw [eT]; exact Ar.1) (State.isArrayOf_alike hZ.alike Ar.2.1) hty Ar.2.2 (own_in hs h0 h1) (hv ▸ H _ (own_ilt hs h0 h1)) (g := mkF m pc Ls (.int j :: .ref a :: rest)) rfl rfl hd t q) k
theorem own_iastore (X : Stand p l e R s m args below meth c T locs cells slots) (hx : p.tables.exec = Jvm.exec) (hZ : Z.Warmed39 s.vm) (eT : T.heap = h) {a : Addr} {n j : Int32} {f : Nat → Value} {x : Int32} (A : own_A Z h a .int n f) (h0 : 0 ≤ j.toInt) (h1 : j.toInt < n.toInt) {pc : Nat} {Ls : Array Slot} {rest : List Value} (hd : decode c.code pc = .ok (.iastore, 1))
    (k : ∀ (T' : State) (h' : Heap), Stand p l e R s m args below meth c T' (locs ++ [⟨a, j.toNatClampNeg⟩]) cells slots → T'.heap = h' → Wr h h' a j.toNatClampNeg (.int x) → own_A Z h' a .int n (fun i => if i = j.toInt.toNat then (.int x) else f i) → Go p e below s kc ks Q T' (mkF m (pc + 1) Ls rest)) : Go p e below s kc ks Q T (mkF m pc Ls (.int x :: .int j :: .ref a :: rest)) := by
  obtain ⟨cl, Ar, hs, hn, H, G⟩ := A
  obtain ⟨T', h', X', e', W', st⟩ := stI X hx hZ eT Ar (j := j) (x := x) (own_in hs h0 h1) (g := mkF m pc Ls (.int x :: .int j :: .ref a :: rest)) rfl rfl hd
  exact own_st st (k T' h' X' e' W' (own_A.set Ar hs hn H G rfl W' (own_ilt hs h0 h1)))
theorem own_lastore (X : Stand p l e R s m args below meth c T locs cells slots) (hx : p.tables.exec = Jvm.exec) (hZ : Z.Warmed39 s.vm) (eT : T.heap = h) {a : Addr} {n j : Int32} {f : Nat → Value} {x : Int64} (A : own_A Z h a .long n f) (h0 : 0 ≤ j.toInt) (h1 : j.toInt < n.toInt) {pc : Nat} {Ls : Array Slot} {rest : List Value} (hd : decode c.code pc = .ok (.lastore, 1))
    (k : ∀ (T' : State) (h' : Heap), Stand p l e R s m args below meth c T' (locs ++ [⟨a, j.toNatClampNeg⟩]) cells slots → T'.heap = h' → Wr h h' a j.toNatClampNeg (.long x) → own_A Z h' a .long n (fun i => if i = j.toInt.toNat then (.long x) else f i) → Go p e below s kc ks Q T' (mkF m (pc + 1) Ls rest)) : Go p e below s kc ks Q T (mkF m pc Ls (.long x :: .int j :: .ref a :: rest)) := by
  obtain ⟨cl, Ar, hs, hn, H, G⟩ := A
  obtain ⟨T', h', X', e', W', st⟩ := stJ X hx hZ eT Ar (j := j) (x := x) (own_in hs h0 h1) (g := mkF m pc Ls (.long x :: .int j :: .ref a :: rest)) rfl rfl hd
  exact own_st st (k T' h' X' e' W' (own_A.set Ar hs hn H G rfl W' (own_ilt hs h0 h1)))
theorem own_bastore (X : Stand p l e R s m args below meth c T locs cells slots) (hx : p.tables.exec = Jvm.exec) (hZ : Z.Warmed39 s.vm) (eT : T.heap = h) {a : Addr} {n j : Int32} {f : Nat → Value} {x : Int32} (A : own_A Z h a .byte n f) (h0 : 0 ≤ j.toInt) (h1 : j.toInt < n.toInt) {pc : Nat} {Ls : Array Slot} {rest : List Value} (hd : decode c.code pc = .ok (.bastore, 1))
    (k : ∀ (T' : State) (h' : Heap), Stand p l e R s m args below meth c T' (locs ++ [⟨a, j.toNatClampNeg⟩]) cells slots → T'.heap = h' → Wr h h' a j.toNatClampNeg (.int (nar .byte x)) → own_A Z h' a .byte n (fun i => if i = j.toInt.toNat then (.int (nar .byte x)) else f i) → Go p e below s kc ks Q T' (mkF m (pc + 1) Ls rest)) : Go p e below s kc ks Q T (mkF m pc Ls (.int x :: .int j :: .ref a :: rest)) := by
  obtain ⟨cl, Ar, hs, hn, H, G⟩ := A
  obtain ⟨T', h', X', e', W', st⟩ := stB X hx hZ eT Ar (j := j) (x := x) (own_in hs h0 h1) (g := mkF m pc Ls (.int x :: .int j :: .ref a :: rest)) rfl rfl hd
  exact own_st st (k T' h' X' e' W' (own_A.set Ar hs hn H G (fits_nar_byte x) W' (own_ilt hs h0 h1)))
theorem own_castore (X : Stand p l e R s m args below meth c T locs cells slots) (hx : p.tables.exec = Jvm.exec) (hZ : Z.Warmed39 s.vm) (eT : T.heap = h) {a : Addr} {n j : Int32} {f : Nat → Value} {x : Int32} (A : own_A Z h a .char n f) (h0 : 0 ≤ j.toInt) (h1 : j.toInt < n.toInt) {pc : Nat} {Ls : Array Slot} {rest : List Value} (hd : decode c.code pc = .ok (.castore, 1))
    (k : ∀ (T' : State) (h' : Heap), Stand p l e R s m args below meth c T' (locs ++ [⟨a, j.toNatClampNeg⟩]) cells slots → T'.heap = h' → Wr h h' a j.toNatClampNeg (.int (nar .char x)) → own_A Z h' a .char n (fun i => if i = j.toInt.toNat then (.int (nar .char x)) else f i) → Go p e below s kc ks Q T' (mkF m (pc + 1) Ls rest)) : Go p e below s kc ks Q T (mkF m pc Ls (.int x :: .int j :: .ref a :: rest)) := by
  obtain ⟨cl, Ar, hs, hn, H, G⟩ := A
  obtain ⟨T', h', X', e', W', st⟩ := stC X hx hZ eT Ar (j := j) (x := x) (own_in hs h0 h1) (g := mkF m pc Ls (.int x :: .int j :: .ref a :: rest)) rfl rfl hd
  exact own_st st (k T' h' X' e' W' (own_A.set Ar hs hn H G (fits_nar_char x) W' (own_ilt hs h0 h1)))
theorem own_zastore (X : Stand p l e R s m args below meth c T locs cells slots) (hx : p.tables.exec = Jvm.exec) (hZ : Z.Warmed39 s.vm) (eT : T.heap = h) {a : Addr} {n j : Int32} {f : Nat → Value} {x : Int32} (A : own_A Z h a .boolean n f) (h0 : 0 ≤ j.toInt) (h1 : j.toInt < n.toInt) {pc : Nat} {Ls : Array Slot} {rest : List Value} (hd : decode c.code pc = .ok (.bastore, 1))
    (k : ∀ (T' : State) (h' : Heap), Stand p l e R s m args below meth c T' (locs ++ [⟨a, j.toNatClampNeg⟩]) cells slots → T'.heap = h' → Wr h h' a j.toNatClampNeg (.int (nar .boolean x)) → own_A Z h' a .boolean n (fun i => if i = j.toInt.toNat then (.int (nar .boolean x)) else f i) → Go p e below s kc ks Q T' (mkF m (pc + 1) Ls rest)) : Go p e below s kc ks Q T (mkF m pc Ls (.int x :: .int j :: .ref a :: rest)) := by
  obtain ⟨cl, Ar, hs, hn, H, G⟩ := A
  obtain ⟨T', h', X', e', W', st⟩ := stZ X hx hZ eT Ar (j := j) (x := x) (own_in hs h0 h1) (g := mkF m pc Ls (.int x :: .int j :: .ref a :: rest)) rfl rfl hd
  exact own_st st (k T' h' X' e' W' (own_A.set Ar hs hn H G (fits_nar_bool x) W' (own_ilt hs h0 h1)))
theorem own_eqv {args : Array Value} {s : State} {t : Term} {k : Int32} (h : (Jvm.Cond.eq t (.int k)).value args s none s [] = some true) : t.eval args s none [] s = some (.int k) := by
  simp only [Cond.value, Term.eval] at h
  cases e : t.eval args s none [] s with
  | none => simp [e] at h
  | some v => cases v <;> simp [e] at h; exact congrArg _ (congrArg _ h)
theorem own_fldeq {args : Array Value} {s : State} {t : Term} {x : Addr} {C n d : String} {k : Int32} (ht : t.eval args s none [] s = some (.ref x)) (h : (Jvm.Cond.eq (.field t C n d) (.int k)).value args s none s [] = some true) : Fld s s.heap x C n d (.int k) :=
  Fld.start ((fld_at ht).symm.trans (own_eqv h))
/-- the array at a is one of C's -/
def own_O (Z : State) (h : Heap) (a : Addr) (C : String) : Prop := ∃ cl : Cell, h[a]? = some cl ∧ Ovr Z cl.cls C
theorem own_O.ext {h h' : Heap} {a : Addr} {C : String} (F : own_O Z h a C) (E : Ext h h') : own_O Z h' a C := by obtain ⟨c, A, r⟩ := F; exact ⟨c, E.2 _ _ A, r⟩
theorem own_O.wr {h h' : Heap} {a b : Addr} {C : String} {sl : Nat} {v : Value} (F : own_O Z h a C) (W : Wr h h' b sl v) : own_O Z h' a C := by
  obtain ⟨c, A, r⟩ := F
  obtain ⟨c', e1, e2, -⟩ := wr_at W A
  exact ⟨c', e1, by rw [e2]; exact r⟩
theorem own_newarrR (X : Stand p l e R s m args below meth c T locs cells slots) (hx : p.tables.exec = Jvm.exec) (hZ : Z.Warmed39 s.vm) {own C : String} {index : Nat} (hown : s.vm.findClass own = some m.cls) (w1 : (Jvm.Cond.classLink own index C).before a0 Z = true) (w2 : (Jvm.Cond.arrayOver (.object C)).before a0 Z = true) (eT : T.heap = h) {pc : Nat} {Ls : Array Slot} (hd : decode c.code pc = .ok (.anewarray index, 3)) {n : Int32} {rest : List Value}
    (hn : 0 ≤ n.toInt) {cap : Nat} (hcap : n.toInt ≤ cap) (hb : cap * 8 ≤ 536870912) (hc : cells + 1 ≤ R.cells) (hl : slots + cap ≤ R.slots)
    (k : ∀ (T' : State) (h' : Heap) (a : Addr), a = h.size → Stand p l e R s m args below meth c T' locs (cells + 1) (slots + cap) → T'.heap = h' → Ext h h' → own_A Z h' a (.object C) n (fun _ => .null) → own_O Z h' a C → Go p e below s kc ks Q T' (mkF m (pc + 3) Ls (.ref a :: rest))) :
    Go p e below s kc ks Q T (mkF m pc Ls (.int n :: rest)) := by
  obtain ⟨T', h', cA, X', e', E', A', O', st⟩ := newR X hx hZ hown w1 w2 eT (g := mkF m pc Ls (.int n :: rest)) rfl hd rfl (own_nneg hn) (cap := cap) (by rw [own_cl]; omega) hb hc hl
  exact own_st st (k T' h' _ rfl X' e' E' (own_A.new A' hn rfl) ⟨_, A'.1, O'⟩)
theorem own_aastore (X : Stand p l e R s m args below meth c T locs cells slots) (hx : p.tables.exec = Jvm.exec) (hZ : Z.Warmed39 s.vm) (eT : T.heap = h) {a y : Addr} {n j : Int32} {f : Nat → Value} {C : String} (A : own_A Z h a (.object C) n f) (O : own_O Z h a C) (I : Ins Z h y C true) (h0 : 0 ≤ j.toInt) (h1 : j.toInt < n.toInt) {pc : Nat} {Ls : Array Slot} {rest : List Value} (hd : decode c.code pc = .ok (.aastore, 1))
    (k : ∀ (T' : State) (h' : Heap), Stand p l e R s m args below meth c T' (locs ++ [⟨a, j.toNatClampNeg⟩]) cells slots → T'.heap = h' → Wr h h' a j.toNatClampNeg (.ref y) → own_A Z h' a (.object C) n (fun i => if i = j.toInt.toNat then .ref y else f i) → Go p e below s kc ks Q T' (mkF m (pc + 1) Ls rest)) : Go p e below s kc ks Q T (mkF m pc Ls (.ref y :: .int j :: .ref a :: rest)) := by
  obtain ⟨cl, Ar, hs, hn, H, G⟩ := A
  obtain ⟨cl', o1, o2⟩ := O
  cases Ar.1.symm.trans o1
  obtain ⟨T', h', X', e', W', st⟩ := stR X hx hZ eT Ar (j := j) (v := .ref y) (own_in hs h0 h1) rfl (Sto.of Ar o2 I) (g := mkF m pc Ls (.ref y :: .int j :: .ref a :: rest)) rfl rfl hd
  exact own_st st (k T' h' X' e' W' (own_A.set Ar hs hn H G rfl W' (own_ilt hs h0 h1)))
theorem own_sk0 {h h' : Heap} {C n d : String} {v : Value} (F : Sta Z h C n d v) (K : Keep h h' []) : Sta Z h' C n d v := by
  obtain ⟨cf, i, k, f, st, cell, h1, h2, h3, h4, h5, r⟩ := F
  exact ⟨cf, i, k, f, st, cell, h1, h2, h3, h4, K.2.1 _ _ h5 nin0, r⟩
theorem own_sk1 {h h' : Heap} {a : Addr} {C n d D : String} {v : Value} (F : Sta Z h C n d v) (K : Keep h h' [a]) (E : Exa Z h a D) : Sta Z h' C n d v := by
  obtain ⟨cf, i, k, f, st, cell, h1, h2, h3, h4, h5, h6, h7⟩ := F
  obtain ⟨c2, k2, e1, e2, e3, e4, e5⟩ := E
  have ne : st ≠ a := fun q => by
    subst q
    cases h5.symm.trans e1
    rw [e4] at h6; cases h6
  exact ⟨cf, i, k, f, st, cell, h1, h2, h3, h4, K.2.1 _ _ h5 (ninS ne nin0), h6, h7⟩
/-- each of the first n places holds an object of class D -/
def own_IC (Z : State) (h : Heap) (D : String) (n : Nat) (f : Nat → Value) : Prop := ∀ i, i < n → ∃ b : Addr, f i = .ref b ∧ Exa Z h b D
theorem own_IC.ext {h h' : Heap} {D : String} {n : Nat} {f : Nat → Value} (F : own_IC Z h D n f) (E : Ext h h') : own_IC Z h' D n f := fun i hi => by obtain ⟨b, e1, e2⟩ := F i hi; exact ⟨b, e1, e2.ext E⟩
theorem own_IC.wr {h h' : Heap} {D : String} {n : Nat} {f : Nat → Value} {a : Addr} {sl : Nat} {v : Value} (F : own_IC Z h D n f) (W : Wr h h' a sl v) : own_IC Z h' D n f := fun i hi => by obtain ⟨b, e1, e2⟩ := F i hi; exact ⟨b, e1, Exa.wr W e2⟩
theorem own_IC.keep {h h' : Heap} {D : String} {n : Nat} {f : Nat → Value} {ws : List Addr} (F : own_IC Z h D n f) (K : Keep h h' ws) : own_IC Z h' D n f := fun i hi => by obtain ⟨b, e1, e2⟩ := F i hi; exact ⟨b, e1, e2.keep K⟩
/-- an object of class D is no K -/
theorem own_notIns {h : Heap} {b : Addr} {D K : String} {t : List String} {kk : Nat} (E : Exa Z h b D) (hw : ∀ w ∈ Cond.chainWords (D :: t), w.before a0 Z = true) (wi : (Jvm.Cond.instantiable K kk).before a0 Z = true) (hn : K ∉ D :: t) : Ins Z h b K false := by
  obtain ⟨cell, k, e1, e2, e3, e4, e5⟩ := E
  obtain ⟨cK, kK, i1, i2, i3, i4⟩ := Cond.instantiable_spec wi
  refine ⟨cell, cK, e1, i1, ?_⟩
  rw [Vm.notAssignable_of_chain e2 i1 i2 i3 (by simpa using (Bool.or_eq_false_iff.mp i4.1).1) hw hn]
  simp
theorem own_cache {s : State} {args : Array Value} {t : Term} {a : Addr} {K : String} {B : Jvm.Cond} (et : ∀ idx, t.eval args s none idx s = some (.ref a)) (hA : (Jvm.Cond.arrayOf t (.object K)).value args s none s [] = some true) (hL : (Jvm.Cond.eq (.length t) (.int 256)).value args s none s [] = some true)
    (h : (Jvm.Cond.all t (.and (.exactly (.elem t (.index 0)) K) B)).value args s none s [] = some true) : ∃ fc, own_A s s.heap a (.object K) 256 fc ∧ own_IC s s.heap K 256 fc := by
  obtain ⟨cl, A⟩ := Arr.start (et []) hA
  have ha := A.fin (Vm.Alike.refl _)
  have hl := own_eqv hL
  have hsz : cl.slots.size = 256 := by
    by_cases q : cl.slots.size < 2 ^ 31
    · rw [len_f (et []) ha q] at hl
      have e := congrArg Int32.toInt (Value.int.inj (Option.some.inj hl))
      rw [len_toInt q] at e
      have k : (256 : Int32).toInt = 256 := rfl
      omega
    · simp [Term.eval, et [], ha, q] at hl
  have hel : ∀ i, i < cl.slots.size → ∃ b : Addr, cl.slots[i]? = some (.ref b) ∧ Exa s s.heap b K := fun i hi => by
    have hj : ¬ i.toInt32 < 0 := fun z => (idx_in hi (by omega)) (Or.inl z)
    have hc : i.toInt32.toNatClampNeg = i := by
      rw [own_cl, len_toInt (by omega)]; rfl
    obtain ⟨u1, u2⟩ := and_e (Cond.all_elim (et []) ha h i hi)
    obtain ⟨b, eb⟩ := exa_v u1
    refine ⟨b, ?_, exa_at eb u1⟩
    have q := (elem_f (idx := [i]) (a := .index 0) (j := i.toInt32) (et _) (by have := idx_at (args := args) (s := s) (first := s) (o := none) hj; rwa [hc] at this) ha hj).symm.trans eb
    rwa [hc] at q
  refine ⟨fun i => (cl.slots[i]?).getD .null, ⟨cl, A, by rw [hsz]; rfl, by decide, fun i hi => ?_, fun i hi => ?_⟩, fun i hi => ?_⟩
  · obtain ⟨b, e, -⟩ := hel i hi; simp [e]
  · obtain ⟨b, e, -⟩ := hel i hi; simp [e, fits]
  · obtain ⟨b, e, E⟩ := hel i (by omega); exact ⟨b, by simp [e], E⟩
end OwnKit
def own_z_isn (q : Int32) : Int32 := if (65 ≤ q.toInt ∧ q.toInt ≤ 90) ∨ (97 ≤ q.toInt ∧ q.toInt ≤ 122) ∨ (95 ≤ q.toInt ∧ q.toInt ≤ 95) ∨ (192 ≤ q.toInt ∧ q.toInt ≤ 214) ∨ (216 ≤ q.toInt ∧ q.toInt ≤ 246) ∨ (248 ≤ q.toInt ∧ q.toInt ≤ 767) ∨ (880 ≤ q.toInt ∧ q.toInt ≤ 893) ∨ (895 ≤ q.toInt ∧ q.toInt ≤ 8191) ∨ (8204 ≤ q.toInt ∧ q.toInt ≤ 8205) ∨ (8304 ≤ q.toInt ∧ q.toInt ≤ 8591) ∨ (11264 ≤ q.toInt ∧ q.toInt ≤ 12271) ∨ (12289 ≤ q.toInt ∧ q.toInt ≤ 55295) ∨ (63744 ≤ q.toInt ∧ q.toInt ≤ 64975) ∨ (65008 ≤ q.toInt ∧ q.toInt ≤ 65533) ∨ (65536 ≤ q.toInt ∧ q.toInt ≤ 983039) then 1 else 0
theorem own_z_isn_1 (q : Int32) (h : (65 ≤ q.toInt ∧ q.toInt ≤ 90) ∨ (97 ≤ q.toInt ∧ q.toInt ≤ 122) ∨ (95 ≤ q.toInt ∧ q.toInt ≤ 95) ∨ (192 ≤ q.toInt ∧ q.toInt ≤ 214) ∨ (216 ≤ q.toInt ∧ q.toInt ≤ 246) ∨ (248 ≤ q.toInt ∧ q.toInt ≤ 767) ∨ (880 ≤ q.toInt ∧ q.toInt ≤ 893) ∨ (895 ≤ q.toInt ∧ q.toInt ≤ 8191) ∨ (8204 ≤ q.toInt ∧ q.toInt ≤ 8205) ∨ (8304 ≤ q.toInt ∧ q.toInt ≤ 8591) ∨ (11264 ≤ q.toInt ∧ q.toInt ≤ 12271) ∨ (12289 ≤ q.toInt ∧ q.toInt ≤ 55295) ∨ (63744 ≤ q.toInt ∧ q.toInt ≤ 64975) ∨ (65008 ≤ q.toInt ∧ q.toInt ≤ 65533) ∨ (65536 ≤ q.toInt ∧ q.toInt ≤ 983039)) : some (Value.int 1) = some (Value.int (own_z_isn q)) := by unfold own_z_isn; rw [if_pos h]
theorem own_z_isn_0 (q : Int32) (h : ¬ ((65 ≤ q.toInt ∧ q.toInt ≤ 90) ∨ (97 ≤ q.toInt ∧ q.toInt ≤ 122) ∨ (95 ≤ q.toInt ∧ q.toInt ≤ 95) ∨ (192 ≤ q.toInt ∧ q.toInt ≤ 214) ∨ (216 ≤ q.toInt ∧ q.toInt ≤ 246) ∨ (248 ≤ q.toInt ∧ q.toInt ≤ 767) ∨ (880 ≤ q.toInt ∧ q.toInt ≤ 893) ∨ (895 ≤ q.toInt ∧ q.toInt ≤ 8191) ∨ (8204 ≤ q.toInt ∧ q.toInt ≤ 8205) ∨ (8304 ≤ q.toInt ∧ q.toInt ≤ 8591) ∨ (11264 ≤ q.toInt ∧ q.toInt ≤ 12271) ∨ (12289 ≤ q.toInt ∧ q.toInt ≤ 55295) ∨ (63744 ≤ q.toInt ∧ q.toInt ≤ 64975) ∨ (65008 ≤ q.toInt ∧ q.toInt ≤ 65533) ∨ (65536 ≤ q.toInt ∧ q.toInt ≤ 983039))) : some (Value.int 0) = some (Value.int (own_z_isn q)) := by unfold own_z_isn; rw [if_neg h]
theorem d1_0 : decode prog_69_method_10_code 0 = .ok (.iload_n 0, 1) := by decide +kernel
theorem d1_1 : decode prog_69_method_10_code 1 = .ok (.bipush 65, 2) := by decide +kernel
theorem d1_3 : decode prog_69_method_10_code 3 = .ok (.if_icmp .lt 9, 3) := by decide +kernel
theorem d1_6 : decode prog_69_method_10_code 6 = .ok (.iload_n 0, 1) := by decide +kernel
theorem d1_7 : decode prog_69_method_10_code 7 = .ok (.bipush 90, 2) := by decide +kernel
theorem d1_9 : decode prog_69_method_10_code 9 = .ok (.if_icmp .le 182, 3) := by decide +kernel
theorem d1_12 : decode prog_69_method_10_code 12 = .ok (.iload_n 0, 1) := by decide +kernel
theorem d1_13 : decode prog_69_method_10_code 13 = .ok (.bipush 97, 2) := by decide +kernel
theorem d1_15 : decode prog_69_method_10_code 15 = .ok (.if_icmp .lt 9, 3) := by decide +kernel
theorem d1_18 : decode prog_69_method_10_code 18 = .ok (.iload_n 0, 1) := by decide +kernel
theorem d1_19 : decode prog_69_method_10_code 19 = .ok (.bipush 122, 2) := by decide +kernel
theorem d1_21 : decode prog_69_method_10_code 21 = .ok (.if_icmp .le 170, 3) := by decide +kernel
theorem d1_24 : decode prog_69_method_10_code 24 = .ok (.iload_n 0, 1) := by decide +kernel
theorem d1_25 : decode prog_69_method_10_code 25 = .ok (.bipush 95, 2) := by decide +kernel
theorem d1_27 : decode prog_69_method_10_code 27 = .ok (.if_icmp .eq 164, 3) := by decide +kernel
theorem d1_30 : decode prog_69_method_10_code 30 = .ok (.iload_n 0, 1) := by decide +kernel
theorem d1_31 : decode prog_69_method_10_code 31 = .ok (.sipush 192, 3) := by decide +kernel
theorem d1_34 : decode prog_69_method_10_code 34 = .ok (.if_icmp .lt 10, 3) := by decide +kernel
theorem d1_37 : decode prog_69_method_10_code 37 = .ok (.iload_n 0, 1) := by decide +kernel
theorem d1_38 : decode prog_69_method_10_code 38 = .ok (.sipush 214, 3) := by decide +kernel
theorem d1_41 : decode prog_69_method_10_code 41 = .ok (.if_icmp .le 150, 3) := by decide +kernel
theorem d1_44 : decode prog_69_method_10_code 44 = .ok (.iload_n 0, 1) := by decide +kernel
theorem d1_45 : decode prog_69_method_10_code 45 = .ok (.sipush 216, 3) := by decide +kernel
theorem d1_48 : decode prog_69_method_10_code 48 = .ok (.if_icmp .lt 10, 3) := by decide +kernel
theorem d1_51 : decode prog_69_method_10_code 51 = .ok (.iload_n 0, 1) := by decide +kernel
theorem d1_52 : decode prog_69_method_10_code 52 = .ok (.sipush 246, 3) := by decide +kernel
theorem d1_55 : decode prog_69_method_10_code 55 = .ok (.if_icmp .le 136, 3) := by decide +kernel
theorem d1_58 : decode prog_69_method_10_code 58 = .ok (.iload_n 0, 1) := by decide +kernel
theorem d1_59 : decode prog_69_method_10_code 59 = .ok (.sipush 248, 3) := by decide +kernel
theorem d1_62 : decode prog_69_method_10_code 62 = .ok (.if_icmp .lt 10, 3) := by decide +kernel
theorem d1_65 : decode prog_69_method_10_code 65 = .ok (.iload_n 0, 1) := by decide +kernel
theorem d1_66 : decode prog_69_method_10_code 66 = .ok (.sipush 767, 3) := by decide +kernel
theorem d1_69 : decode prog_69_method_10_code 69 = .ok (.if_icmp .le 122, 3) := by decide +kernel
theorem d1_72 : decode prog_69_method_10_code 72 = .ok (.iload_n 0, 1) := by decide +kernel
theorem d1_73 : decode prog_69_method_10_code 73 = .ok (.sipush 880, 3) := by decide +kernel
theorem d1_76 : decode prog_69_method_10_code 76 = .ok (.if_icmp .lt 10, 3) := by decide +kernel
theorem d1_79 : decode prog_69_method_10_code 79 = .ok (.iload_n 0, 1) := by decide +kernel
theorem d1_80 : decode prog_69_method_10_code 80 = .ok (.sipush 893, 3) := by decide +kernel
theorem d1_83 : decode prog_69_method_10_code 83 = .ok (.if_icmp .le 108, 3) := by decide +kernel
theorem d1_86 : decode prog_69_method_10_code 86 = .ok (.iload_n 0, 1) := by decide +kernel
theorem d1_87 : decode prog_69_method_10_code 87 = .ok (.sipush 895, 3) := by decide +kernel
theorem d1_90 : decode prog_69_method_10_code 90 = .ok (.if_icmp .lt 10, 3) := by decide +kernel
theorem d1_93 : decode prog_69_method_10_code 93 = .ok (.iload_n 0, 1) := by decide +kernel
theorem d1_94 : decode prog_69_method_10_code 94 = .ok (.sipush 8191, 3) := by decide +kernel
theorem d1_97 : decode prog_69_method_10_code 97 = .ok (.if_icmp .le 94, 3) := by decide +kernel
theorem d1_100 : decode prog_69_method_10_code 100 = .ok (.iload_n 0, 1) := by decide +kernel
theorem d1_101 : decode prog_69_method_10_code 101 = .ok (.sipush 8204, 3) := by decide +kernel
theorem d1_104 : decode prog_69_method_10_code 104 = .ok (.if_icmp .lt 10, 3) := by decide +kernel
theorem d1_107 : decode prog_69_method_10_code 107 = .ok (.iload_n 0, 1) := by decide +kernel
theorem d1_108 : decode prog_69_method_10_code 108 = .ok (.sipush 8205, 3) := by decide +kernel
theorem d1_111 : decode prog_69_method_10_code 111 = .ok (.if_icmp .le 80, 3) := by decide +kernel
theorem d1_114 : decode prog_69_method_10_code 114 = .ok (.iload_n 0, 1) := by decide +kernel
theorem d1_115 : decode prog_69_method_10_code 115 = .ok (.sipush 8304, 3) := by decide +kernel
theorem d1_118 : decode prog_69_method_10_code 118 = .ok (.if_icmp .lt 10, 3) := by decide +kernel
theorem d1_121 : decode prog_69_method_10_code 121 = .ok (.iload_n 0, 1) := by decide +kernel
theorem d1_122 : decode prog_69_method_10_code 122 = .ok (.sipush 8591, 3) := by decide +kernel
theorem d1_125 : decode prog_69_method_10_code 125 = .ok (.if_icmp .le 66, 3) := by decide +kernel
theorem d1_128 : decode prog_69_method_10_code 128 = .ok (.iload_n 0, 1) := by decide +kernel
theorem d1_129 : decode prog_69_method_10_code 129 = .ok (.sipush 11264, 3) := by decide +kernel
theorem d1_132 : decode prog_69_method_10_code 132 = .ok (.if_icmp .lt 10, 3) := by decide +kernel
theorem d1_135 : decode prog_69_method_10_code 135 = .ok (.iload_n 0, 1) := by decide +kernel
theorem d1_136 : decode prog_69_method_10_code 136 = .ok (.sipush 12271, 3) := by decide +kernel
theorem d1_139 : decode prog_69_method_10_code 139 = .ok (.if_icmp .le 52, 3) := by decide +kernel
theorem d1_142 : decode prog_69_method_10_code 142 = .ok (.iload_n 0, 1) := by decide +kernel
theorem d1_143 : decode prog_69_method_10_code 143 = .ok (.sipush 12289, 3) := by decide +kernel
theorem d1_146 : decode prog_69_method_10_code 146 = .ok (.if_icmp .lt 9, 3) := by decide +kernel
theorem d1_149 : decode prog_69_method_10_code 149 = .ok (.iload_n 0, 1) := by decide +kernel
theorem d1_150 : decode prog_69_method_10_code 150 = .ok (.ldc 83, 2) := by decide +kernel
theorem d1_152 : decode prog_69_method_10_code 152 = .ok (.if_icmp .le 39, 3) := by decide +kernel
theorem d1_155 : decode prog_69_method_10_code 155 = .ok (.iload_n 0, 1) := by decide +kernel
theorem d1_156 : decode prog_69_method_10_code 156 = .ok (.ldc 84, 2) := by decide +kernel
theorem d1_158 : decode prog_69_method_10_code 158 = .ok (.if_icmp .lt 9, 3) := by decide +kernel
theorem d1_161 : decode prog_69_method_10_code 161 = .ok (.iload_n 0, 1) := by decide +kernel
theorem d1_162 : decode prog_69_method_10_code 162 = .ok (.ldc 85, 2) := by decide +kernel
theorem d1_164 : decode prog_69_method_10_code 164 = .ok (.if_icmp .le 27, 3) := by decide +kernel
theorem d1_167 : decode prog_69_method_10_code 167 = .ok (.iload_n 0, 1) := by decide +kernel
theorem d1_168 : decode prog_69_method_10_code 168 = .ok (.ldc 86, 2) := by decide +kernel
theorem d1_170 : decode prog_69_method_10_code 170 = .ok (.if_icmp .lt 9, 3) := by decide +kernel
theorem d1_173 : decode prog_69_method_10_code 173 = .ok (.iload_n 0, 1) := by decide +kernel
theorem d1_174 : decode prog_69_method_10_code 174 = .ok (.ldc 87, 2) := by decide +kernel
theorem d1_176 : decode prog_69_method_10_code 176 = .ok (.if_icmp .le 15, 3) := by decide +kernel
theorem d1_179 : decode prog_69_method_10_code 179 = .ok (.iload_n 0, 1) := by decide +kernel
theorem d1_180 : decode prog_69_method_10_code 180 = .ok (.ldc 88, 2) := by decide +kernel
theorem d1_182 : decode prog_69_method_10_code 182 = .ok (.if_icmp .lt 13, 3) := by decide +kernel
theorem d1_185 : decode prog_69_method_10_code 185 = .ok (.iload_n 0, 1) := by decide +kernel
theorem d1_186 : decode prog_69_method_10_code 186 = .ok (.ldc 89, 2) := by decide +kernel
theorem d1_188 : decode prog_69_method_10_code 188 = .ok (.if_icmp .gt 7, 3) := by decide +kernel
theorem d1_191 : decode prog_69_method_10_code 191 = .ok (.iconst 1, 1) := by decide +kernel
theorem d1_192 : decode prog_69_method_10_code 192 = .ok (.goto 4, 3) := by decide +kernel
theorem d1_195 : decode prog_69_method_10_code 195 = .ok (.iconst 0, 1) := by decide +kernel
theorem d1_196 : decode prog_69_method_10_code 196 = .ok (.ireturn, 1) := by decide +kernel
theorem pn_0 : plainName "com/example/precedence/precedence/tree/Xml" = true := by first | (simp [plainName, overriddenIn]; done) | decide +kernel
theorem ef_isn (m : MethodId) (q : Int32) : entryFrame m #[(.int q)] 1 = mkF m 0 #[.val (.int q)] [] := by first | (simp [entryFrame, mkF, argsToLocals, Value.category, maxLocals]; done) | rfl
def Q_isn (Z : State) (q : Int32) (h0 : Heap) (n0 : Nat) : Option Value → Heap → List Loc → Prop := fun v h L => v = some (.int (own_z_isn q)) ∧ Fr n0 L ∧ h = h0
set_option maxRecDepth 65536 in
set_option maxHeartbeats 40000000 in
theorem rm_isn (l : Launch) (Z : State) (a0 : Array Value) (hw : ∀ d ∈ tables_1, d.before a0 Z = true) (ws : List Jvm.Cond) (q : Int32) (h0 : Heap) (n0 : Nat) (Z0 : n0 ≤ h0.size)  :
    MetFree l (⟨"com/example/precedence/precedence/tree/Xml", "isNameStartChar", "(I)Z"⟩ : MethodName) (head1 (Jvm.Cond.code (⟨"com/example/precedence/precedence/tree/Xml", "isNameStartChar", "(I)Z"⟩ : MethodName) prog_69_method_10_code 1 (some .boolean) :: ws) ({ frames := 0, cells := 0, slots := 0, locals := 0 } : Room)) (fun aX U => aX = #[(.int q)] ∧ Z.Warmed39 U.vm ∧ U.heap = h0) (fun _ _ _ _ _ => True) (fun _ U o U' => ∃ v L, o = .returned v ∧ (Q_isn Z q h0 n0) v U'.heap L ∧ FrameEnd U o U' L ({ frames := 0, cells := 0, slots := 0, locals := 0 } : Room).cells ({ frames := 0, cells := 0, slots := 0, locals := 0 } : Room).slots) := by
  refine own_met (Q := (Q_isn Z q h0 n0)) (plainFor_of_name (x := (⟨"com/example/precedence/precedence/tree/Xml", "isNameStartChar", "(I)Z"⟩ : MethodName)) pn_0) (fun m => ef_isn m q) ?_
  intro p e s m below meth cD s₁ hx hby hml hret hlk hZ hown hnm X0 e0 hs0
  have hown : s.vm.findClass "com/example/precedence/precedence/tree/Xml" = some m.cls := hown
  have N0 := Fr.nil n0
  refine own_st (fr' := (mkF m 1 #[.val (.int q)] [(.int q)])) (fun t k => XS.iloadN X0.here hx rfl (hb hby d1_0) rfl  k) ?_
  refine own_st (fr' := (mkF m 3 #[.val (.int q)] [(.int (65 : Int32)), (.int q)])) (fun t k => XS.bipush X0.here hx rfl (hb hby d1_1) k) ?_
  suffices J1 : ((q.toInt < 65) ∨ (¬ q.toInt < 65 ∧ 90 < q.toInt)) → Go p e below s ({ frames := 0, cells := 0, slots := 0, locals := 0 } : Room).cells ({ frames := 0, cells := 0, slots := 0, locals := 0 } : Room).slots (Q_isn Z q h0 n0) s₁ (mkF m 12 #[.val (.int q)] []) by
    by_cases hc2 : q.toInt < 65
    · refine own_st (fr' := (mkF m 12 #[.val (.int q)] [])) (fun t k => XS.icmpYes X0.here hx rfl (pc0 := 3) (pc' := 12) rfl (hb hby d1_3) rfl (own_tlt (x := q) (y := (65 : Int32)) hc2).1 (by decide) (by decide) k) ?_
      exact J1   (Or.inl hc2)
    · refine own_st (fr' := (mkF m 6 #[.val (.int q)] [])) (fun t k => XS.icmpNo X0.here hx rfl (hb hby d1_3) rfl (own_flt (x := q) (y := (65 : Int32)) hc2).1 k) ?_
      refine own_st (fr' := (mkF m 7 #[.val (.int q)] [(.int q)])) (fun t k => XS.iloadN X0.here hx rfl (hb hby d1_6) rfl  k) ?_
      refine own_st (fr' := (mkF m 9 #[.val (.int q)] [(.int (90 : Int32)), (.int q)])) (fun t k => XS.bipush X0.here hx rfl (hb hby d1_7) k) ?_
      by_cases hc3 : 90 < q.toInt
      · refine own_st (fr' := (mkF m 12 #[.val (.int q)] [])) (fun t k => XS.icmpNo X0.here hx rfl (hb hby d1_9) rfl (own_tlt (x := (90 : Int32)) (y := q) hc3).2.2.2 k) ?_
        exact J1   (Or.inr ⟨hc2, hc3⟩)
      · refine own_st (fr' := (mkF m 191 #[.val (.int q)] [])) (fun t k => XS.icmpYes X0.here hx rfl (pc0 := 9) (pc' := 191) rfl (hb hby d1_9) rfl (own_flt (x := (90 : Int32)) (y := q) hc3).2.2.2 (by decide) (by decide) k) ?_
        refine own_st (fr' := (mkF m 192 #[.val (.int q)] [(.int (1 : Int32))])) (fun t k => XS.iconst X0.here hx rfl (hb hby d1_191) k) ?_
        refine own_st (fr' := (mkF m 196 #[.val (.int q)] [(.int (1 : Int32))])) (fun t k => XS.goto X0.here hx rfl (pc0 := 192) (pc' := 196) rfl (hb hby d1_192) (by decide) (by decide) k) ?_
        exact own_retZ X0 hx hlk hret (Or.inr rfl) (hb hby d1_196) (by decide) (by decide) (⟨own_z_isn_1 q (by omega), N0, e0⟩)
  intro hz4
  refine own_st (fr' := (mkF m 13 #[.val (.int q)] [(.int q)])) (fun t k => XS.iloadN X0.here hx rfl (hb hby d1_12) rfl  k) ?_
  refine own_st (fr' := (mkF m 15 #[.val (.int q)] [(.int (97 : Int32)), (.int q)])) (fun t k => XS.bipush X0.here hx rfl (hb hby d1_13) k) ?_
  suffices J5 : ((q.toInt < 97) ∨ (¬ q.toInt < 97 ∧ 122 < q.toInt)) → Go p e below s ({ frames := 0, cells := 0, slots := 0, locals := 0 } : Room).cells ({ frames := 0, cells := 0, slots := 0, locals := 0 } : Room).slots (Q_isn Z q h0 n0) s₁ (mkF m 24 #[.val (.int q)] []) by
    by_cases hc6 : q.toInt < 97
    · refine own_st (fr' := (mkF m 24 #[.val (.int q)] [])) (fun t k => XS.icmpYes X0.here hx rfl (pc0 := 15) (pc' := 24) rfl (hb hby d1_15) rfl (own_tlt (x := q) (y := (97 : Int32)) hc6).1 (by decide) (by decide) k) ?_
      exact J5   (Or.inl hc6)
    · refine own_st (fr' := (mkF m 18 #[.val (.int q)] [])) (fun t k => XS.icmpNo X0.here hx rfl (hb hby d1_15) rfl (own_flt (x := q) (y := (97 : Int32)) hc6).1 k) ?_
      refine own_st (fr' := (mkF m 19 #[.val (.int q)] [(.int q)])) (fun t k => XS.iloadN X0.here hx rfl (hb hby d1_18) rfl  k) ?_
      refine own_st (fr' := (mkF m 21 #[.val (.int q)] [(.int (122 : Int32)), (.int q)])) (fun t k => XS.bipush X0.here hx rfl (hb hby d1_19) k) ?_
      by_cases hc7 : 122 < q.toInt
      · refine own_st (fr' := (mkF m 24 #[.val (.int q)] [])) (fun t k => XS.icmpNo X0.here hx rfl (hb hby d1_21) rfl (own_tlt (x := (122 : Int32)) (y := q) hc7).2.2.2 k) ?_
        exact J5   (Or.inr ⟨hc6, hc7⟩)
      · refine own_st (fr' := (mkF m 191 #[.val (.int q)] [])) (fun t k => XS.icmpYes X0.here hx rfl (pc0 := 21) (pc' := 191) rfl (hb hby d1_21) rfl (own_flt (x := (122 : Int32)) (y := q) hc7).2.2.2 (by decide) (by decide) k) ?_
        refine own_st (fr' := (mkF m 192 #[.val (.int q)] [(.int (1 : Int32))])) (fun t k => XS.iconst X0.here hx rfl (hb hby d1_191) k) ?_
        refine own_st (fr' := (mkF m 196 #[.val (.int q)] [(.int (1 : Int32))])) (fun t k => XS.goto X0.here hx rfl (pc0 := 192) (pc' := 196) rfl (hb hby d1_192) (by decide) (by decide) k) ?_
        exact own_retZ X0 hx hlk hret (Or.inr rfl) (hb hby d1_196) (by decide) (by decide) (⟨own_z_isn_1 q (by omega), N0, e0⟩)
  intro hz8
  refine own_st (fr' := (mkF m 25 #[.val (.int q)] [(.int q)])) (fun t k => XS.iloadN X0.here hx rfl (hb hby d1_24) rfl  k) ?_
  refine own_st (fr' := (mkF m 27 #[.val (.int q)] [(.int (95 : Int32)), (.int q)])) (fun t k => XS.bipush X0.here hx rfl (hb hby d1_25) k) ?_
  suffices J9 : ((¬ q.toInt = 95 ∧ q.toInt < 192) ∨ (¬ q.toInt = 95 ∧ ¬ q.toInt < 192 ∧ 214 < q.toInt)) → Go p e below s ({ frames := 0, cells := 0, slots := 0, locals := 0 } : Room).cells ({ frames := 0, cells := 0, slots := 0, locals := 0 } : Room).slots (Q_isn Z q h0 n0) s₁ (mkF m 44 #[.val (.int q)] []) by
    by_cases hc10 : q.toInt = 95
    · refine own_st (fr' := (mkF m 191 #[.val (.int q)] [])) (fun t k => XS.icmpYes X0.here hx rfl (pc0 := 27) (pc' := 191) rfl (hb hby d1_27) rfl (own_teq (x := q) (y := (95 : Int32)) hc10).1 (by decide) (by decide) k) ?_
      refine own_st (fr' := (mkF m 192 #[.val (.int q)] [(.int (1 : Int32))])) (fun t k => XS.iconst X0.here hx rfl (hb hby d1_191) k) ?_
      refine own_st (fr' := (mkF m 196 #[.val (.int q)] [(.int (1 : Int32))])) (fun t k => XS.goto X0.here hx rfl (pc0 := 192) (pc' := 196) rfl (hb hby d1_192) (by decide) (by decide) k) ?_
      exact own_retZ X0 hx hlk hret (Or.inr rfl) (hb hby d1_196) (by decide) (by decide) (⟨own_z_isn_1 q (by omega), N0, e0⟩)
    · refine own_st (fr' := (mkF m 30 #[.val (.int q)] [])) (fun t k => XS.icmpNo X0.here hx rfl (hb hby d1_27) rfl (own_feq (x := q) (y := (95 : Int32)) hc10).1 k) ?_
      refine own_st (fr' := (mkF m 31 #[.val (.int q)] [(.int q)])) (fun t k => XS.iloadN X0.here hx rfl (hb hby d1_30) rfl  k) ?_
      refine own_st (fr' := (mkF m 34 #[.val (.int q)] [(.int (192 : Int32)), (.int q)])) (fun t k => XS.sipush X0.here hx rfl (hb hby d1_31) k) ?_
      by_cases hc11 : q.toInt < 192
      · refine own_st (fr' := (mkF m 44 #[.val (.int q)] [])) (fun t k => XS.icmpYes X0.here hx rfl (pc0 := 34) (pc' := 44) rfl (hb hby d1_34) rfl (own_tlt (x := q) (y := (192 : Int32)) hc11).1 (by decide) (by decide) k) ?_
        exact J9   (Or.inl ⟨hc10, hc11⟩)
      · refine own_st (fr' := (mkF m 37 #[.val (.int q)] [])) (fun t k => XS.icmpNo X0.here hx rfl (hb hby d1_34) rfl (own_flt (x := q) (y := (192 : Int32)) hc11).1 k) ?_
        refine own_st (fr' := (mkF m 38 #[.val (.int q)] [(.int q)])) (fun t k => XS.iloadN X0.here hx rfl (hb hby d1_37) rfl  k) ?_
        refine own_st (fr' := (mkF m 41 #[.val (.int q)] [(.int (214 : Int32)), (.int q)])) (fun t k => XS.sipush X0.here hx rfl (hb hby d1_38) k) ?_
        by_cases hc12 : 214 < q.toInt
        · refine own_st (fr' := (mkF m 44 #[.val (.int q)] [])) (fun t k => XS.icmpNo X0.here hx rfl (hb hby d1_41) rfl (own_tlt (x := (214 : Int32)) (y := q) hc12).2.2.2 k) ?_
          exact J9   (Or.inr ⟨hc10, hc11, hc12⟩)
        · refine own_st (fr' := (mkF m 191 #[.val (.int q)] [])) (fun t k => XS.icmpYes X0.here hx rfl (pc0 := 41) (pc' := 191) rfl (hb hby d1_41) rfl (own_flt (x := (214 : Int32)) (y := q) hc12).2.2.2 (by decide) (by decide) k) ?_
          refine own_st (fr' := (mkF m 192 #[.val (.int q)] [(.int (1 : Int32))])) (fun t k => XS.iconst X0.here hx rfl (hb hby d1_191) k) ?_
          refine own_st (fr' := (mkF m 196 #[.val (.int q)] [(.int (1 : Int32))])) (fun t k => XS.goto X0.here hx rfl (pc0 := 192) (pc' := 196) rfl (hb hby d1_192) (by decide) (by decide) k) ?_
          exact own_retZ X0 hx hlk hret (Or.inr rfl) (hb hby d1_196) (by decide) (by decide) (⟨own_z_isn_1 q (by omega), N0, e0⟩)
  intro hz13
  refine own_st (fr' := (mkF m 45 #[.val (.int q)] [(.int q)])) (fun t k => XS.iloadN X0.here hx rfl (hb hby d1_44) rfl  k) ?_
  refine own_st (fr' := (mkF m 48 #[.val (.int q)] [(.int (216 : Int32)), (.int q)])) (fun t k => XS.sipush X0.here hx rfl (hb hby d1_45) k) ?_
  suffices J14 : ((q.toInt < 216) ∨ (¬ q.toInt < 216 ∧ 246 < q.toInt)) → Go p e below s ({ frames := 0, cells := 0, slots := 0, locals := 0 } : Room).cells ({ frames := 0, cells := 0, slots := 0, locals := 0 } : Room).slots (Q_isn Z q h0 n0) s₁ (mkF m 58 #[.val (.int q)] []) by
    by_cases hc15 : q.toInt < 216
    · refine own_st (fr' := (mkF m 58 #[.val (.int q)] [])) (fun t k => XS.icmpYes X0.here hx rfl (pc0 := 48) (pc' := 58) rfl (hb hby d1_48) rfl (own_tlt (x := q) (y := (216 : Int32)) hc15).1 (by decide) (by decide) k) ?_
      exact J14   (Or.inl hc15)
    · refine own_st (fr' := (mkF m 51 #[.val (.int q)] [])) (fun t k => XS.icmpNo X0.here hx rfl (hb hby d1_48) rfl (own_flt (x := q) (y := (216 : Int32)) hc15).1 k) ?_
      refine own_st (fr' := (mkF m 52 #[.val (.int q)] [(.int q)])) (fun t k => XS.iloadN X0.here hx rfl (hb hby d1_51) rfl  k) ?_
      refine own_st (fr' := (mkF m 55 #[.val (.int q)] [(.int (246 : Int32)), (.int q)])) (fun t k => XS.sipush X0.here hx rfl (hb hby d1_52) k) ?_
      by_cases hc16 : 246 < q.toInt
      · refine own_st (fr' := (mkF m 58 #[.val (.int q)] [])) (fun t k => XS.icmpNo X0.here hx rfl (hb hby d1_55) rfl (own_tlt (x := (246 : Int32)) (y := q) hc16).2.2.2 k) ?_
        exact J14   (Or.inr ⟨hc15, hc16⟩)
      · refine own_st (fr' := (mkF m 191 #[.val (.int q)] [])) (fun t k => XS.icmpYes X0.here hx rfl (pc0 := 55) (pc' := 191) rfl (hb hby d1_55) rfl (own_flt (x := (246 : Int32)) (y := q) hc16).2.2.2 (by decide) (by decide) k) ?_
        refine own_st (fr' := (mkF m 192 #[.val (.int q)] [(.int (1 : Int32))])) (fun t k => XS.iconst X0.here hx rfl (hb hby d1_191) k) ?_
        refine own_st (fr' := (mkF m 196 #[.val (.int q)] [(.int (1 : Int32))])) (fun t k => XS.goto X0.here hx rfl (pc0 := 192) (pc' := 196) rfl (hb hby d1_192) (by decide) (by decide) k) ?_
        exact own_retZ X0 hx hlk hret (Or.inr rfl) (hb hby d1_196) (by decide) (by decide) (⟨own_z_isn_1 q (by omega), N0, e0⟩)
  intro hz17
  refine own_st (fr' := (mkF m 59 #[.val (.int q)] [(.int q)])) (fun t k => XS.iloadN X0.here hx rfl (hb hby d1_58) rfl  k) ?_
  refine own_st (fr' := (mkF m 62 #[.val (.int q)] [(.int (248 : Int32)), (.int q)])) (fun t k => XS.sipush X0.here hx rfl (hb hby d1_59) k) ?_
  suffices J18 : ((q.toInt < 248) ∨ (¬ q.toInt < 248 ∧ 767 < q.toInt)) → Go p e below s ({ frames := 0, cells := 0, slots := 0, locals := 0 } : Room).cells ({ frames := 0, cells := 0, slots := 0, locals := 0 } : Room).slots (Q_isn Z q h0 n0) s₁ (mkF m 72 #[.val (.int q)] []) by
    by_cases hc19 : q.toInt < 248
    · refine own_st (fr' := (mkF m 72 #[.val (.int q)] [])) (fun t k => XS.icmpYes X0.here hx rfl (pc0 := 62) (pc' := 72) rfl (hb hby d1_62) rfl (own_tlt (x := q) (y := (248 : Int32)) hc19).1 (by decide) (by decide) k) ?_
      exact J18   (Or.inl hc19)
    · refine own_st (fr' := (mkF m 65 #[.val (.int q)] [])) (fun t k => XS.icmpNo X0.here hx rfl (hb hby d1_62) rfl (own_flt (x := q) (y := (248 : Int32)) hc19).1 k) ?_
      refine own_st (fr' := (mkF m 66 #[.val (.int q)] [(.int q)])) (fun t k => XS.iloadN X0.here hx rfl (hb hby d1_65) rfl  k) ?_
      refine own_st (fr' := (mkF m 69 #[.val (.int q)] [(.int (767 : Int32)), (.int q)])) (fun t k => XS.sipush X0.here hx rfl (hb hby d1_66) k) ?_
      by_cases hc20 : 767 < q.toInt
      · refine own_st (fr' := (mkF m 72 #[.val (.int q)] [])) (fun t k => XS.icmpNo X0.here hx rfl (hb hby d1_69) rfl (own_tlt (x := (767 : Int32)) (y := q) hc20).2.2.2 k) ?_
        exact J18   (Or.inr ⟨hc19, hc20⟩)
      · refine own_st (fr' := (mkF m 191 #[.val (.int q)] [])) (fun t k => XS.icmpYes X0.here hx rfl (pc0 := 69) (pc' := 191) rfl (hb hby d1_69) rfl (own_flt (x := (767 : Int32)) (y := q) hc20).2.2.2 (by decide) (by decide) k) ?_
        refine own_st (fr' := (mkF m 192 #[.val (.int q)] [(.int (1 : Int32))])) (fun t k => XS.iconst X0.here hx rfl (hb hby d1_191) k) ?_
        refine own_st (fr' := (mkF m 196 #[.val (.int q)] [(.int (1 : Int32))])) (fun t k => XS.goto X0.here hx rfl (pc0 := 192) (pc' := 196) rfl (hb hby d1_192) (by decide) (by decide) k) ?_
        exact own_retZ X0 hx hlk hret (Or.inr rfl) (hb hby d1_196) (by decide) (by decide) (⟨own_z_isn_1 q (by omega), N0, e0⟩)
  intro hz21
  refine own_st (fr' := (mkF m 73 #[.val (.int q)] [(.int q)])) (fun t k => XS.iloadN X0.here hx rfl (hb hby d1_72) rfl  k) ?_
  refine own_st (fr' := (mkF m 76 #[.val (.int q)] [(.int (880 : Int32)), (.int q)])) (fun t k => XS.sipush X0.here hx rfl (hb hby d1_73) k) ?_
  suffices J22 : ((q.toInt < 880) ∨ (¬ q.toInt < 880 ∧ 893 < q.toInt)) → Go p e below s ({ frames := 0, cells := 0, slots := 0, locals := 0 } : Room).cells ({ frames := 0, cells := 0, slots := 0, locals := 0 } : Room).slots (Q_isn Z q h0 n0) s₁ (mkF m 86 #[.val (.int q)] []) by
    by_cases hc23 : q.toInt < 880
    · refine own_st (fr' := (mkF m 86 #[.val (.int q)] [])) (fun t k => XS.icmpYes X0.here hx rfl (pc0 := 76) (pc' := 86) rfl (hb hby d1_76) rfl (own_tlt (x := q) (y := (880 : Int32)) hc23).1 (by decide) (by decide) k) ?_
      exact J22   (Or.inl hc23)
    · refine own_st (fr' := (mkF m 79 #[.val (.int q)] [])) (fun t k => XS.icmpNo X0.here hx rfl (hb hby d1_76) rfl (own_flt (x := q) (y := (880 : Int32)) hc23).1 k) ?_
      refine own_st (fr' := (mkF m 80 #[.val (.int q)] [(.int q)])) (fun t k => XS.iloadN X0.here hx rfl (hb hby d1_79) rfl  k) ?_
      refine own_st (fr' := (mkF m 83 #[.val (.int q)] [(.int (893 : Int32)), (.int q)])) (fun t k => XS.sipush X0.here hx rfl (hb hby d1_80) k) ?_
      by_cases hc24 : 893 < q.toInt
      · refine own_st (fr' := (mkF m 86 #[.val (.int q)] [])) (fun t k => XS.icmpNo X0.here hx rfl (hb hby d1_83) rfl (own_tlt (x := (893 : Int32)) (y := q) hc24).2.2.2 k) ?_
        exact J22   (Or.inr ⟨hc23, hc24⟩)
      · refine own_st (fr' := (mkF m 191 #[.val (.int q)] [])) (fun t k => XS.icmpYes X0.here hx rfl (pc0 := 83) (pc' := 191) rfl (hb hby d1_83) rfl (own_flt (x := (893 : Int32)) (y := q) hc24).2.2.2 (by decide) (by decide) k) ?_
        refine own_st (fr' := (mkF m 192 #[.val (.int q)] [(.int (1 : Int32))])) (fun t k => XS.iconst X0.here hx rfl (hb hby d1_191) k) ?_
        refine own_st (fr' := (mkF m 196 #[.val (.int q)] [(.int (1 : Int32))])) (fun t k => XS.goto X0.here hx rfl (pc0 := 192) (pc' := 196) rfl (hb hby d1_192) (by decide) (by decide) k) ?_
        exact own_retZ X0 hx hlk hret (Or.inr rfl) (hb hby d1_196) (by decide) (by decide) (⟨own_z_isn_1 q (by omega), N0, e0⟩)
  intro hz25
  refine own_st (fr' := (mkF m 87 #[.val (.int q)] [(.int q)])) (fun t k => XS.iloadN X0.here hx rfl (hb hby d1_86) rfl  k) ?_
  refine own_st (fr' := (mkF m 90 #[.val (.int q)] [(.int (895 : Int32)), (.int q)])) (fun t k => XS.sipush X0.here hx rfl (hb hby d1_87) k) ?_
  suffices J26 : ((q.toInt < 895) ∨ (¬ q.toInt < 895 ∧ 8191 < q.toInt)) → Go p e below s ({ frames := 0, cells := 0, slots := 0, locals := 0 } : Room).cells ({ frames := 0, cells := 0, slots := 0, locals := 0 } : Room).slots (Q_isn Z q h0 n0) s₁ (mkF m 100 #[.val (.int q)] []) by
    by_cases hc27 : q.toInt < 895
    · refine own_st (fr' := (mkF m 100 #[.val (.int q)] [])) (fun t k => XS.icmpYes X0.here hx rfl (pc0 := 90) (pc' := 100) rfl (hb hby d1_90) rfl (own_tlt (x := q) (y := (895 : Int32)) hc27).1 (by decide) (by decide) k) ?_
      exact J26   (Or.inl hc27)
    · refine own_st (fr' := (mkF m 93 #[.val (.int q)] [])) (fun t k => XS.icmpNo X0.here hx rfl (hb hby d1_90) rfl (own_flt (x := q) (y := (895 : Int32)) hc27).1 k) ?_
      refine own_st (fr' := (mkF m 94 #[.val (.int q)] [(.int q)])) (fun t k => XS.iloadN X0.here hx rfl (hb hby d1_93) rfl  k) ?_
      refine own_st (fr' := (mkF m 97 #[.val (.int q)] [(.int (8191 : Int32)), (.int q)])) (fun t k => XS.sipush X0.here hx rfl (hb hby d1_94) k) ?_
      by_cases hc28 : 8191 < q.toInt
      · refine own_st (fr' := (mkF m 100 #[.val (.int q)] [])) (fun t k => XS.icmpNo X0.here hx rfl (hb hby d1_97) rfl (own_tlt (x := (8191 : Int32)) (y := q) hc28).2.2.2 k) ?_
        exact J26   (Or.inr ⟨hc27, hc28⟩)
      · refine own_st (fr' := (mkF m 191 #[.val (.int q)] [])) (fun t k => XS.icmpYes X0.here hx rfl (pc0 := 97) (pc' := 191) rfl (hb hby d1_97) rfl (own_flt (x := (8191 : Int32)) (y := q) hc28).2.2.2 (by decide) (by decide) k) ?_
        refine own_st (fr' := (mkF m 192 #[.val (.int q)] [(.int (1 : Int32))])) (fun t k => XS.iconst X0.here hx rfl (hb hby d1_191) k) ?_
        refine own_st (fr' := (mkF m 196 #[.val (.int q)] [(.int (1 : Int32))])) (fun t k => XS.goto X0.here hx rfl (pc0 := 192) (pc' := 196) rfl (hb hby d1_192) (by decide) (by decide) k) ?_
        exact own_retZ X0 hx hlk hret (Or.inr rfl) (hb hby d1_196) (by decide) (by decide) (⟨own_z_isn_1 q (by omega), N0, e0⟩)
  intro hz29
  refine own_st (fr' := (mkF m 101 #[.val (.int q)] [(.int q)])) (fun t k => XS.iloadN X0.here hx rfl (hb hby d1_100) rfl  k) ?_
  refine own_st (fr' := (mkF m 104 #[.val (.int q)] [(.int (8204 : Int32)), (.int q)])) (fun t k => XS.sipush X0.here hx rfl (hb hby d1_101) k) ?_
  suffices J30 : ((q.toInt < 8204) ∨ (¬ q.toInt < 8204 ∧ 8205 < q.toInt)) → Go p e below s ({ frames := 0, cells := 0, slots := 0, locals := 0 } : Room).cells ({ frames := 0, cells := 0, slots := 0, locals := 0 } : Room).slots (Q_isn Z q h0 n0) s₁ (mkF m 114 #[.val (.int q)] []) by
    by_cases hc31 : q.toInt < 8204
    · refine own_st (fr' := (mkF m 114 #[.val (.int q)] [])) (fun t k => XS.icmpYes X0.here hx rfl (pc0 := 104) (pc' := 114) rfl (hb hby d1_104) rfl (own_tlt (x := q) (y := (8204 : Int32)) hc31).1 (by decide) (by decide) k) ?_
      exact J30   (Or.inl hc31)
    · refine own_st (fr' := (mkF m 107 #[.val (.int q)] [])) (fun t k => XS.icmpNo X0.here hx rfl (hb hby d1_104) rfl (own_flt (x := q) (y := (8204 : Int32)) hc31).1 k) ?_
      refine own_st (fr' := (mkF m 108 #[.val (.int q)] [(.int q)])) (fun t k => XS.iloadN X0.here hx rfl (hb hby d1_107) rfl  k) ?_
      refine own_st (fr' := (mkF m 111 #[.val (.int q)] [(.int (8205 : Int32)), (.int q)])) (fun t k => XS.sipush X0.here hx rfl (hb hby d1_108) k) ?_
      by_cases hc32 : 8205 < q.toInt
      · refine own_st (fr' := (mkF m 114 #[.val (.int q)] [])) (fun t k => XS.icmpNo X0.here hx rfl (hb hby d1_111) rfl (own_tlt (x := (8205 : Int32)) (y := q) hc32).2.2.2 k) ?_
        exact J30   (Or.inr ⟨hc31, hc32⟩)
      · refine own_st (fr' := (mkF m 191 #[.val (.int q)] [])) (fun t k => XS.icmpYes X0.here hx rfl (pc0 := 111) (pc' := 191) rfl (hb hby d1_111) rfl (own_flt (x := (8205 : Int32)) (y := q) hc32).2.2.2 (by decide) (by decide) k) ?_
        refine own_st (fr' := (mkF m 192 #[.val (.int q)] [(.int (1 : Int32))])) (fun t k => XS.iconst X0.here hx rfl (hb hby d1_191) k) ?_
        refine own_st (fr' := (mkF m 196 #[.val (.int q)] [(.int (1 : Int32))])) (fun t k => XS.goto X0.here hx rfl (pc0 := 192) (pc' := 196) rfl (hb hby d1_192) (by decide) (by decide) k) ?_
        exact own_retZ X0 hx hlk hret (Or.inr rfl) (hb hby d1_196) (by decide) (by decide) (⟨own_z_isn_1 q (by omega), N0, e0⟩)
  intro hz33
  refine own_st (fr' := (mkF m 115 #[.val (.int q)] [(.int q)])) (fun t k => XS.iloadN X0.here hx rfl (hb hby d1_114) rfl  k) ?_
  refine own_st (fr' := (mkF m 118 #[.val (.int q)] [(.int (8304 : Int32)), (.int q)])) (fun t k => XS.sipush X0.here hx rfl (hb hby d1_115) k) ?_
  suffices J34 : ((q.toInt < 8304) ∨ (¬ q.toInt < 8304 ∧ 8591 < q.toInt)) → Go p e below s ({ frames := 0, cells := 0, slots := 0, locals := 0 } : Room).cells ({ frames := 0, cells := 0, slots := 0, locals := 0 } : Room).slots (Q_isn Z q h0 n0) s₁ (mkF m 128 #[.val (.int q)] []) by
    by_cases hc35 : q.toInt < 8304
    · refine own_st (fr' := (mkF m 128 #[.val (.int q)] [])) (fun t k => XS.icmpYes X0.here hx rfl (pc0 := 118) (pc' := 128) rfl (hb hby d1_118) rfl (own_tlt (x := q) (y := (8304 : Int32)) hc35).1 (by decide) (by decide) k) ?_
      exact J34   (Or.inl hc35)
    · refine own_st (fr' := (mkF m 121 #[.val (.int q)] [])) (fun t k => XS.icmpNo X0.here hx rfl (hb hby d1_118) rfl (own_flt (x := q) (y := (8304 : Int32)) hc35).1 k) ?_
      refine own_st (fr' := (mkF m 122 #[.val (.int q)] [(.int q)])) (fun t k => XS.iloadN X0.here hx rfl (hb hby d1_121) rfl  k) ?_
      refine own_st (fr' := (mkF m 125 #[.val (.int q)] [(.int (8591 : Int32)), (.int q)])) (fun t k => XS.sipush X0.here hx rfl (hb hby d1_122) k) ?_
      by_cases hc36 : 8591 < q.toInt
      · refine own_st (fr' := (mkF m 128 #[.val (.int q)] [])) (fun t k => XS.icmpNo X0.here hx rfl (hb hby d1_125) rfl (own_tlt (x := (8591 : Int32)) (y := q) hc36).2.2.2 k) ?_
        exact J34   (Or.inr ⟨hc35, hc36⟩)
      · refine own_st (fr' := (mkF m 191 #[.val (.int q)] [])) (fun t k => XS.icmpYes X0.here hx rfl (pc0 := 125) (pc' := 191) rfl (hb hby d1_125) rfl (own_flt (x := (8591 : Int32)) (y := q) hc36).2.2.2 (by decide) (by decide) k) ?_
        refine own_st (fr' := (mkF m 192 #[.val (.int q)] [(.int (1 : Int32))])) (fun t k => XS.iconst X0.here hx rfl (hb hby d1_191) k) ?_
        refine own_st (fr' := (mkF m 196 #[.val (.int q)] [(.int (1 : Int32))])) (fun t k => XS.goto X0.here hx rfl (pc0 := 192) (pc' := 196) rfl (hb hby d1_192) (by decide) (by decide) k) ?_
        exact own_retZ X0 hx hlk hret (Or.inr rfl) (hb hby d1_196) (by decide) (by decide) (⟨own_z_isn_1 q (by omega), N0, e0⟩)
  intro hz37
  refine own_st (fr' := (mkF m 129 #[.val (.int q)] [(.int q)])) (fun t k => XS.iloadN X0.here hx rfl (hb hby d1_128) rfl  k) ?_
  refine own_st (fr' := (mkF m 132 #[.val (.int q)] [(.int (11264 : Int32)), (.int q)])) (fun t k => XS.sipush X0.here hx rfl (hb hby d1_129) k) ?_
  suffices J38 : ((q.toInt < 11264) ∨ (¬ q.toInt < 11264 ∧ 12271 < q.toInt)) → Go p e below s ({ frames := 0, cells := 0, slots := 0, locals := 0 } : Room).cells ({ frames := 0, cells := 0, slots := 0, locals := 0 } : Room).slots (Q_isn Z q h0 n0) s₁ (mkF m 142 #[.val (.int q)] []) by
    by_cases hc39 : q.toInt < 11264
    · refine own_st (fr' := (mkF m 142 #[.val (.int q)] [])) (fun t k => XS.icmpYes X0.here hx rfl (pc0 := 132) (pc' := 142) rfl (hb hby d1_132) rfl (own_tlt (x := q) (y := (11264 : Int32)) hc39).1 (by decide) (by decide) k) ?_
      exact J38   (Or.inl hc39)
    · refine own_st (fr' := (mkF m 135 #[.val (.int q)] [])) (fun t k => XS.icmpNo X0.here hx rfl (hb hby d1_132) rfl (own_flt (x := q) (y := (11264 : Int32)) hc39).1 k) ?_
      refine own_st (fr' := (mkF m 136 #[.val (.int q)] [(.int q)])) (fun t k => XS.iloadN X0.here hx rfl (hb hby d1_135) rfl  k) ?_
      refine own_st (fr' := (mkF m 139 #[.val (.int q)] [(.int (12271 : Int32)), (.int q)])) (fun t k => XS.sipush X0.here hx rfl (hb hby d1_136) k) ?_
      by_cases hc40 : 12271 < q.toInt
      · refine own_st (fr' := (mkF m 142 #[.val (.int q)] [])) (fun t k => XS.icmpNo X0.here hx rfl (hb hby d1_139) rfl (own_tlt (x := (12271 : Int32)) (y := q) hc40).2.2.2 k) ?_
        exact J38   (Or.inr ⟨hc39, hc40⟩)
      · refine own_st (fr' := (mkF m 191 #[.val (.int q)] [])) (fun t k => XS.icmpYes X0.here hx rfl (pc0 := 139) (pc' := 191) rfl (hb hby d1_139) rfl (own_flt (x := (12271 : Int32)) (y := q) hc40).2.2.2 (by decide) (by decide) k) ?_
        refine own_st (fr' := (mkF m 192 #[.val (.int q)] [(.int (1 : Int32))])) (fun t k => XS.iconst X0.here hx rfl (hb hby d1_191) k) ?_
        refine own_st (fr' := (mkF m 196 #[.val (.int q)] [(.int (1 : Int32))])) (fun t k => XS.goto X0.here hx rfl (pc0 := 192) (pc' := 196) rfl (hb hby d1_192) (by decide) (by decide) k) ?_
        exact own_retZ X0 hx hlk hret (Or.inr rfl) (hb hby d1_196) (by decide) (by decide) (⟨own_z_isn_1 q (by omega), N0, e0⟩)
  intro hz41
  refine own_st (fr' := (mkF m 143 #[.val (.int q)] [(.int q)])) (fun t k => XS.iloadN X0.here hx rfl (hb hby d1_142) rfl  k) ?_
  refine own_st (fr' := (mkF m 146 #[.val (.int q)] [(.int (12289 : Int32)), (.int q)])) (fun t k => XS.sipush X0.here hx rfl (hb hby d1_143) k) ?_
  suffices J42 : ((q.toInt < 12289) ∨ (¬ q.toInt < 12289 ∧ 55295 < q.toInt)) → Go p e below s ({ frames := 0, cells := 0, slots := 0, locals := 0 } : Room).cells ({ frames := 0, cells := 0, slots := 0, locals := 0 } : Room).slots (Q_isn Z q h0 n0) s₁ (mkF m 155 #[.val (.int q)] []) by
    by_cases hc43 : q.toInt < 12289
    · refine own_st (fr' := (mkF m 155 #[.val (.int q)] [])) (fun t k => XS.icmpYes X0.here hx rfl (pc0 := 146) (pc' := 155) rfl (hb hby d1_146) rfl (own_tlt (x := q) (y := (12289 : Int32)) hc43).1 (by decide) (by decide) k) ?_
      exact J42   (Or.inl hc43)
    · refine own_st (fr' := (mkF m 149 #[.val (.int q)] [])) (fun t k => XS.icmpNo X0.here hx rfl (hb hby d1_146) rfl (own_flt (x := q) (y := (12289 : Int32)) hc43).1 k) ?_
      refine own_st (fr' := (mkF m 150 #[.val (.int q)] [(.int q)])) (fun t k => XS.iloadN X0.here hx rfl (hb hby d1_149) rfl  k) ?_
      refine own_st (fr' := (mkF m 152 #[.val (.int q)] [(.int (55295 : Int32)), (.int q)])) (fun t k => X0.ldcInt hx hown (mvT hZ (hw _ (List.mem_of_getElem? (i := 28) rfl))) (g := (mkF m 150 #[.val (.int q)] [(.int q)])) rfl (hb hby d1_150) t k) ?_
      by_cases hc44 : 55295 < q.toInt
      · refine own_st (fr' := (mkF m 155 #[.val (.int q)] [])) (fun t k => XS.icmpNo X0.here hx rfl (hb hby d1_152) rfl (own_tlt (x := (55295 : Int32)) (y := q) hc44).2.2.2 k) ?_
        exact J42   (Or.inr ⟨hc43, hc44⟩)
      · refine own_st (fr' := (mkF m 191 #[.val (.int q)] [])) (fun t k => XS.icmpYes X0.here hx rfl (pc0 := 152) (pc' := 191) rfl (hb hby d1_152) rfl (own_flt (x := (55295 : Int32)) (y := q) hc44).2.2.2 (by decide) (by decide) k) ?_
        refine own_st (fr' := (mkF m 192 #[.val (.int q)] [(.int (1 : Int32))])) (fun t k => XS.iconst X0.here hx rfl (hb hby d1_191) k) ?_
        refine own_st (fr' := (mkF m 196 #[.val (.int q)] [(.int (1 : Int32))])) (fun t k => XS.goto X0.here hx rfl (pc0 := 192) (pc' := 196) rfl (hb hby d1_192) (by decide) (by decide) k) ?_
        exact own_retZ X0 hx hlk hret (Or.inr rfl) (hb hby d1_196) (by decide) (by decide) (⟨own_z_isn_1 q (by omega), N0, e0⟩)
  intro hz45
  refine own_st (fr' := (mkF m 156 #[.val (.int q)] [(.int q)])) (fun t k => XS.iloadN X0.here hx rfl (hb hby d1_155) rfl  k) ?_
  refine own_st (fr' := (mkF m 158 #[.val (.int q)] [(.int (63744 : Int32)), (.int q)])) (fun t k => X0.ldcInt hx hown (mvT hZ (hw _ (List.mem_of_getElem? (i := 21) rfl))) (g := (mkF m 156 #[.val (.int q)] [(.int q)])) rfl (hb hby d1_156) t k) ?_
  suffices J46 : ((q.toInt < 63744) ∨ (¬ q.toInt < 63744 ∧ 64975 < q.toInt)) → Go p e below s ({ frames := 0, cells := 0, slots := 0, locals := 0 } : Room).cells ({ frames := 0, cells := 0, slots := 0, locals := 0 } : Room).slots (Q_isn Z q h0 n0) s₁ (mkF m 167 #[.val (.int q)] []) by
    by_cases hc47 : q.toInt < 63744
    · refine own_st (fr' := (mkF m 167 #[.val (.int q)] [])) (fun t k => XS.icmpYes X0.here hx rfl (pc0 := 158) (pc' := 167) rfl (hb hby d1_158) rfl (own_tlt (x := q) (y := (63744 : Int32)) hc47).1 (by decide) (by decide) k) ?_
      exact J46   (Or.inl hc47)
    · refine own_st (fr' := (mkF m 161 #[.val (.int q)] [])) (fun t k => XS.icmpNo X0.here hx rfl (hb hby d1_158) rfl (own_flt (x := q) (y := (63744 : Int32)) hc47).1 k) ?_
      refine own_st (fr' := (mkF m 162 #[.val (.int q)] [(.int q)])) (fun t k => XS.iloadN X0.here hx rfl (hb hby d1_161) rfl  k) ?_
      refine own_st (fr' := (mkF m 164 #[.val (.int q)] [(.int (64975 : Int32)), (.int q)])) (fun t k => X0.ldcInt hx hown (mvT hZ (hw _ (List.mem_of_getElem? (i := 29) rfl))) (g := (mkF m 162 #[.val (.int q)] [(.int q)])) rfl (hb hby d1_162) t k) ?_
      by_cases hc48 : 64975 < q.toInt
      · refine own_st (fr' := (mkF m 167 #[.val (.int q)] [])) (fun t k => XS.icmpNo X0.here hx rfl (hb hby d1_164) rfl (own_tlt (x := (64975 : Int32)) (y := q) hc48).2.2.2 k) ?_
        exact J46   (Or.inr ⟨hc47, hc48⟩)
      · refine own_st (fr' := (mkF m 191 #[.val (.int q)] [])) (fun t k => XS.icmpYes X0.here hx rfl (pc0 := 164) (pc' := 191) rfl (hb hby d1_164) rfl (own_flt (x := (64975 : Int32)) (y := q) hc48).2.2.2 (by decide) (by decide) k) ?_
        refine own_st (fr' := (mkF m 192 #[.val (.int q)] [(.int (1 : Int32))])) (fun t k => XS.iconst X0.here hx rfl (hb hby d1_191) k) ?_
        refine own_st (fr' := (mkF m 196 #[.val (.int q)] [(.int (1 : Int32))])) (fun t k => XS.goto X0.here hx rfl (pc0 := 192) (pc' := 196) rfl (hb hby d1_192) (by decide) (by decide) k) ?_
        exact own_retZ X0 hx hlk hret (Or.inr rfl) (hb hby d1_196) (by decide) (by decide) (⟨own_z_isn_1 q (by omega), N0, e0⟩)
  intro hz49
  refine own_st (fr' := (mkF m 168 #[.val (.int q)] [(.int q)])) (fun t k => XS.iloadN X0.here hx rfl (hb hby d1_167) rfl  k) ?_
  refine own_st (fr' := (mkF m 170 #[.val (.int q)] [(.int (65008 : Int32)), (.int q)])) (fun t k => X0.ldcInt hx hown (mvT hZ (hw _ (List.mem_of_getElem? (i := 22) rfl))) (g := (mkF m 168 #[.val (.int q)] [(.int q)])) rfl (hb hby d1_168) t k) ?_
  suffices J50 : ((q.toInt < 65008) ∨ (¬ q.toInt < 65008 ∧ 65533 < q.toInt)) → Go p e below s ({ frames := 0, cells := 0, slots := 0, locals := 0 } : Room).cells ({ frames := 0, cells := 0, slots := 0, locals := 0 } : Room).slots (Q_isn Z q h0 n0) s₁ (mkF m 179 #[.val (.int q)] []) by
    by_cases hc51 : q.toInt < 65008
    · refine own_st (fr' := (mkF m 179 #[.val (.int q)] [])) (fun t k => XS.icmpYes X0.here hx rfl (pc0 := 170) (pc' := 179) rfl (hb hby d1_170) rfl (own_tlt (x := q) (y := (65008 : Int32)) hc51).1 (by decide) (by decide) k) ?_
      exact J50   (Or.inl hc51)
    · refine own_st (fr' := (mkF m 173 #[.val (.int q)] [])) (fun t k => XS.icmpNo X0.here hx rfl (hb hby d1_170) rfl (own_flt (x := q) (y := (65008 : Int32)) hc51).1 k) ?_
      refine own_st (fr' := (mkF m 174 #[.val (.int q)] [(.int q)])) (fun t k => XS.iloadN X0.here hx rfl (hb hby d1_173) rfl  k) ?_
      refine own_st (fr' := (mkF m 176 #[.val (.int q)] [(.int (65533 : Int32)), (.int q)])) (fun t k => X0.ldcInt hx hown (mvT hZ (hw _ (List.mem_of_getElem? (i := 30) rfl))) (g := (mkF m 174 #[.val (.int q)] [(.int q)])) rfl (hb hby d1_174) t k) ?_
      by_cases hc52 : 65533 < q.toInt
      · refine own_st (fr' := (mkF m 179 #[.val (.int q)] [])) (fun t k => XS.icmpNo X0.here hx rfl (hb hby d1_176) rfl (own_tlt (x := (65533 : Int32)) (y := q) hc52).2.2.2 k) ?_
        exact J50   (Or.inr ⟨hc51, hc52⟩)
      · refine own_st (fr' := (mkF m 191 #[.val (.int q)] [])) (fun t k => XS.icmpYes X0.here hx rfl (pc0 := 176) (pc' := 191) rfl (hb hby d1_176) rfl (own_flt (x := (65533 : Int32)) (y := q) hc52).2.2.2 (by decide) (by decide) k) ?_
        refine own_st (fr' := (mkF m 192 #[.val (.int q)] [(.int (1 : Int32))])) (fun t k => XS.iconst X0.here hx rfl (hb hby d1_191) k) ?_
        refine own_st (fr' := (mkF m 196 #[.val (.int q)] [(.int (1 : Int32))])) (fun t k => XS.goto X0.here hx rfl (pc0 := 192) (pc' := 196) rfl (hb hby d1_192) (by decide) (by decide) k) ?_
        exact own_retZ X0 hx hlk hret (Or.inr rfl) (hb hby d1_196) (by decide) (by decide) (⟨own_z_isn_1 q (by omega), N0, e0⟩)
  intro hz53
  refine own_st (fr' := (mkF m 180 #[.val (.int q)] [(.int q)])) (fun t k => XS.iloadN X0.here hx rfl (hb hby d1_179) rfl  k) ?_
  refine own_st (fr' := (mkF m 182 #[.val (.int q)] [(.int (65536 : Int32)), (.int q)])) (fun t k => X0.ldcInt hx hown (mvT hZ (hw _ (List.mem_of_getElem? (i := 23) rfl))) (g := (mkF m 180 #[.val (.int q)] [(.int q)])) rfl (hb hby d1_180) t k) ?_
  by_cases hc54 : q.toInt < 65536
  · refine own_st (fr' := (mkF m 195 #[.val (.int q)] [])) (fun t k => XS.icmpYes X0.here hx rfl (pc0 := 182) (pc' := 195) rfl (hb hby d1_182) rfl (own_tlt (x := q) (y := (65536 : Int32)) hc54).1 (by decide) (by decide) k) ?_
    refine own_st (fr' := (mkF m 196 #[.val (.int q)] [(.int (0 : Int32))])) (fun t k => XS.iconst X0.here hx rfl (hb hby d1_195) k) ?_
    exact own_retZ X0 hx hlk hret (Or.inl rfl) (hb hby d1_196) (by decide) (by decide) (⟨own_z_isn_0 q (by omega), N0, e0⟩)
  · refine own_st (fr' := (mkF m 185 #[.val (.int q)] [])) (fun t k => XS.icmpNo X0.here hx rfl (hb hby d1_182) rfl (own_flt (x := q) (y := (65536 : Int32)) hc54).1 k) ?_
    refine own_st (fr' := (mkF m 186 #[.val (.int q)] [(.int q)])) (fun t k => XS.iloadN X0.here hx rfl (hb hby d1_185) rfl  k) ?_
    refine own_st (fr' := (mkF m 188 #[.val (.int q)] [(.int (983039 : Int32)), (.int q)])) (fun t k => X0.ldcInt hx hown (mvT hZ (hw _ (List.mem_of_getElem? (i := 31) rfl))) (g := (mkF m 186 #[.val (.int q)] [(.int q)])) rfl (hb hby d1_186) t k) ?_
    by_cases hc55 : 983039 < q.toInt
    · refine own_st (fr' := (mkF m 195 #[.val (.int q)] [])) (fun t k => XS.icmpYes X0.here hx rfl (pc0 := 188) (pc' := 195) rfl (hb hby d1_188) rfl (own_tlt (x := (983039 : Int32)) (y := q) hc55).2.2.1 (by decide) (by decide) k) ?_
      refine own_st (fr' := (mkF m 196 #[.val (.int q)] [(.int (0 : Int32))])) (fun t k => XS.iconst X0.here hx rfl (hb hby d1_195) k) ?_
      exact own_retZ X0 hx hlk hret (Or.inl rfl) (hb hby d1_196) (by decide) (by decide) (⟨own_z_isn_0 q (by omega), N0, e0⟩)
    · refine own_st (fr' := (mkF m 191 #[.val (.int q)] [])) (fun t k => XS.icmpNo X0.here hx rfl (hb hby d1_188) rfl (own_flt (x := (983039 : Int32)) (y := q) hc55).2.2.1 k) ?_
      refine own_st (fr' := (mkF m 192 #[.val (.int q)] [(.int (1 : Int32))])) (fun t k => XS.iconst X0.here hx rfl (hb hby d1_191) k) ?_
      refine own_st (fr' := (mkF m 196 #[.val (.int q)] [(.int (1 : Int32))])) (fun t k => XS.goto X0.here hx rfl (pc0 := 192) (pc' := 196) rfl (hb hby d1_192) (by decide) (by decide) k) ?_
      exact own_retZ X0 hx hlk hret (Or.inr rfl) (hb hby d1_196) (by decide) (by decide) (⟨own_z_isn_1 q (by omega), N0, e0⟩)
theorem d2_0 : decode method_3_code 0 = .ok (.iload_n 0, 1) := by decide +kernel
theorem d2_1 : decode method_3_code 1 = .ok (.bipush 65, 2) := by decide +kernel
theorem d2_3 : decode method_3_code 3 = .ok (.if_icmp .lt 9, 3) := by decide +kernel
theorem d2_6 : decode method_3_code 6 = .ok (.iload_n 0, 1) := by decide +kernel
theorem d2_7 : decode method_3_code 7 = .ok (.ldc 22, 2) := by decide +kernel
theorem d2_9 : decode method_3_code 9 = .ok (.if_icmp .le 5, 3) := by decide +kernel
theorem d2_12 : decode method_3_code 12 = .ok (.iconst 0, 1) := by decide +kernel
theorem d2_13 : decode method_3_code 13 = .ok (.ireturn, 1) := by decide +kernel
theorem d2_14 : decode method_3_code 14 = .ok (.iload_n 0, 1) := by decide +kernel
theorem d2_15 : decode method_3_code 15 = .ok (.ldc 21, 2) := by decide +kernel
theorem d2_17 : decode method_3_code 17 = .ok (.if_icmp .lt 5, 3) := by decide +kernel
theorem d2_20 : decode method_3_code 20 = .ok (.iconst 1, 1) := by decide +kernel
theorem d2_21 : decode method_3_code 21 = .ok (.ireturn, 1) := by decide +kernel
theorem d2_22 : decode method_3_code 22 = .ok (.iload_n 0, 1) := by decide +kernel
theorem d2_23 : decode method_3_code 23 = .ok (.sipush 256, 3) := by decide +kernel
theorem d2_26 : decode method_3_code 26 = .ok (.if_icmp .ge 72, 3) := by decide +kernel
theorem d2_29 : decode method_3_code 29 = .ok (.iload_n 0, 1) := by decide +kernel
theorem d2_30 : decode method_3_code 30 = .ok (.bipush 90, 2) := by decide +kernel
theorem d2_32 : decode method_3_code 32 = .ok (.if_icmp .gt 5, 3) := by decide +kernel
theorem d2_35 : decode method_3_code 35 = .ok (.iconst 1, 1) := by decide +kernel
theorem d2_36 : decode method_3_code 36 = .ok (.ireturn, 1) := by decide +kernel
theorem d2_37 : decode method_3_code 37 = .ok (.iload_n 0, 1) := by decide +kernel
theorem d2_38 : decode method_3_code 38 = .ok (.bipush 94, 2) := by decide +kernel
theorem d2_40 : decode method_3_code 40 = .ok (.if_icmp .gt 5, 3) := by decide +kernel
theorem d2_43 : decode method_3_code 43 = .ok (.iconst 0, 1) := by decide +kernel
theorem d2_44 : decode method_3_code 44 = .ok (.ireturn, 1) := by decide +kernel
theorem d2_45 : decode method_3_code 45 = .ok (.iload_n 0, 1) := by decide +kernel
theorem d2_46 : decode method_3_code 46 = .ok (.bipush 95, 2) := by decide +kernel
theorem d2_48 : decode method_3_code 48 = .ok (.if_icmp .ne 5, 3) := by decide +kernel
theorem d2_51 : decode method_3_code 51 = .ok (.iconst 1, 1) := by decide +kernel
theorem d2_52 : decode method_3_code 52 = .ok (.ireturn, 1) := by decide +kernel
theorem d2_53 : decode method_3_code 53 = .ok (.iload_n 0, 1) := by decide +kernel
theorem d2_54 : decode method_3_code 54 = .ok (.bipush 96, 2) := by decide +kernel
theorem d2_56 : decode method_3_code 56 = .ok (.if_icmp .ne 5, 3) := by decide +kernel
theorem d2_59 : decode method_3_code 59 = .ok (.iconst 0, 1) := by decide +kernel
theorem d2_60 : decode method_3_code 60 = .ok (.ireturn, 1) := by decide +kernel
theorem d2_61 : decode method_3_code 61 = .ok (.iload_n 0, 1) := by decide +kernel
theorem d2_62 : decode method_3_code 62 = .ok (.bipush 122, 2) := by decide +kernel
theorem d2_64 : decode method_3_code 64 = .ok (.if_icmp .gt 5, 3) := by decide +kernel
theorem d2_67 : decode method_3_code 67 = .ok (.iconst 1, 1) := by decide +kernel
theorem d2_68 : decode method_3_code 68 = .ok (.ireturn, 1) := by decide +kernel
theorem d2_69 : decode method_3_code 69 = .ok (.iload_n 0, 1) := by decide +kernel
theorem d2_70 : decode method_3_code 70 = .ok (.sipush 191, 3) := by decide +kernel
theorem d2_73 : decode method_3_code 73 = .ok (.if_icmp .gt 5, 3) := by decide +kernel
theorem d2_76 : decode method_3_code 76 = .ok (.iconst 0, 1) := by decide +kernel
theorem d2_77 : decode method_3_code 77 = .ok (.ireturn, 1) := by decide +kernel
theorem d2_78 : decode method_3_code 78 = .ok (.iload_n 0, 1) := by decide +kernel
theorem d2_79 : decode method_3_code 79 = .ok (.sipush 215, 3) := by decide +kernel
theorem d2_82 : decode method_3_code 82 = .ok (.if_icmp .eq 14, 3) := by decide +kernel
theorem d2_85 : decode method_3_code 85 = .ok (.iload_n 0, 1) := by decide +kernel
theorem d2_86 : decode method_3_code 86 = .ok (.sipush 247, 3) := by decide +kernel
theorem d2_89 : decode method_3_code 89 = .ok (.if_icmp .eq 7, 3) := by decide +kernel
theorem d2_92 : decode method_3_code 92 = .ok (.iconst 1, 1) := by decide +kernel
theorem d2_93 : decode method_3_code 93 = .ok (.goto 4, 3) := by decide +kernel
theorem d2_96 : decode method_3_code 96 = .ok (.iconst 0, 1) := by decide +kernel
theorem d2_97 : decode method_3_code 97 = .ok (.ireturn, 1) := by decide +kernel
theorem d2_98 : decode method_3_code 98 = .ok (.iload_n 0, 1) := by decide +kernel
theorem d2_99 : decode method_3_code 99 = .ok (.sipush 8192, 3) := by decide +kernel
theorem d2_102 : decode method_3_code 102 = .ok (.if_icmp .ge 34, 3) := by decide +kernel
theorem d2_105 : decode method_3_code 105 = .ok (.iload_n 0, 1) := by decide +kernel
theorem d2_106 : decode method_3_code 106 = .ok (.sipush 768, 3) := by decide +kernel
theorem d2_109 : decode method_3_code 109 = .ok (.if_icmp .ge 5, 3) := by decide +kernel
theorem d2_112 : decode method_3_code 112 = .ok (.iconst 1, 1) := by decide +kernel
theorem d2_113 : decode method_3_code 113 = .ok (.ireturn, 1) := by decide +kernel
theorem d2_114 : decode method_3_code 114 = .ok (.iload_n 0, 1) := by decide +kernel
theorem d2_115 : decode method_3_code 115 = .ok (.sipush 880, 3) := by decide +kernel
theorem d2_118 : decode method_3_code 118 = .ok (.if_icmp .ge 5, 3) := by decide +kernel
theorem d2_121 : decode method_3_code 121 = .ok (.iconst 0, 1) := by decide +kernel
theorem d2_122 : decode method_3_code 122 = .ok (.ireturn, 1) := by decide +kernel
theorem d2_123 : decode method_3_code 123 = .ok (.iload_n 0, 1) := by decide +kernel
theorem d2_124 : decode method_3_code 124 = .ok (.sipush 894, 3) := by decide +kernel
theorem d2_127 : decode method_3_code 127 = .ok (.if_icmp .eq 7, 3) := by decide +kernel
theorem d2_130 : decode method_3_code 130 = .ok (.iconst 1, 1) := by decide +kernel
theorem d2_131 : decode method_3_code 131 = .ok (.goto 4, 3) := by decide +kernel
theorem d2_134 : decode method_3_code 134 = .ok (.iconst 0, 1) := by decide +kernel
theorem d2_135 : decode method_3_code 135 = .ok (.ireturn, 1) := by decide +kernel
theorem d2_136 : decode method_3_code 136 = .ok (.iload_n 0, 1) := by decide +kernel
theorem d2_137 : decode method_3_code 137 = .ok (.sipush 12289, 3) := by decide +kernel
theorem d2_140 : decode method_3_code 140 = .ok (.if_icmp .ge 61, 3) := by decide +kernel
theorem d2_143 : decode method_3_code 143 = .ok (.iload_n 0, 1) := by decide +kernel
theorem d2_144 : decode method_3_code 144 = .ok (.sipush 8204, 3) := by decide +kernel
theorem d2_147 : decode method_3_code 147 = .ok (.if_icmp .ge 5, 3) := by decide +kernel
theorem d2_150 : decode method_3_code 150 = .ok (.iconst 0, 1) := by decide +kernel
theorem d2_151 : decode method_3_code 151 = .ok (.ireturn, 1) := by decide +kernel
theorem d2_152 : decode method_3_code 152 = .ok (.iload_n 0, 1) := by decide +kernel
theorem d2_153 : decode method_3_code 153 = .ok (.sipush 8206, 3) := by decide +kernel
theorem d2_156 : decode method_3_code 156 = .ok (.if_icmp .ge 5, 3) := by decide +kernel
theorem d2_159 : decode method_3_code 159 = .ok (.iconst 1, 1) := by decide +kernel
theorem d2_160 : decode method_3_code 160 = .ok (.ireturn, 1) := by decide +kernel
theorem d2_161 : decode method_3_code 161 = .ok (.iload_n 0, 1) := by decide +kernel
theorem d2_162 : decode method_3_code 162 = .ok (.sipush 8304, 3) := by decide +kernel
theorem d2_165 : decode method_3_code 165 = .ok (.if_icmp .ge 5, 3) := by decide +kernel
theorem d2_168 : decode method_3_code 168 = .ok (.iconst 0, 1) := by decide +kernel
theorem d2_169 : decode method_3_code 169 = .ok (.ireturn, 1) := by decide +kernel
theorem d2_170 : decode method_3_code 170 = .ok (.iload_n 0, 1) := by decide +kernel
theorem d2_171 : decode method_3_code 171 = .ok (.sipush 8592, 3) := by decide +kernel
theorem d2_174 : decode method_3_code 174 = .ok (.if_icmp .ge 5, 3) := by decide +kernel
theorem d2_177 : decode method_3_code 177 = .ok (.iconst 1, 1) := by decide +kernel
theorem d2_178 : decode method_3_code 178 = .ok (.ireturn, 1) := by decide +kernel
theorem d2_179 : decode method_3_code 179 = .ok (.iload_n 0, 1) := by decide +kernel
theorem d2_180 : decode method_3_code 180 = .ok (.sipush 11264, 3) := by decide +kernel
theorem d2_183 : decode method_3_code 183 = .ok (.if_icmp .ge 5, 3) := by decide +kernel
theorem d2_186 : decode method_3_code 186 = .ok (.iconst 0, 1) := by decide +kernel
theorem d2_187 : decode method_3_code 187 = .ok (.ireturn, 1) := by decide +kernel
theorem d2_188 : decode method_3_code 188 = .ok (.iload_n 0, 1) := by decide +kernel
theorem d2_189 : decode method_3_code 189 = .ok (.sipush 12272, 3) := by decide +kernel
theorem d2_192 : decode method_3_code 192 = .ok (.if_icmp .ge 7, 3) := by decide +kernel
theorem d2_195 : decode method_3_code 195 = .ok (.iconst 1, 1) := by decide +kernel
theorem d2_196 : decode method_3_code 196 = .ok (.goto 4, 3) := by decide +kernel
theorem d2_199 : decode method_3_code 199 = .ok (.iconst 0, 1) := by decide +kernel
theorem d2_200 : decode method_3_code 200 = .ok (.ireturn, 1) := by decide +kernel
theorem d2_201 : decode method_3_code 201 = .ok (.iload_n 0, 1) := by decide +kernel
theorem d2_202 : decode method_3_code 202 = .ok (.ldc 11, 2) := by decide +kernel
theorem d2_204 : decode method_3_code 204 = .ok (.if_icmp .ge 5, 3) := by decide +kernel
theorem d2_207 : decode method_3_code 207 = .ok (.iconst 1, 1) := by decide +kernel
theorem d2_208 : decode method_3_code 208 = .ok (.ireturn, 1) := by decide +kernel
theorem d2_209 : decode method_3_code 209 = .ok (.iload_n 0, 1) := by decide +kernel
theorem d2_210 : decode method_3_code 210 = .ok (.ldc 13, 2) := by decide +kernel
theorem d2_212 : decode method_3_code 212 = .ok (.if_icmp .ge 5, 3) := by decide +kernel
theorem d2_215 : decode method_3_code 215 = .ok (.iconst 0, 1) := by decide +kernel
theorem d2_216 : decode method_3_code 216 = .ok (.ireturn, 1) := by decide +kernel
theorem d2_217 : decode method_3_code 217 = .ok (.iload_n 0, 1) := by decide +kernel
theorem d2_218 : decode method_3_code 218 = .ok (.ldc 15, 2) := by decide +kernel
theorem d2_220 : decode method_3_code 220 = .ok (.if_icmp .ge 5, 3) := by decide +kernel
theorem d2_223 : decode method_3_code 223 = .ok (.iconst 1, 1) := by decide +kernel
theorem d2_224 : decode method_3_code 224 = .ok (.ireturn, 1) := by decide +kernel
theorem d2_225 : decode method_3_code 225 = .ok (.iload_n 0, 1) := by decide +kernel
theorem d2_226 : decode method_3_code 226 = .ok (.ldc 17, 2) := by decide +kernel
theorem d2_228 : decode method_3_code 228 = .ok (.if_icmp .ge 5, 3) := by decide +kernel
theorem d2_231 : decode method_3_code 231 = .ok (.iconst 0, 1) := by decide +kernel
theorem d2_232 : decode method_3_code 232 = .ok (.ireturn, 1) := by decide +kernel
theorem d2_233 : decode method_3_code 233 = .ok (.iload_n 0, 1) := by decide +kernel
theorem d2_234 : decode method_3_code 234 = .ok (.ldc 19, 2) := by decide +kernel
theorem d2_236 : decode method_3_code 236 = .ok (.if_icmp .ge 7, 3) := by decide +kernel
theorem d2_239 : decode method_3_code 239 = .ok (.iconst 1, 1) := by decide +kernel
theorem d2_240 : decode method_3_code 240 = .ok (.goto 4, 3) := by decide +kernel
theorem d2_243 : decode method_3_code 243 = .ok (.iconst 0, 1) := by decide +kernel
theorem d2_244 : decode method_3_code 244 = .ok (.ireturn, 1) := by decide +kernel
theorem pn_1 : plainName "com/example/precedence/precedence/tree/XmlIsNameStartCharPinLaw" = true := by first | (simp [plainName, overriddenIn]; done) | decide +kernel
theorem ef_ref (m : MethodId) (q : Int32) : entryFrame m #[(.int q)] 1 = mkF m 0 #[.val (.int q)] [] := by first | (simp [entryFrame, mkF, argsToLocals, Value.category, maxLocals]; done) | rfl
def Q_ref (Z : State) (q : Int32) (h0 : Heap) (n0 : Nat) : Option Value → Heap → List Loc → Prop := fun v h L => v = some (.int (own_z_isn q)) ∧ Fr n0 L ∧ h = h0
set_option maxRecDepth 65536 in
set_option maxHeartbeats 40000000 in
theorem rm_ref (l : Launch) (Z : State) (a0 : Array Value) (hw : ∀ d ∈ tables_1, d.before a0 Z = true) (ws : List Jvm.Cond) (q : Int32) (h0 : Heap) (n0 : Nat) (Z0 : n0 ≤ h0.size)  :
    MetFree l (⟨"com/example/precedence/precedence/tree/XmlIsNameStartCharPinLaw", "ref", "(I)Z"⟩ : MethodName) (head1 (Jvm.Cond.code (⟨"com/example/precedence/precedence/tree/XmlIsNameStartCharPinLaw", "ref", "(I)Z"⟩ : MethodName) method_3_code 1 (some .boolean) :: ws) ({ frames := 0, cells := 0, slots := 0, locals := 0 } : Room)) (fun aX U => aX = #[(.int q)] ∧ Z.Warmed39 U.vm ∧ U.heap = h0) (fun _ _ _ _ _ => True) (fun _ U o U' => ∃ v L, o = .returned v ∧ (Q_ref Z q h0 n0) v U'.heap L ∧ FrameEnd U o U' L ({ frames := 0, cells := 0, slots := 0, locals := 0 } : Room).cells ({ frames := 0, cells := 0, slots := 0, locals := 0 } : Room).slots) := by
  refine own_met (Q := (Q_ref Z q h0 n0)) (plainFor_of_name (x := (⟨"com/example/precedence/precedence/tree/XmlIsNameStartCharPinLaw", "ref", "(I)Z"⟩ : MethodName)) pn_1) (fun m => ef_ref m q) ?_
  intro p e s m below meth cD s₁ hx hby hml hret hlk hZ hown hnm X0 e0 hs0
  have hown : s.vm.findClass "com/example/precedence/precedence/tree/XmlIsNameStartCharPinLaw" = some m.cls := hown
  have N0 := Fr.nil n0
  refine own_st (fr' := (mkF m 1 #[.val (.int q)] [(.int q)])) (fun t k => XS.iloadN X0.here hx rfl (hb hby d2_0) rfl  k) ?_
  refine own_st (fr' := (mkF m 3 #[.val (.int q)] [(.int (65 : Int32)), (.int q)])) (fun t k => XS.bipush X0.here hx rfl (hb hby d2_1) k) ?_
  by_cases hc56 : q.toInt < 65
  · refine own_st (fr' := (mkF m 12 #[.val (.int q)] [])) (fun t k => XS.icmpYes X0.here hx rfl (pc0 := 3) (pc' := 12) rfl (hb hby d2_3) rfl (own_tlt (x := q) (y := (65 : Int32)) hc56).1 (by decide) (by decide) k) ?_
    refine own_st (fr' := (mkF m 13 #[.val (.int q)] [(.int (0 : Int32))])) (fun t k => XS.iconst X0.here hx rfl (hb hby d2_12) k) ?_
    exact own_retZ X0 hx hlk hret (Or.inl rfl) (hb hby d2_13) (by decide) (by decide) (⟨own_z_isn_0 q (by omega), N0, e0⟩)
  · refine own_st (fr' := (mkF m 6 #[.val (.int q)] [])) (fun t k => XS.icmpNo X0.here hx rfl (hb hby d2_3) rfl (own_flt (x := q) (y := (65 : Int32)) hc56).1 k) ?_
    refine own_st (fr' := (mkF m 7 #[.val (.int q)] [(.int q)])) (fun t k => XS.iloadN X0.here hx rfl (hb hby d2_6) rfl  k) ?_
    refine own_st (fr' := (mkF m 9 #[.val (.int q)] [(.int (983039 : Int32)), (.int q)])) (fun t k => X0.ldcInt hx hown (mvT hZ (hw _ (List.mem_of_getElem? (i := 14) rfl))) (g := (mkF m 7 #[.val (.int q)] [(.int q)])) rfl (hb hby d2_7) t k) ?_
    by_cases hc57 : 983039 < q.toInt
    · refine own_st (fr' := (mkF m 12 #[.val (.int q)] [])) (fun t k => XS.icmpNo X0.here hx rfl (hb hby d2_9) rfl (own_tlt (x := (983039 : Int32)) (y := q) hc57).2.2.2 k) ?_
      refine own_st (fr' := (mkF m 13 #[.val (.int q)] [(.int (0 : Int32))])) (fun t k => XS.iconst X0.here hx rfl (hb hby d2_12) k) ?_
      exact own_retZ X0 hx hlk hret (Or.inl rfl) (hb hby d2_13) (by decide) (by decide) (⟨own_z_isn_0 q (by omega), N0, e0⟩)
    · refine own_st (fr' := (mkF m 14 #[.val (.int q)] [])) (fun t k => XS.icmpYes X0.here hx rfl (pc0 := 9) (pc' := 14) rfl (hb hby d2_9) rfl (own_flt (x := (983039 : Int32)) (y := q) hc57).2.2.2 (by decide) (by decide) k) ?_
      refine own_st (fr' := (mkF m 15 #[.val (.int q)] [(.int q)])) (fun t k => XS.iloadN X0.here hx rfl (hb hby d2_14) rfl  k) ?_
      refine own_st (fr' := (mkF m 17 #[.val (.int q)] [(.int (65536 : Int32)), (.int q)])) (fun t k => X0.ldcInt hx hown (mvT hZ (hw _ (List.mem_of_getElem? (i := 13) rfl))) (g := (mkF m 15 #[.val (.int q)] [(.int q)])) rfl (hb hby d2_15) t k) ?_
      by_cases hc58 : q.toInt < 65536
      · refine own_st (fr' := (mkF m 22 #[.val (.int q)] [])) (fun t k => XS.icmpYes X0.here hx rfl (pc0 := 17) (pc' := 22) rfl (hb hby d2_17) rfl (own_tlt (x := q) (y := (65536 : Int32)) hc58).1 (by decide) (by decide) k) ?_
        refine own_st (fr' := (mkF m 23 #[.val (.int q)] [(.int q)])) (fun t k => XS.iloadN X0.here hx rfl (hb hby d2_22) rfl  k) ?_
        refine own_st (fr' := (mkF m 26 #[.val (.int q)] [(.int (256 : Int32)), (.int q)])) (fun t k => XS.sipush X0.here hx rfl (hb hby d2_23) k) ?_
        by_cases hc59 : q.toInt < 256
        · refine own_st (fr' := (mkF m 29 #[.val (.int q)] [])) (fun t k => XS.icmpNo X0.here hx rfl (hb hby d2_26) rfl (own_tlt (x := q) (y := (256 : Int32)) hc59).2.1 k) ?_
          refine own_st (fr' := (mkF m 30 #[.val (.int q)] [(.int q)])) (fun t k => XS.iloadN X0.here hx rfl (hb hby d2_29) rfl  k) ?_
          refine own_st (fr' := (mkF m 32 #[.val (.int q)] [(.int (90 : Int32)), (.int q)])) (fun t k => XS.bipush X0.here hx rfl (hb hby d2_30) k) ?_
          by_cases hc60 : 90 < q.toInt
          · refine own_st (fr' := (mkF m 37 #[.val (.int q)] [])) (fun t k => XS.icmpYes X0.here hx rfl (pc0 := 32) (pc' := 37) rfl (hb hby d2_32) rfl (own_tlt (x := (90 : Int32)) (y := q) hc60).2.2.1 (by decide) (by decide) k) ?_
            refine own_st (fr' := (mkF m 38 #[.val (.int q)] [(.int q)])) (fun t k => XS.iloadN X0.here hx rfl (hb hby d2_37) rfl  k) ?_
            refine own_st (fr' := (mkF m 40 #[.val (.int q)] [(.int (94 : Int32)), (.int q)])) (fun t k => XS.bipush X0.here hx rfl (hb hby d2_38) k) ?_
            by_cases hc61 : 94 < q.toInt
            · refine own_st (fr' := (mkF m 45 #[.val (.int q)] [])) (fun t k => XS.icmpYes X0.here hx rfl (pc0 := 40) (pc' := 45) rfl (hb hby d2_40) rfl (own_tlt (x := (94 : Int32)) (y := q) hc61).2.2.1 (by decide) (by decide) k) ?_
              refine own_st (fr' := (mkF m 46 #[.val (.int q)] [(.int q)])) (fun t k => XS.iloadN X0.here hx rfl (hb hby d2_45) rfl  k) ?_
              refine own_st (fr' := (mkF m 48 #[.val (.int q)] [(.int (95 : Int32)), (.int q)])) (fun t k => XS.bipush X0.here hx rfl (hb hby d2_46) k) ?_
              by_cases hc62 : q.toInt = 95
              · refine own_st (fr' := (mkF m 51 #[.val (.int q)] [])) (fun t k => XS.icmpNo X0.here hx rfl (hb hby d2_48) rfl (own_teq (x := q) (y := (95 : Int32)) hc62).2 k) ?_
                refine own_st (fr' := (mkF m 52 #[.val (.int q)] [(.int (1 : Int32))])) (fun t k => XS.iconst X0.here hx rfl (hb hby d2_51) k) ?_
                exact own_retZ X0 hx hlk hret (Or.inr rfl) (hb hby d2_52) (by decide) (by decide) (⟨own_z_isn_1 q (by omega), N0, e0⟩)
              · refine own_st (fr' := (mkF m 53 #[.val (.int q)] [])) (fun t k => XS.icmpYes X0.here hx rfl (pc0 := 48) (pc' := 53) rfl (hb hby d2_48) rfl (own_feq (x := q) (y := (95 : Int32)) hc62).2 (by decide) (by decide) k) ?_
                refine own_st (fr' := (mkF m 54 #[.val (.int q)] [(.int q)])) (fun t k => XS.iloadN X0.here hx rfl (hb hby d2_53) rfl  k) ?_
                refine own_st (fr' := (mkF m 56 #[.val (.int q)] [(.int (96 : Int32)), (.int q)])) (fun t k => XS.bipush X0.here hx rfl (hb hby d2_54) k) ?_
                by_cases hc63 : q.toInt = 96
                · refine own_st (fr' := (mkF m 59 #[.val (.int q)] [])) (fun t k => XS.icmpNo X0.here hx rfl (hb hby d2_56) rfl (own_teq (x := q) (y := (96 : Int32)) hc63).2 k) ?_
                  refine own_st (fr' := (mkF m 60 #[.val (.int q)] [(.int (0 : Int32))])) (fun t k => XS.iconst X0.here hx rfl (hb hby d2_59) k) ?_
                  exact own_retZ X0 hx hlk hret (Or.inl rfl) (hb hby d2_60) (by decide) (by decide) (⟨own_z_isn_0 q (by omega), N0, e0⟩)
                · refine own_st (fr' := (mkF m 61 #[.val (.int q)] [])) (fun t k => XS.icmpYes X0.here hx rfl (pc0 := 56) (pc' := 61) rfl (hb hby d2_56) rfl (own_feq (x := q) (y := (96 : Int32)) hc63).2 (by decide) (by decide) k) ?_
                  refine own_st (fr' := (mkF m 62 #[.val (.int q)] [(.int q)])) (fun t k => XS.iloadN X0.here hx rfl (hb hby d2_61) rfl  k) ?_
                  refine own_st (fr' := (mkF m 64 #[.val (.int q)] [(.int (122 : Int32)), (.int q)])) (fun t k => XS.bipush X0.here hx rfl (hb hby d2_62) k) ?_
                  by_cases hc64 : 122 < q.toInt
                  · refine own_st (fr' := (mkF m 69 #[.val (.int q)] [])) (fun t k => XS.icmpYes X0.here hx rfl (pc0 := 64) (pc' := 69) rfl (hb hby d2_64) rfl (own_tlt (x := (122 : Int32)) (y := q) hc64).2.2.1 (by decide) (by decide) k) ?_
                    refine own_st (fr' := (mkF m 70 #[.val (.int q)] [(.int q)])) (fun t k => XS.iloadN X0.here hx rfl (hb hby d2_69) rfl  k) ?_
                    refine own_st (fr' := (mkF m 73 #[.val (.int q)] [(.int (191 : Int32)), (.int q)])) (fun t k => XS.sipush X0.here hx rfl (hb hby d2_70) k) ?_
                    by_cases hc65 : 191 < q.toInt
                    · refine own_st (fr' := (mkF m 78 #[.val (.int q)] [])) (fun t k => XS.icmpYes X0.here hx rfl (pc0 := 73) (pc' := 78) rfl (hb hby d2_73) rfl (own_tlt (x := (191 : Int32)) (y := q) hc65).2.2.1 (by decide) (by decide) k) ?_
                      refine own_st (fr' := (mkF m 79 #[.val (.int q)] [(.int q)])) (fun t k => XS.iloadN X0.here hx rfl (hb hby d2_78) rfl  k) ?_
                      refine own_st (fr' := (mkF m 82 #[.val (.int q)] [(.int (215 : Int32)), (.int q)])) (fun t k => XS.sipush X0.here hx rfl (hb hby d2_79) k) ?_
                      by_cases hc66 : q.toInt = 215
                      · refine own_st (fr' := (mkF m 96 #[.val (.int q)] [])) (fun t k => XS.icmpYes X0.here hx rfl (pc0 := 82) (pc' := 96) rfl (hb hby d2_82) rfl (own_teq (x := q) (y := (215 : Int32)) hc66).1 (by decide) (by decide) k) ?_
                        refine own_st (fr' := (mkF m 97 #[.val (.int q)] [(.int (0 : Int32))])) (fun t k => XS.iconst X0.here hx rfl (hb hby d2_96) k) ?_
                        exact own_retZ X0 hx hlk hret (Or.inl rfl) (hb hby d2_97) (by decide) (by decide) (⟨own_z_isn_0 q (by omega), N0, e0⟩)
                      · refine own_st (fr' := (mkF m 85 #[.val (.int q)] [])) (fun t k => XS.icmpNo X0.here hx rfl (hb hby d2_82) rfl (own_feq (x := q) (y := (215 : Int32)) hc66).1 k) ?_
                        refine own_st (fr' := (mkF m 86 #[.val (.int q)] [(.int q)])) (fun t k => XS.iloadN X0.here hx rfl (hb hby d2_85) rfl  k) ?_
                        refine own_st (fr' := (mkF m 89 #[.val (.int q)] [(.int (247 : Int32)), (.int q)])) (fun t k => XS.sipush X0.here hx rfl (hb hby d2_86) k) ?_
                        by_cases hc67 : q.toInt = 247
                        · refine own_st (fr' := (mkF m 96 #[.val (.int q)] [])) (fun t k => XS.icmpYes X0.here hx rfl (pc0 := 89) (pc' := 96) rfl (hb hby d2_89) rfl (own_teq (x := q) (y := (247 : Int32)) hc67).1 (by decide) (by decide) k) ?_
                          refine own_st (fr' := (mkF m 97 #[.val (.int q)] [(.int (0 : Int32))])) (fun t k => XS.iconst X0.here hx rfl (hb hby d2_96) k) ?_
                          exact own_retZ X0 hx hlk hret (Or.inl rfl) (hb hby d2_97) (by decide) (by decide) (⟨own_z_isn_0 q (by omega), N0, e0⟩)
                        · refine own_st (fr' := (mkF m 92 #[.val (.int q)] [])) (fun t k => XS.icmpNo X0.here hx rfl (hb hby d2_89) rfl (own_feq (x := q) (y := (247 : Int32)) hc67).1 k) ?_
                          refine own_st (fr' := (mkF m 93 #[.val (.int q)] [(.int (1 : Int32))])) (fun t k => XS.iconst X0.here hx rfl (hb hby d2_92) k) ?_
                          refine own_st (fr' := (mkF m 97 #[.val (.int q)] [(.int (1 : Int32))])) (fun t k => XS.goto X0.here hx rfl (pc0 := 93) (pc' := 97) rfl (hb hby d2_93) (by decide) (by decide) k) ?_
                          exact own_retZ X0 hx hlk hret (Or.inr rfl) (hb hby d2_97) (by decide) (by decide) (⟨own_z_isn_1 q (by omega), N0, e0⟩)
                    · refine own_st (fr' := (mkF m 76 #[.val (.int q)] [])) (fun t k => XS.icmpNo X0.here hx rfl (hb hby d2_73) rfl (own_flt (x := (191 : Int32)) (y := q) hc65).2.2.1 k) ?_
                      refine own_st (fr' := (mkF m 77 #[.val (.int q)] [(.int (0 : Int32))])) (fun t k => XS.iconst X0.here hx rfl (hb hby d2_76) k) ?_
                      exact own_retZ X0 hx hlk hret (Or.inl rfl) (hb hby d2_77) (by decide) (by decide) (⟨own_z_isn_0 q (by omega), N0, e0⟩)
                  · refine own_st (fr' := (mkF m 67 #[.val (.int q)] [])) (fun t k => XS.icmpNo X0.here hx rfl (hb hby d2_64) rfl (own_flt (x := (122 : Int32)) (y := q) hc64).2.2.1 k) ?_
                    refine own_st (fr' := (mkF m 68 #[.val (.int q)] [(.int (1 : Int32))])) (fun t k => XS.iconst X0.here hx rfl (hb hby d2_67) k) ?_
                    exact own_retZ X0 hx hlk hret (Or.inr rfl) (hb hby d2_68) (by decide) (by decide) (⟨own_z_isn_1 q (by omega), N0, e0⟩)
            · refine own_st (fr' := (mkF m 43 #[.val (.int q)] [])) (fun t k => XS.icmpNo X0.here hx rfl (hb hby d2_40) rfl (own_flt (x := (94 : Int32)) (y := q) hc61).2.2.1 k) ?_
              refine own_st (fr' := (mkF m 44 #[.val (.int q)] [(.int (0 : Int32))])) (fun t k => XS.iconst X0.here hx rfl (hb hby d2_43) k) ?_
              exact own_retZ X0 hx hlk hret (Or.inl rfl) (hb hby d2_44) (by decide) (by decide) (⟨own_z_isn_0 q (by omega), N0, e0⟩)
          · refine own_st (fr' := (mkF m 35 #[.val (.int q)] [])) (fun t k => XS.icmpNo X0.here hx rfl (hb hby d2_32) rfl (own_flt (x := (90 : Int32)) (y := q) hc60).2.2.1 k) ?_
            refine own_st (fr' := (mkF m 36 #[.val (.int q)] [(.int (1 : Int32))])) (fun t k => XS.iconst X0.here hx rfl (hb hby d2_35) k) ?_
            exact own_retZ X0 hx hlk hret (Or.inr rfl) (hb hby d2_36) (by decide) (by decide) (⟨own_z_isn_1 q (by omega), N0, e0⟩)
        · refine own_st (fr' := (mkF m 98 #[.val (.int q)] [])) (fun t k => XS.icmpYes X0.here hx rfl (pc0 := 26) (pc' := 98) rfl (hb hby d2_26) rfl (own_flt (x := q) (y := (256 : Int32)) hc59).2.1 (by decide) (by decide) k) ?_
          refine own_st (fr' := (mkF m 99 #[.val (.int q)] [(.int q)])) (fun t k => XS.iloadN X0.here hx rfl (hb hby d2_98) rfl  k) ?_
          refine own_st (fr' := (mkF m 102 #[.val (.int q)] [(.int (8192 : Int32)), (.int q)])) (fun t k => XS.sipush X0.here hx rfl (hb hby d2_99) k) ?_
          by_cases hc68 : q.toInt < 8192
          · refine own_st (fr' := (mkF m 105 #[.val (.int q)] [])) (fun t k => XS.icmpNo X0.here hx rfl (hb hby d2_102) rfl (own_tlt (x := q) (y := (8192 : Int32)) hc68).2.1 k) ?_
            refine own_st (fr' := (mkF m 106 #[.val (.int q)] [(.int q)])) (fun t k => XS.iloadN X0.here hx rfl (hb hby d2_105) rfl  k) ?_
            refine own_st (fr' := (mkF m 109 #[.val (.int q)] [(.int (768 : Int32)), (.int q)])) (fun t k => XS.sipush X0.here hx rfl (hb hby d2_106) k) ?_
            by_cases hc69 : q.toInt < 768
            · refine own_st (fr' := (mkF m 112 #[.val (.int q)] [])) (fun t k => XS.icmpNo X0.here hx rfl (hb hby d2_109) rfl (own_tlt (x := q) (y := (768 : Int32)) hc69).2.1 k) ?_
              refine own_st (fr' := (mkF m 113 #[.val (.int q)] [(.int (1 : Int32))])) (fun t k => XS.iconst X0.here hx rfl (hb hby d2_112) k) ?_
              exact own_retZ X0 hx hlk hret (Or.inr rfl) (hb hby d2_113) (by decide) (by decide) (⟨own_z_isn_1 q (by omega), N0, e0⟩)
            · refine own_st (fr' := (mkF m 114 #[.val (.int q)] [])) (fun t k => XS.icmpYes X0.here hx rfl (pc0 := 109) (pc' := 114) rfl (hb hby d2_109) rfl (own_flt (x := q) (y := (768 : Int32)) hc69).2.1 (by decide) (by decide) k) ?_
              refine own_st (fr' := (mkF m 115 #[.val (.int q)] [(.int q)])) (fun t k => XS.iloadN X0.here hx rfl (hb hby d2_114) rfl  k) ?_
              refine own_st (fr' := (mkF m 118 #[.val (.int q)] [(.int (880 : Int32)), (.int q)])) (fun t k => XS.sipush X0.here hx rfl (hb hby d2_115) k) ?_
              by_cases hc70 : q.toInt < 880
              · refine own_st (fr' := (mkF m 121 #[.val (.int q)] [])) (fun t k => XS.icmpNo X0.here hx rfl (hb hby d2_118) rfl (own_tlt (x := q) (y := (880 : Int32)) hc70).2.1 k) ?_
                refine own_st (fr' := (mkF m 122 #[.val (.int q)] [(.int (0 : Int32))])) (fun t k => XS.iconst X0.here hx rfl (hb hby d2_121) k) ?_
                exact own_retZ X0 hx hlk hret (Or.inl rfl) (hb hby d2_122) (by decide) (by decide) (⟨own_z_isn_0 q (by omega), N0, e0⟩)
              · refine own_st (fr' := (mkF m 123 #[.val (.int q)] [])) (fun t k => XS.icmpYes X0.here hx rfl (pc0 := 118) (pc' := 123) rfl (hb hby d2_118) rfl (own_flt (x := q) (y := (880 : Int32)) hc70).2.1 (by decide) (by decide) k) ?_
                refine own_st (fr' := (mkF m 124 #[.val (.int q)] [(.int q)])) (fun t k => XS.iloadN X0.here hx rfl (hb hby d2_123) rfl  k) ?_
                refine own_st (fr' := (mkF m 127 #[.val (.int q)] [(.int (894 : Int32)), (.int q)])) (fun t k => XS.sipush X0.here hx rfl (hb hby d2_124) k) ?_
                by_cases hc71 : q.toInt = 894
                · refine own_st (fr' := (mkF m 134 #[.val (.int q)] [])) (fun t k => XS.icmpYes X0.here hx rfl (pc0 := 127) (pc' := 134) rfl (hb hby d2_127) rfl (own_teq (x := q) (y := (894 : Int32)) hc71).1 (by decide) (by decide) k) ?_
                  refine own_st (fr' := (mkF m 135 #[.val (.int q)] [(.int (0 : Int32))])) (fun t k => XS.iconst X0.here hx rfl (hb hby d2_134) k) ?_
                  exact own_retZ X0 hx hlk hret (Or.inl rfl) (hb hby d2_135) (by decide) (by decide) (⟨own_z_isn_0 q (by omega), N0, e0⟩)
                · refine own_st (fr' := (mkF m 130 #[.val (.int q)] [])) (fun t k => XS.icmpNo X0.here hx rfl (hb hby d2_127) rfl (own_feq (x := q) (y := (894 : Int32)) hc71).1 k) ?_
                  refine own_st (fr' := (mkF m 131 #[.val (.int q)] [(.int (1 : Int32))])) (fun t k => XS.iconst X0.here hx rfl (hb hby d2_130) k) ?_
                  refine own_st (fr' := (mkF m 135 #[.val (.int q)] [(.int (1 : Int32))])) (fun t k => XS.goto X0.here hx rfl (pc0 := 131) (pc' := 135) rfl (hb hby d2_131) (by decide) (by decide) k) ?_
                  exact own_retZ X0 hx hlk hret (Or.inr rfl) (hb hby d2_135) (by decide) (by decide) (⟨own_z_isn_1 q (by omega), N0, e0⟩)
          · refine own_st (fr' := (mkF m 136 #[.val (.int q)] [])) (fun t k => XS.icmpYes X0.here hx rfl (pc0 := 102) (pc' := 136) rfl (hb hby d2_102) rfl (own_flt (x := q) (y := (8192 : Int32)) hc68).2.1 (by decide) (by decide) k) ?_
            refine own_st (fr' := (mkF m 137 #[.val (.int q)] [(.int q)])) (fun t k => XS.iloadN X0.here hx rfl (hb hby d2_136) rfl  k) ?_
            refine own_st (fr' := (mkF m 140 #[.val (.int q)] [(.int (12289 : Int32)), (.int q)])) (fun t k => XS.sipush X0.here hx rfl (hb hby d2_137) k) ?_
            by_cases hc72 : q.toInt < 12289
            · refine own_st (fr' := (mkF m 143 #[.val (.int q)] [])) (fun t k => XS.icmpNo X0.here hx rfl (hb hby d2_140) rfl (own_tlt (x := q) (y := (12289 : Int32)) hc72).2.1 k) ?_
              refine own_st (fr' := (mkF m 144 #[.val (.int q)] [(.int q)])) (fun t k => XS.iloadN X0.here hx rfl (hb hby d2_143) rfl  k) ?_
              refine own_st (fr' := (mkF m 147 #[.val (.int q)] [(.int (8204 : Int32)), (.int q)])) (fun t k => XS.sipush X0.here hx rfl (hb hby d2_144) k) ?_
              by_cases hc73 : q.toInt < 8204
              · refine own_st (fr' := (mkF m 150 #[.val (.int q)] [])) (fun t k => XS.icmpNo X0.here hx rfl (hb hby d2_147) rfl (own_tlt (x := q) (y := (8204 : Int32)) hc73).2.1 k) ?_
                refine own_st (fr' := (mkF m 151 #[.val (.int q)] [(.int (0 : Int32))])) (fun t k => XS.iconst X0.here hx rfl (hb hby d2_150) k) ?_
                exact own_retZ X0 hx hlk hret (Or.inl rfl) (hb hby d2_151) (by decide) (by decide) (⟨own_z_isn_0 q (by omega), N0, e0⟩)
              · refine own_st (fr' := (mkF m 152 #[.val (.int q)] [])) (fun t k => XS.icmpYes X0.here hx rfl (pc0 := 147) (pc' := 152) rfl (hb hby d2_147) rfl (own_flt (x := q) (y := (8204 : Int32)) hc73).2.1 (by decide) (by decide) k) ?_
                refine own_st (fr' := (mkF m 153 #[.val (.int q)] [(.int q)])) (fun t k => XS.iloadN X0.here hx rfl (hb hby d2_152) rfl  k) ?_
                refine own_st (fr' := (mkF m 156 #[.val (.int q)] [(.int (8206 : Int32)), (.int q)])) (fun t k => XS.sipush X0.here hx rfl (hb hby d2_153) k) ?_
                by_cases hc74 : q.toInt < 8206
                · refine own_st (fr' := (mkF m 159 #[.val (.int q)] [])) (fun t k => XS.icmpNo X0.here hx rfl (hb hby d2_156) rfl (own_tlt (x := q) (y := (8206 : Int32)) hc74).2.1 k) ?_
                  refine own_st (fr' := (mkF m 160 #[.val (.int q)] [(.int (1 : Int32))])) (fun t k => XS.iconst X0.here hx rfl (hb hby d2_159) k) ?_
                  exact own_retZ X0 hx hlk hret (Or.inr rfl) (hb hby d2_160) (by decide) (by decide) (⟨own_z_isn_1 q (by omega), N0, e0⟩)
                · refine own_st (fr' := (mkF m 161 #[.val (.int q)] [])) (fun t k => XS.icmpYes X0.here hx rfl (pc0 := 156) (pc' := 161) rfl (hb hby d2_156) rfl (own_flt (x := q) (y := (8206 : Int32)) hc74).2.1 (by decide) (by decide) k) ?_
                  refine own_st (fr' := (mkF m 162 #[.val (.int q)] [(.int q)])) (fun t k => XS.iloadN X0.here hx rfl (hb hby d2_161) rfl  k) ?_
                  refine own_st (fr' := (mkF m 165 #[.val (.int q)] [(.int (8304 : Int32)), (.int q)])) (fun t k => XS.sipush X0.here hx rfl (hb hby d2_162) k) ?_
                  by_cases hc75 : q.toInt < 8304
                  · refine own_st (fr' := (mkF m 168 #[.val (.int q)] [])) (fun t k => XS.icmpNo X0.here hx rfl (hb hby d2_165) rfl (own_tlt (x := q) (y := (8304 : Int32)) hc75).2.1 k) ?_
                    refine own_st (fr' := (mkF m 169 #[.val (.int q)] [(.int (0 : Int32))])) (fun t k => XS.iconst X0.here hx rfl (hb hby d2_168) k) ?_
                    exact own_retZ X0 hx hlk hret (Or.inl rfl) (hb hby d2_169) (by decide) (by decide) (⟨own_z_isn_0 q (by omega), N0, e0⟩)
                  · refine own_st (fr' := (mkF m 170 #[.val (.int q)] [])) (fun t k => XS.icmpYes X0.here hx rfl (pc0 := 165) (pc' := 170) rfl (hb hby d2_165) rfl (own_flt (x := q) (y := (8304 : Int32)) hc75).2.1 (by decide) (by decide) k) ?_
                    refine own_st (fr' := (mkF m 171 #[.val (.int q)] [(.int q)])) (fun t k => XS.iloadN X0.here hx rfl (hb hby d2_170) rfl  k) ?_
                    refine own_st (fr' := (mkF m 174 #[.val (.int q)] [(.int (8592 : Int32)), (.int q)])) (fun t k => XS.sipush X0.here hx rfl (hb hby d2_171) k) ?_
                    by_cases hc76 : q.toInt < 8592
                    · refine own_st (fr' := (mkF m 177 #[.val (.int q)] [])) (fun t k => XS.icmpNo X0.here hx rfl (hb hby d2_174) rfl (own_tlt (x := q) (y := (8592 : Int32)) hc76).2.1 k) ?_
                      refine own_st (fr' := (mkF m 178 #[.val (.int q)] [(.int (1 : Int32))])) (fun t k => XS.iconst X0.here hx rfl (hb hby d2_177) k) ?_
                      exact own_retZ X0 hx hlk hret (Or.inr rfl) (hb hby d2_178) (by decide) (by decide) (⟨own_z_isn_1 q (by omega), N0, e0⟩)
                    · refine own_st (fr' := (mkF m 179 #[.val (.int q)] [])) (fun t k => XS.icmpYes X0.here hx rfl (pc0 := 174) (pc' := 179) rfl (hb hby d2_174) rfl (own_flt (x := q) (y := (8592 : Int32)) hc76).2.1 (by decide) (by decide) k) ?_
                      refine own_st (fr' := (mkF m 180 #[.val (.int q)] [(.int q)])) (fun t k => XS.iloadN X0.here hx rfl (hb hby d2_179) rfl  k) ?_
                      refine own_st (fr' := (mkF m 183 #[.val (.int q)] [(.int (11264 : Int32)), (.int q)])) (fun t k => XS.sipush X0.here hx rfl (hb hby d2_180) k) ?_
                      by_cases hc77 : q.toInt < 11264
                      · refine own_st (fr' := (mkF m 186 #[.val (.int q)] [])) (fun t k => XS.icmpNo X0.here hx rfl (hb hby d2_183) rfl (own_tlt (x := q) (y := (11264 : Int32)) hc77).2.1 k) ?_
                        refine own_st (fr' := (mkF m 187 #[.val (.int q)] [(.int (0 : Int32))])) (fun t k => XS.iconst X0.here hx rfl (hb hby d2_186) k) ?_
                        exact own_retZ X0 hx hlk hret (Or.inl rfl) (hb hby d2_187) (by decide) (by decide) (⟨own_z_isn_0 q (by omega), N0, e0⟩)
                      · refine own_st (fr' := (mkF m 188 #[.val (.int q)] [])) (fun t k => XS.icmpYes X0.here hx rfl (pc0 := 183) (pc' := 188) rfl (hb hby d2_183) rfl (own_flt (x := q) (y := (11264 : Int32)) hc77).2.1 (by decide) (by decide) k) ?_
                        refine own_st (fr' := (mkF m 189 #[.val (.int q)] [(.int q)])) (fun t k => XS.iloadN X0.here hx rfl (hb hby d2_188) rfl  k) ?_
                        refine own_st (fr' := (mkF m 192 #[.val (.int q)] [(.int (12272 : Int32)), (.int q)])) (fun t k => XS.sipush X0.here hx rfl (hb hby d2_189) k) ?_
                        by_cases hc78 : q.toInt < 12272
                        · refine own_st (fr' := (mkF m 195 #[.val (.int q)] [])) (fun t k => XS.icmpNo X0.here hx rfl (hb hby d2_192) rfl (own_tlt (x := q) (y := (12272 : Int32)) hc78).2.1 k) ?_
                          refine own_st (fr' := (mkF m 196 #[.val (.int q)] [(.int (1 : Int32))])) (fun t k => XS.iconst X0.here hx rfl (hb hby d2_195) k) ?_
                          refine own_st (fr' := (mkF m 200 #[.val (.int q)] [(.int (1 : Int32))])) (fun t k => XS.goto X0.here hx rfl (pc0 := 196) (pc' := 200) rfl (hb hby d2_196) (by decide) (by decide) k) ?_
                          exact own_retZ X0 hx hlk hret (Or.inr rfl) (hb hby d2_200) (by decide) (by decide) (⟨own_z_isn_1 q (by omega), N0, e0⟩)
                        · refine own_st (fr' := (mkF m 199 #[.val (.int q)] [])) (fun t k => XS.icmpYes X0.here hx rfl (pc0 := 192) (pc' := 199) rfl (hb hby d2_192) rfl (own_flt (x := q) (y := (12272 : Int32)) hc78).2.1 (by decide) (by decide) k) ?_
                          refine own_st (fr' := (mkF m 200 #[.val (.int q)] [(.int (0 : Int32))])) (fun t k => XS.iconst X0.here hx rfl (hb hby d2_199) k) ?_
                          exact own_retZ X0 hx hlk hret (Or.inl rfl) (hb hby d2_200) (by decide) (by decide) (⟨own_z_isn_0 q (by omega), N0, e0⟩)
            · refine own_st (fr' := (mkF m 201 #[.val (.int q)] [])) (fun t k => XS.icmpYes X0.here hx rfl (pc0 := 140) (pc' := 201) rfl (hb hby d2_140) rfl (own_flt (x := q) (y := (12289 : Int32)) hc72).2.1 (by decide) (by decide) k) ?_
              refine own_st (fr' := (mkF m 202 #[.val (.int q)] [(.int q)])) (fun t k => XS.iloadN X0.here hx rfl (hb hby d2_201) rfl  k) ?_
              refine own_st (fr' := (mkF m 204 #[.val (.int q)] [(.int (55296 : Int32)), (.int q)])) (fun t k => X0.ldcInt hx hown (mvT hZ (hw _ (List.mem_of_getElem? (i := 3) rfl))) (g := (mkF m 202 #[.val (.int q)] [(.int q)])) rfl (hb hby d2_202) t k) ?_
              by_cases hc79 : q.toInt < 55296
              · refine own_st (fr' := (mkF m 207 #[.val (.int q)] [])) (fun t k => XS.icmpNo X0.here hx rfl (hb hby d2_204) rfl (own_tlt (x := q) (y := (55296 : Int32)) hc79).2.1 k) ?_
                refine own_st (fr' := (mkF m 208 #[.val (.int q)] [(.int (1 : Int32))])) (fun t k => XS.iconst X0.here hx rfl (hb hby d2_207) k) ?_
                exact own_retZ X0 hx hlk hret (Or.inr rfl) (hb hby d2_208) (by decide) (by decide) (⟨own_z_isn_1 q (by omega), N0, e0⟩)
              · refine own_st (fr' := (mkF m 209 #[.val (.int q)] [])) (fun t k => XS.icmpYes X0.here hx rfl (pc0 := 204) (pc' := 209) rfl (hb hby d2_204) rfl (own_flt (x := q) (y := (55296 : Int32)) hc79).2.1 (by decide) (by decide) k) ?_
                refine own_st (fr' := (mkF m 210 #[.val (.int q)] [(.int q)])) (fun t k => XS.iloadN X0.here hx rfl (hb hby d2_209) rfl  k) ?_
                refine own_st (fr' := (mkF m 212 #[.val (.int q)] [(.int (63744 : Int32)), (.int q)])) (fun t k => X0.ldcInt hx hown (mvT hZ (hw _ (List.mem_of_getElem? (i := 5) rfl))) (g := (mkF m 210 #[.val (.int q)] [(.int q)])) rfl (hb hby d2_210) t k) ?_
                by_cases hc80 : q.toInt < 63744
                · refine own_st (fr' := (mkF m 215 #[.val (.int q)] [])) (fun t k => XS.icmpNo X0.here hx rfl (hb hby d2_212) rfl (own_tlt (x := q) (y := (63744 : Int32)) hc80).2.1 k) ?_
                  refine own_st (fr' := (mkF m 216 #[.val (.int q)] [(.int (0 : Int32))])) (fun t k => XS.iconst X0.here hx rfl (hb hby d2_215) k) ?_
                  exact own_retZ X0 hx hlk hret (Or.inl rfl) (hb hby d2_216) (by decide) (by decide) (⟨own_z_isn_0 q (by omega), N0, e0⟩)
                · refine own_st (fr' := (mkF m 217 #[.val (.int q)] [])) (fun t k => XS.icmpYes X0.here hx rfl (pc0 := 212) (pc' := 217) rfl (hb hby d2_212) rfl (own_flt (x := q) (y := (63744 : Int32)) hc80).2.1 (by decide) (by decide) k) ?_
                  refine own_st (fr' := (mkF m 218 #[.val (.int q)] [(.int q)])) (fun t k => XS.iloadN X0.here hx rfl (hb hby d2_217) rfl  k) ?_
                  refine own_st (fr' := (mkF m 220 #[.val (.int q)] [(.int (64976 : Int32)), (.int q)])) (fun t k => X0.ldcInt hx hown (mvT hZ (hw _ (List.mem_of_getElem? (i := 7) rfl))) (g := (mkF m 218 #[.val (.int q)] [(.int q)])) rfl (hb hby d2_218) t k) ?_
                  by_cases hc81 : q.toInt < 64976
                  · refine own_st (fr' := (mkF m 223 #[.val (.int q)] [])) (fun t k => XS.icmpNo X0.here hx rfl (hb hby d2_220) rfl (own_tlt (x := q) (y := (64976 : Int32)) hc81).2.1 k) ?_
                    refine own_st (fr' := (mkF m 224 #[.val (.int q)] [(.int (1 : Int32))])) (fun t k => XS.iconst X0.here hx rfl (hb hby d2_223) k) ?_
                    exact own_retZ X0 hx hlk hret (Or.inr rfl) (hb hby d2_224) (by decide) (by decide) (⟨own_z_isn_1 q (by omega), N0, e0⟩)
                  · refine own_st (fr' := (mkF m 225 #[.val (.int q)] [])) (fun t k => XS.icmpYes X0.here hx rfl (pc0 := 220) (pc' := 225) rfl (hb hby d2_220) rfl (own_flt (x := q) (y := (64976 : Int32)) hc81).2.1 (by decide) (by decide) k) ?_
                    refine own_st (fr' := (mkF m 226 #[.val (.int q)] [(.int q)])) (fun t k => XS.iloadN X0.here hx rfl (hb hby d2_225) rfl  k) ?_
                    refine own_st (fr' := (mkF m 228 #[.val (.int q)] [(.int (65008 : Int32)), (.int q)])) (fun t k => X0.ldcInt hx hown (mvT hZ (hw _ (List.mem_of_getElem? (i := 9) rfl))) (g := (mkF m 226 #[.val (.int q)] [(.int q)])) rfl (hb hby d2_226) t k) ?_
                    by_cases hc82 : q.toInt < 65008
                    · refine own_st (fr' := (mkF m 231 #[.val (.int q)] [])) (fun t k => XS.icmpNo X0.here hx rfl (hb hby d2_228) rfl (own_tlt (x := q) (y := (65008 : Int32)) hc82).2.1 k) ?_
                      refine own_st (fr' := (mkF m 232 #[.val (.int q)] [(.int (0 : Int32))])) (fun t k => XS.iconst X0.here hx rfl (hb hby d2_231) k) ?_
                      exact own_retZ X0 hx hlk hret (Or.inl rfl) (hb hby d2_232) (by decide) (by decide) (⟨own_z_isn_0 q (by omega), N0, e0⟩)
                    · refine own_st (fr' := (mkF m 233 #[.val (.int q)] [])) (fun t k => XS.icmpYes X0.here hx rfl (pc0 := 228) (pc' := 233) rfl (hb hby d2_228) rfl (own_flt (x := q) (y := (65008 : Int32)) hc82).2.1 (by decide) (by decide) k) ?_
                      refine own_st (fr' := (mkF m 234 #[.val (.int q)] [(.int q)])) (fun t k => XS.iloadN X0.here hx rfl (hb hby d2_233) rfl  k) ?_
                      refine own_st (fr' := (mkF m 236 #[.val (.int q)] [(.int (65534 : Int32)), (.int q)])) (fun t k => X0.ldcInt hx hown (mvT hZ (hw _ (List.mem_of_getElem? (i := 11) rfl))) (g := (mkF m 234 #[.val (.int q)] [(.int q)])) rfl (hb hby d2_234) t k) ?_
                      by_cases hc83 : q.toInt < 65534
                      · refine own_st (fr' := (mkF m 239 #[.val (.int q)] [])) (fun t k => XS.icmpNo X0.here hx rfl (hb hby d2_236) rfl (own_tlt (x := q) (y := (65534 : Int32)) hc83).2.1 k) ?_
                        refine own_st (fr' := (mkF m 240 #[.val (.int q)] [(.int (1 : Int32))])) (fun t k => XS.iconst X0.here hx rfl (hb hby d2_239) k) ?_
                        refine own_st (fr' := (mkF m 244 #[.val (.int q)] [(.int (1 : Int32))])) (fun t k => XS.goto X0.here hx rfl (pc0 := 240) (pc' := 244) rfl (hb hby d2_240) (by decide) (by decide) k) ?_
                        exact own_retZ X0 hx hlk hret (Or.inr rfl) (hb hby d2_244) (by decide) (by decide) (⟨own_z_isn_1 q (by omega), N0, e0⟩)
                      · refine own_st (fr' := (mkF m 243 #[.val (.int q)] [])) (fun t k => XS.icmpYes X0.here hx rfl (pc0 := 236) (pc' := 243) rfl (hb hby d2_236) rfl (own_flt (x := q) (y := (65534 : Int32)) hc83).2.1 (by decide) (by decide) k) ?_
                        refine own_st (fr' := (mkF m 244 #[.val (.int q)] [(.int (0 : Int32))])) (fun t k => XS.iconst X0.here hx rfl (hb hby d2_243) k) ?_
                        exact own_retZ X0 hx hlk hret (Or.inl rfl) (hb hby d2_244) (by decide) (by decide) (⟨own_z_isn_0 q (by omega), N0, e0⟩)
      · refine own_st (fr' := (mkF m 20 #[.val (.int q)] [])) (fun t k => XS.icmpNo X0.here hx rfl (hb hby d2_17) rfl (own_flt (x := q) (y := (65536 : Int32)) hc58).1 k) ?_
        refine own_st (fr' := (mkF m 21 #[.val (.int q)] [(.int (1 : Int32))])) (fun t k => XS.iconst X0.here hx rfl (hb hby d2_20) k) ?_
        exact own_retZ X0 hx hlk hret (Or.inr rfl) (hb hby d2_21) (by decide) (by decide) (⟨own_z_isn_1 q (by omega), N0, e0⟩)
theorem pd_0 : parseMethodDescriptor "(I)Z" = some ⟨[.int], some .boolean⟩ := by decide +kernel
theorem ef_law (m : MethodId) (p0 : Int32) (p1 : Int32) : entryFrame m #[(.int p0), (.int p1)] maxLocals = mkF m 0 #[.val (.int p0), .val (.int p1), .unset, .unset, .unset, .unset] [] := by first | (simp [entryFrame, mkF, argsToLocals, Value.category, maxLocals]; done) | rfl
def Q_law (Z : State) (p0 : Int32) (p1 : Int32) (h0 : Heap) (n0 : Nat) : Option Value → Heap → List Loc → Prop := fun v h L => v = some (.int 1) ∧ Fr n0 L
set_option maxRecDepth 65536 in
set_option maxHeartbeats 40000000 in
theorem rm_law (l : Launch) (Z : State) (a0 : Array Value) (hw : ∀ d ∈ tables_1, d.before a0 Z = true) (ws : List Jvm.Cond) (p0 : Int32) (p1 : Int32) (h0 : Heap) (n0 : Nat) (Z0 : n0 ≤ h0.size)  :
    MetFree l x (head1 (Jvm.Cond.code x code maxLocals ret :: ws) room_1) (fun aX U => aX = #[(.int p0), (.int p1)] ∧ Z.Warmed39 U.vm ∧ U.heap = h0) (fun _ _ _ _ _ => True) (fun _ U o U' => ∃ v L, o = .returned v ∧ (Q_law Z p0 p1 h0 n0) v U'.heap L ∧ FrameEnd U o U' L room_1.cells room_1.slots) := by
  refine own_met (Q := (Q_law Z p0 p1 h0 n0)) (plainFor_of_name (x := x) pn_1) (fun m => ef_law m p0 p1) ?_
  intro p e s m below meth cD s₁ hx hby hml hret hlk hZ hown hnm X0 e0 hs0
  have hml : cD.maxLocals = 6 := hml
  have hown : s.vm.findClass "com/example/precedence/precedence/tree/XmlIsNameStartCharPinLaw" = some m.cls := hown
  have N0 := Fr.nil n0
  refine own_st (fr' := (mkF m 2 #[.val (.int p0), .val (.int p1), .unset, .unset, .unset, .unset] [(.int (64 : Int32))])) (fun t k => XS.bipush X0.here hx rfl (hb hby at_0) k) ?_
  refine own_newarr X0 hx hZ (hw _ (List.mem_of_getElem? (i := 0) rfl)) e0 (hb hby at_2) (by decide) (cap := 64) (by decide) (by decide) (by decide) (by decide) rfl ?_
  intro T84 h84 b84 g84 X84 e84 E84 V84
  have ge_b84 : n0 ≤ b84 := Nat.le_trans Z0 (Nat.le_of_eq g84.symm)
  have sz_b84 : h0.size ≤ b84 := Nat.le_trans (Keep.refl h0 []).1 (Nat.le_of_eq g84.symm)
  refine own_st (fr' := (mkF m 5 #[.val (.int p0), .val (.int p1), .unset, .unset, .unset, .unset] [(.ref b84), (.ref b84)])) (fun t k => XS.dup X84.here hx rfl (hb hby at_4) rfl rfl k) ?_
  refine own_st (fr' := (mkF m 6 #[.val (.int p0), .val (.int p1), .unset, .unset, .unset, .unset] [(.int (0 : Int32)), (.ref b84), (.ref b84)])) (fun t k => XS.iconst X84.here hx rfl (hb hby at_5) k) ?_
  refine own_st (fr' := (mkF m 8 #[.val (.int p0), .val (.int p1), .unset, .unset, .unset, .unset] [(.int (-2147483648 : Int32)), (.int (0 : Int32)), (.ref b84), (.ref b84)])) (fun t k => X84.ldcInt hx hown (mvT hZ (hw _ (List.mem_of_getElem? (i := 1) rfl))) (g := (mkF m 6 #[.val (.int p0), .val (.int p1), .unset, .unset, .unset, .unset] [(.int (0 : Int32)), (.ref b84), (.ref b84)])) rfl (hb hby at_6) t k) ?_
  refine own_iastore X84 hx hZ e84 V84 (by decide) (by decide) (hb hby at_8) ?_
  intro T85 h85 X85 e85 W85 V85
  have N85 := Fr.snoc X85 N0 ge_b84
  refine own_st (fr' := (mkF m 10 #[.val (.int p0), .val (.int p1), .unset, .unset, .unset, .unset] [(.ref b84), (.ref b84)])) (fun t k => XS.dup X85.here hx rfl (hb hby at_9) rfl rfl k) ?_
  refine own_st (fr' := (mkF m 11 #[.val (.int p0), .val (.int p1), .unset, .unset, .unset, .unset] [(.int (1 : Int32)), (.ref b84), (.ref b84)])) (fun t k => XS.iconst X85.here hx rfl (hb hby at_10) k) ?_
  refine own_st (fr' := (mkF m 12 #[.val (.int p0), .val (.int p1), .unset, .unset, .unset, .unset] [(.int (-1 : Int32)), (.int (1 : Int32)), (.ref b84), (.ref b84)])) (fun t k => XS.iconst X85.here hx rfl (hb hby at_11) k) ?_
  refine own_iastore X85 hx hZ e85 V85 (by decide) (by decide) (hb hby at_12) ?_
  intro T86 h86 X86 e86 W86 V86
  have N86 := Fr.snoc X86 N85 ge_b84
  refine own_st (fr' := (mkF m 14 #[.val (.int p0), .val (.int p1), .unset, .unset, .unset, .unset] [(.ref b84), (.ref b84)])) (fun t k => XS.dup X86.here hx rfl (hb hby at_13) rfl rfl k) ?_
  refine own_st (fr' := (mkF m 15 #[.val (.int p0), .val (.int p1), .unset, .unset, .unset, .unset] [(.int (2 : Int32)), (.ref b84), (.ref b84)])) (fun t k => XS.iconst X86.here hx rfl (hb hby at_14) k) ?_
  refine own_st (fr' := (mkF m 16 #[.val (.int p0), .val (.int p1), .unset, .unset, .unset, .unset] [(.int (0 : Int32)), (.int (2 : Int32)), (.ref b84), (.ref b84)])) (fun t k => XS.iconst X86.here hx rfl (hb hby at_15) k) ?_
  refine own_iastore X86 hx hZ e86 V86 (by decide) (by decide) (hb hby at_16) ?_
  intro T87 h87 X87 e87 W87 V87
  have N87 := Fr.snoc X87 N86 ge_b84
  refine own_st (fr' := (mkF m 18 #[.val (.int p0), .val (.int p1), .unset, .unset, .unset, .unset] [(.ref b84), (.ref b84)])) (fun t k => XS.dup X87.here hx rfl (hb hby at_17) rfl rfl k) ?_
  refine own_st (fr' := (mkF m 19 #[.val (.int p0), .val (.int p1), .unset, .unset, .unset, .unset] [(.int (3 : Int32)), (.ref b84), (.ref b84)])) (fun t k => XS.iconst X87.here hx rfl (hb hby at_18) k) ?_
  refine own_st (fr' := (mkF m 21 #[.val (.int p0), .val (.int p1), .unset, .unset, .unset, .unset] [(.int (45 : Int32)), (.int (3 : Int32)), (.ref b84), (.ref b84)])) (fun t k => XS.bipush X87.here hx rfl (hb hby at_19) k) ?_
  refine own_iastore X87 hx hZ e87 V87 (by decide) (by decide) (hb hby at_21) ?_
  intro T88 h88 X88 e88 W88 V88
  have N88 := Fr.snoc X88 N87 ge_b84
  refine own_st (fr' := (mkF m 23 #[.val (.int p0), .val (.int p1), .unset, .unset, .unset, .unset] [(.ref b84), (.ref b84)])) (fun t k => XS.dup X88.here hx rfl (hb hby at_22) rfl rfl k) ?_
  refine own_st (fr' := (mkF m 24 #[.val (.int p0), .val (.int p1), .unset, .unset, .unset, .unset] [(.int (4 : Int32)), (.ref b84), (.ref b84)])) (fun t k => XS.iconst X88.here hx rfl (hb hby at_23) k) ?_
  refine own_st (fr' := (mkF m 26 #[.val (.int p0), .val (.int p1), .unset, .unset, .unset, .unset] [(.int (48 : Int32)), (.int (4 : Int32)), (.ref b84), (.ref b84)])) (fun t k => XS.bipush X88.here hx rfl (hb hby at_24) k) ?_
  refine own_iastore X88 hx hZ e88 V88 (by decide) (by decide) (hb hby at_26) ?_
  intro T89 h89 X89 e89 W89 V89
  have N89 := Fr.snoc X89 N88 ge_b84
  refine own_st (fr' := (mkF m 28 #[.val (.int p0), .val (.int p1), .unset, .unset, .unset, .unset] [(.ref b84), (.ref b84)])) (fun t k => XS.dup X89.here hx rfl (hb hby at_27) rfl rfl k) ?_
  refine own_st (fr' := (mkF m 29 #[.val (.int p0), .val (.int p1), .unset, .unset, .unset, .unset] [(.int (5 : Int32)), (.ref b84), (.ref b84)])) (fun t k => XS.iconst X89.here hx rfl (hb hby at_28) k) ?_
  refine own_st (fr' := (mkF m 31 #[.val (.int p0), .val (.int p1), .unset, .unset, .unset, .unset] [(.int (58 : Int32)), (.int (5 : Int32)), (.ref b84), (.ref b84)])) (fun t k => XS.bipush X89.here hx rfl (hb hby at_29) k) ?_
  refine own_iastore X89 hx hZ e89 V89 (by decide) (by decide) (hb hby at_31) ?_
  intro T90 h90 X90 e90 W90 V90
  have N90 := Fr.snoc X90 N89 ge_b84
  refine own_st (fr' := (mkF m 33 #[.val (.int p0), .val (.int p1), .unset, .unset, .unset, .unset] [(.ref b84), (.ref b84)])) (fun t k => XS.dup X90.here hx rfl (hb hby at_32) rfl rfl k) ?_
  refine own_st (fr' := (mkF m 35 #[.val (.int p0), .val (.int p1), .unset, .unset, .unset, .unset] [(.int (6 : Int32)), (.ref b84), (.ref b84)])) (fun t k => XS.bipush X90.here hx rfl (hb hby at_33) k) ?_
  refine own_st (fr' := (mkF m 37 #[.val (.int p0), .val (.int p1), .unset, .unset, .unset, .unset] [(.int (64 : Int32)), (.int (6 : Int32)), (.ref b84), (.ref b84)])) (fun t k => XS.bipush X90.here hx rfl (hb hby at_35) k) ?_
  refine own_iastore X90 hx hZ e90 V90 (by decide) (by decide) (hb hby at_37) ?_
  intro T91 h91 X91 e91 W91 V91
  have N91 := Fr.snoc X91 N90 ge_b84
  refine own_st (fr' := (mkF m 39 #[.val (.int p0), .val (.int p1), .unset, .unset, .unset, .unset] [(.ref b84), (.ref b84)])) (fun t k => XS.dup X91.here hx rfl (hb hby at_38) rfl rfl k) ?_
  refine own_st (fr' := (mkF m 41 #[.val (.int p0), .val (.int p1), .unset, .unset, .unset, .unset] [(.int (7 : Int32)), (.ref b84), (.ref b84)])) (fun t k => XS.bipush X91.here hx rfl (hb hby at_39) k) ?_
  refine own_st (fr' := (mkF m 43 #[.val (.int p0), .val (.int p1), .unset, .unset, .unset, .unset] [(.int (65 : Int32)), (.int (7 : Int32)), (.ref b84), (.ref b84)])) (fun t k => XS.bipush X91.here hx rfl (hb hby at_41) k) ?_
  refine own_iastore X91 hx hZ e91 V91 (by decide) (by decide) (hb hby at_43) ?_
  intro T92 h92 X92 e92 W92 V92
  have N92 := Fr.snoc X92 N91 ge_b84
  refine own_st (fr' := (mkF m 45 #[.val (.int p0), .val (.int p1), .unset, .unset, .unset, .unset] [(.ref b84), (.ref b84)])) (fun t k => XS.dup X92.here hx rfl (hb hby at_44) rfl rfl k) ?_
  refine own_st (fr' := (mkF m 47 #[.val (.int p0), .val (.int p1), .unset, .unset, .unset, .unset] [(.int (8 : Int32)), (.ref b84), (.ref b84)])) (fun t k => XS.bipush X92.here hx rfl (hb hby at_45) k) ?_
  refine own_st (fr' := (mkF m 49 #[.val (.int p0), .val (.int p1), .unset, .unset, .unset, .unset] [(.int (90 : Int32)), (.int (8 : Int32)), (.ref b84), (.ref b84)])) (fun t k => XS.bipush X92.here hx rfl (hb hby at_47) k) ?_
  refine own_iastore X92 hx hZ e92 V92 (by decide) (by decide) (hb hby at_49) ?_
  intro T93 h93 X93 e93 W93 V93
  have N93 := Fr.snoc X93 N92 ge_b84
  refine own_st (fr' := (mkF m 51 #[.val (.int p0), .val (.int p1), .unset, .unset, .unset, .unset] [(.ref b84), (.ref b84)])) (fun t k => XS.dup X93.here hx rfl (hb hby at_50) rfl rfl k) ?_
  refine own_st (fr' := (mkF m 53 #[.val (.int p0), .val (.int p1), .unset, .unset, .unset, .unset] [(.int (9 : Int32)), (.ref b84), (.ref b84)])) (fun t k => XS.bipush X93.here hx rfl (hb hby at_51) k) ?_
  refine own_st (fr' := (mkF m 55 #[.val (.int p0), .val (.int p1), .unset, .unset, .unset, .unset] [(.int (91 : Int32)), (.int (9 : Int32)), (.ref b84), (.ref b84)])) (fun t k => XS.bipush X93.here hx rfl (hb hby at_53) k) ?_
  refine own_iastore X93 hx hZ e93 V93 (by decide) (by decide) (hb hby at_55) ?_
  intro T94 h94 X94 e94 W94 V94
  have N94 := Fr.snoc X94 N93 ge_b84
  refine own_st (fr' := (mkF m 57 #[.val (.int p0), .val (.int p1), .unset, .unset, .unset, .unset] [(.ref b84), (.ref b84)])) (fun t k => XS.dup X94.here hx rfl (hb hby at_56) rfl rfl k) ?_
  refine own_st (fr' := (mkF m 59 #[.val (.int p0), .val (.int p1), .unset, .unset, .unset, .unset] [(.int (10 : Int32)), (.ref b84), (.ref b84)])) (fun t k => XS.bipush X94.here hx rfl (hb hby at_57) k) ?_
  refine own_st (fr' := (mkF m 61 #[.val (.int p0), .val (.int p1), .unset, .unset, .unset, .unset] [(.int (94 : Int32)), (.int (10 : Int32)), (.ref b84), (.ref b84)])) (fun t k => XS.bipush X94.here hx rfl (hb hby at_59) k) ?_
  refine own_iastore X94 hx hZ e94 V94 (by decide) (by decide) (hb hby at_61) ?_
  intro T95 h95 X95 e95 W95 V95
  have N95 := Fr.snoc X95 N94 ge_b84
  refine own_st (fr' := (mkF m 63 #[.val (.int p0), .val (.int p1), .unset, .unset, .unset, .unset] [(.ref b84), (.ref b84)])) (fun t k => XS.dup X95.here hx rfl (hb hby at_62) rfl rfl k) ?_
  refine own_st (fr' := (mkF m 65 #[.val (.int p0), .val (.int p1), .unset, .unset, .unset, .unset] [(.int (11 : Int32)), (.ref b84), (.ref b84)])) (fun t k => XS.bipush X95.here hx rfl (hb hby at_63) k) ?_
  refine own_st (fr' := (mkF m 67 #[.val (.int p0), .val (.int p1), .unset, .unset, .unset, .unset] [(.int (95 : Int32)), (.int (11 : Int32)), (.ref b84), (.ref b84)])) (fun t k => XS.bipush X95.here hx rfl (hb hby at_65) k) ?_
  refine own_iastore X95 hx hZ e95 V95 (by decide) (by decide) (hb hby at_67) ?_
  intro T96 h96 X96 e96 W96 V96
  have N96 := Fr.snoc X96 N95 ge_b84
  refine own_st (fr' := (mkF m 69 #[.val (.int p0), .val (.int p1), .unset, .unset, .unset, .unset] [(.ref b84), (.ref b84)])) (fun t k => XS.dup X96.here hx rfl (hb hby at_68) rfl rfl k) ?_
  refine own_st (fr' := (mkF m 71 #[.val (.int p0), .val (.int p1), .unset, .unset, .unset, .unset] [(.int (12 : Int32)), (.ref b84), (.ref b84)])) (fun t k => XS.bipush X96.here hx rfl (hb hby at_69) k) ?_
  refine own_st (fr' := (mkF m 73 #[.val (.int p0), .val (.int p1), .unset, .unset, .unset, .unset] [(.int (96 : Int32)), (.int (12 : Int32)), (.ref b84), (.ref b84)])) (fun t k => XS.bipush X96.here hx rfl (hb hby at_71) k) ?_
  refine own_iastore X96 hx hZ e96 V96 (by decide) (by decide) (hb hby at_73) ?_
  intro T97 h97 X97 e97 W97 V97
  have N97 := Fr.snoc X97 N96 ge_b84
  refine own_st (fr' := (mkF m 75 #[.val (.int p0), .val (.int p1), .unset, .unset, .unset, .unset] [(.ref b84), (.ref b84)])) (fun t k => XS.dup X97.here hx rfl (hb hby at_74) rfl rfl k) ?_
  refine own_st (fr' := (mkF m 77 #[.val (.int p0), .val (.int p1), .unset, .unset, .unset, .unset] [(.int (13 : Int32)), (.ref b84), (.ref b84)])) (fun t k => XS.bipush X97.here hx rfl (hb hby at_75) k) ?_
  refine own_st (fr' := (mkF m 79 #[.val (.int p0), .val (.int p1), .unset, .unset, .unset, .unset] [(.int (97 : Int32)), (.int (13 : Int32)), (.ref b84), (.ref b84)])) (fun t k => XS.bipush X97.here hx rfl (hb hby at_77) k) ?_
  refine own_iastore X97 hx hZ e97 V97 (by decide) (by decide) (hb hby at_79) ?_
  intro T98 h98 X98 e98 W98 V98
  have N98 := Fr.snoc X98 N97 ge_b84
  refine own_st (fr' := (mkF m 81 #[.val (.int p0), .val (.int p1), .unset, .unset, .unset, .unset] [(.ref b84), (.ref b84)])) (fun t k => XS.dup X98.here hx rfl (hb hby at_80) rfl rfl k) ?_
  refine own_st (fr' := (mkF m 83 #[.val (.int p0), .val (.int p1), .unset, .unset, .unset, .unset] [(.int (14 : Int32)), (.ref b84), (.ref b84)])) (fun t k => XS.bipush X98.here hx rfl (hb hby at_81) k) ?_
  refine own_st (fr' := (mkF m 85 #[.val (.int p0), .val (.int p1), .unset, .unset, .unset, .unset] [(.int (122 : Int32)), (.int (14 : Int32)), (.ref b84), (.ref b84)])) (fun t k => XS.bipush X98.here hx rfl (hb hby at_83) k) ?_
  refine own_iastore X98 hx hZ e98 V98 (by decide) (by decide) (hb hby at_85) ?_
  intro T99 h99 X99 e99 W99 V99
  have N99 := Fr.snoc X99 N98 ge_b84
  refine own_st (fr' := (mkF m 87 #[.val (.int p0), .val (.int p1), .unset, .unset, .unset, .unset] [(.ref b84), (.ref b84)])) (fun t k => XS.dup X99.here hx rfl (hb hby at_86) rfl rfl k) ?_
  refine own_st (fr' := (mkF m 89 #[.val (.int p0), .val (.int p1), .unset, .unset, .unset, .unset] [(.int (15 : Int32)), (.ref b84), (.ref b84)])) (fun t k => XS.bipush X99.here hx rfl (hb hby at_87) k) ?_
  refine own_st (fr' := (mkF m 91 #[.val (.int p0), .val (.int p1), .unset, .unset, .unset, .unset] [(.int (123 : Int32)), (.int (15 : Int32)), (.ref b84), (.ref b84)])) (fun t k => XS.bipush X99.here hx rfl (hb hby at_89) k) ?_
  refine own_iastore X99 hx hZ e99 V99 (by decide) (by decide) (hb hby at_91) ?_
  intro T100 h100 X100 e100 W100 V100
  have N100 := Fr.snoc X100 N99 ge_b84
  refine own_st (fr' := (mkF m 93 #[.val (.int p0), .val (.int p1), .unset, .unset, .unset, .unset] [(.ref b84), (.ref b84)])) (fun t k => XS.dup X100.here hx rfl (hb hby at_92) rfl rfl k) ?_
  refine own_st (fr' := (mkF m 95 #[.val (.int p0), .val (.int p1), .unset, .unset, .unset, .unset] [(.int (16 : Int32)), (.ref b84), (.ref b84)])) (fun t k => XS.bipush X100.here hx rfl (hb hby at_93) k) ?_
  refine own_st (fr' := (mkF m 98 #[.val (.int p0), .val (.int p1), .unset, .unset, .unset, .unset] [(.int (183 : Int32)), (.int (16 : Int32)), (.ref b84), (.ref b84)])) (fun t k => XS.sipush X100.here hx rfl (hb hby at_95) k) ?_
  refine own_iastore X100 hx hZ e100 V100 (by decide) (by decide) (hb hby at_98) ?_
  intro T101 h101 X101 e101 W101 V101
  have N101 := Fr.snoc X101 N100 ge_b84
  refine own_st (fr' := (mkF m 100 #[.val (.int p0), .val (.int p1), .unset, .unset, .unset, .unset] [(.ref b84), (.ref b84)])) (fun t k => XS.dup X101.here hx rfl (hb hby at_99) rfl rfl k) ?_
  refine own_st (fr' := (mkF m 102 #[.val (.int p0), .val (.int p1), .unset, .unset, .unset, .unset] [(.int (17 : Int32)), (.ref b84), (.ref b84)])) (fun t k => XS.bipush X101.here hx rfl (hb hby at_100) k) ?_
  refine own_st (fr' := (mkF m 105 #[.val (.int p0), .val (.int p1), .unset, .unset, .unset, .unset] [(.int (191 : Int32)), (.int (17 : Int32)), (.ref b84), (.ref b84)])) (fun t k => XS.sipush X101.here hx rfl (hb hby at_102) k) ?_
  refine own_iastore X101 hx hZ e101 V101 (by decide) (by decide) (hb hby at_105) ?_
  intro T102 h102 X102 e102 W102 V102
  have N102 := Fr.snoc X102 N101 ge_b84
  refine own_st (fr' := (mkF m 107 #[.val (.int p0), .val (.int p1), .unset, .unset, .unset, .unset] [(.ref b84), (.ref b84)])) (fun t k => XS.dup X102.here hx rfl (hb hby at_106) rfl rfl k) ?_
  refine own_st (fr' := (mkF m 109 #[.val (.int p0), .val (.int p1), .unset, .unset, .unset, .unset] [(.int (18 : Int32)), (.ref b84), (.ref b84)])) (fun t k => XS.bipush X102.here hx rfl (hb hby at_107) k) ?_
  refine own_st (fr' := (mkF m 112 #[.val (.int p0), .val (.int p1), .unset, .unset, .unset, .unset] [(.int (192 : Int32)), (.int (18 : Int32)), (.ref b84), (.ref b84)])) (fun t k => XS.sipush X102.here hx rfl (hb hby at_109) k) ?_
  refine own_iastore X102 hx hZ e102 V102 (by decide) (by decide) (hb hby at_112) ?_
  intro T103 h103 X103 e103 W103 V103
  have N103 := Fr.snoc X103 N102 ge_b84
  refine own_st (fr' := (mkF m 114 #[.val (.int p0), .val (.int p1), .unset, .unset, .unset, .unset] [(.ref b84), (.ref b84)])) (fun t k => XS.dup X103.here hx rfl (hb hby at_113) rfl rfl k) ?_
  refine own_st (fr' := (mkF m 116 #[.val (.int p0), .val (.int p1), .unset, .unset, .unset, .unset] [(.int (19 : Int32)), (.ref b84), (.ref b84)])) (fun t k => XS.bipush X103.here hx rfl (hb hby at_114) k) ?_
  refine own_st (fr' := (mkF m 119 #[.val (.int p0), .val (.int p1), .unset, .unset, .unset, .unset] [(.int (214 : Int32)), (.int (19 : Int32)), (.ref b84), (.ref b84)])) (fun t k => XS.sipush X103.here hx rfl (hb hby at_116) k) ?_
  refine own_iastore X103 hx hZ e103 V103 (by decide) (by decide) (hb hby at_119) ?_
  intro T104 h104 X104 e104 W104 V104
  have N104 := Fr.snoc X104 N103 ge_b84
  refine own_st (fr' := (mkF m 121 #[.val (.int p0), .val (.int p1), .unset, .unset, .unset, .unset] [(.ref b84), (.ref b84)])) (fun t k => XS.dup X104.here hx rfl (hb hby at_120) rfl rfl k) ?_
  refine own_st (fr' := (mkF m 123 #[.val (.int p0), .val (.int p1), .unset, .unset, .unset, .unset] [(.int (20 : Int32)), (.ref b84), (.ref b84)])) (fun t k => XS.bipush X104.here hx rfl (hb hby at_121) k) ?_
  refine own_st (fr' := (mkF m 126 #[.val (.int p0), .val (.int p1), .unset, .unset, .unset, .unset] [(.int (215 : Int32)), (.int (20 : Int32)), (.ref b84), (.ref b84)])) (fun t k => XS.sipush X104.here hx rfl (hb hby at_123) k) ?_
  refine own_iastore X104 hx hZ e104 V104 (by decide) (by decide) (hb hby at_126) ?_
  intro T105 h105 X105 e105 W105 V105
  have N105 := Fr.snoc X105 N104 ge_b84
  refine own_st (fr' := (mkF m 128 #[.val (.int p0), .val (.int p1), .unset, .unset, .unset, .unset] [(.ref b84), (.ref b84)])) (fun t k => XS.dup X105.here hx rfl (hb hby at_127) rfl rfl k) ?_
  refine own_st (fr' := (mkF m 130 #[.val (.int p0), .val (.int p1), .unset, .unset, .unset, .unset] [(.int (21 : Int32)), (.ref b84), (.ref b84)])) (fun t k => XS.bipush X105.here hx rfl (hb hby at_128) k) ?_
  refine own_st (fr' := (mkF m 133 #[.val (.int p0), .val (.int p1), .unset, .unset, .unset, .unset] [(.int (216 : Int32)), (.int (21 : Int32)), (.ref b84), (.ref b84)])) (fun t k => XS.sipush X105.here hx rfl (hb hby at_130) k) ?_
  refine own_iastore X105 hx hZ e105 V105 (by decide) (by decide) (hb hby at_133) ?_
  intro T106 h106 X106 e106 W106 V106
  have N106 := Fr.snoc X106 N105 ge_b84
  refine own_st (fr' := (mkF m 135 #[.val (.int p0), .val (.int p1), .unset, .unset, .unset, .unset] [(.ref b84), (.ref b84)])) (fun t k => XS.dup X106.here hx rfl (hb hby at_134) rfl rfl k) ?_
  refine own_st (fr' := (mkF m 137 #[.val (.int p0), .val (.int p1), .unset, .unset, .unset, .unset] [(.int (22 : Int32)), (.ref b84), (.ref b84)])) (fun t k => XS.bipush X106.here hx rfl (hb hby at_135) k) ?_
  refine own_st (fr' := (mkF m 140 #[.val (.int p0), .val (.int p1), .unset, .unset, .unset, .unset] [(.int (246 : Int32)), (.int (22 : Int32)), (.ref b84), (.ref b84)])) (fun t k => XS.sipush X106.here hx rfl (hb hby at_137) k) ?_
  refine own_iastore X106 hx hZ e106 V106 (by decide) (by decide) (hb hby at_140) ?_
  intro T107 h107 X107 e107 W107 V107
  have N107 := Fr.snoc X107 N106 ge_b84
  refine own_st (fr' := (mkF m 142 #[.val (.int p0), .val (.int p1), .unset, .unset, .unset, .unset] [(.ref b84), (.ref b84)])) (fun t k => XS.dup X107.here hx rfl (hb hby at_141) rfl rfl k) ?_
  refine own_st (fr' := (mkF m 144 #[.val (.int p0), .val (.int p1), .unset, .unset, .unset, .unset] [(.int (23 : Int32)), (.ref b84), (.ref b84)])) (fun t k => XS.bipush X107.here hx rfl (hb hby at_142) k) ?_
  refine own_st (fr' := (mkF m 147 #[.val (.int p0), .val (.int p1), .unset, .unset, .unset, .unset] [(.int (247 : Int32)), (.int (23 : Int32)), (.ref b84), (.ref b84)])) (fun t k => XS.sipush X107.here hx rfl (hb hby at_144) k) ?_
  refine own_iastore X107 hx hZ e107 V107 (by decide) (by decide) (hb hby at_147) ?_
  intro T108 h108 X108 e108 W108 V108
  have N108 := Fr.snoc X108 N107 ge_b84
  refine own_st (fr' := (mkF m 149 #[.val (.int p0), .val (.int p1), .unset, .unset, .unset, .unset] [(.ref b84), (.ref b84)])) (fun t k => XS.dup X108.here hx rfl (hb hby at_148) rfl rfl k) ?_
  refine own_st (fr' := (mkF m 151 #[.val (.int p0), .val (.int p1), .unset, .unset, .unset, .unset] [(.int (24 : Int32)), (.ref b84), (.ref b84)])) (fun t k => XS.bipush X108.here hx rfl (hb hby at_149) k) ?_
  refine own_st (fr' := (mkF m 154 #[.val (.int p0), .val (.int p1), .unset, .unset, .unset, .unset] [(.int (248 : Int32)), (.int (24 : Int32)), (.ref b84), (.ref b84)])) (fun t k => XS.sipush X108.here hx rfl (hb hby at_151) k) ?_
  refine own_iastore X108 hx hZ e108 V108 (by decide) (by decide) (hb hby at_154) ?_
  intro T109 h109 X109 e109 W109 V109
  have N109 := Fr.snoc X109 N108 ge_b84
  refine own_st (fr' := (mkF m 156 #[.val (.int p0), .val (.int p1), .unset, .unset, .unset, .unset] [(.ref b84), (.ref b84)])) (fun t k => XS.dup X109.here hx rfl (hb hby at_155) rfl rfl k) ?_
  refine own_st (fr' := (mkF m 158 #[.val (.int p0), .val (.int p1), .unset, .unset, .unset, .unset] [(.int (25 : Int32)), (.ref b84), (.ref b84)])) (fun t k => XS.bipush X109.here hx rfl (hb hby at_156) k) ?_
  refine own_st (fr' := (mkF m 161 #[.val (.int p0), .val (.int p1), .unset, .unset, .unset, .unset] [(.int (767 : Int32)), (.int (25 : Int32)), (.ref b84), (.ref b84)])) (fun t k => XS.sipush X109.here hx rfl (hb hby at_158) k) ?_
  refine own_iastore X109 hx hZ e109 V109 (by decide) (by decide) (hb hby at_161) ?_
  intro T110 h110 X110 e110 W110 V110
  have N110 := Fr.snoc X110 N109 ge_b84
  refine own_st (fr' := (mkF m 163 #[.val (.int p0), .val (.int p1), .unset, .unset, .unset, .unset] [(.ref b84), (.ref b84)])) (fun t k => XS.dup X110.here hx rfl (hb hby at_162) rfl rfl k) ?_
  refine own_st (fr' := (mkF m 165 #[.val (.int p0), .val (.int p1), .unset, .unset, .unset, .unset] [(.int (26 : Int32)), (.ref b84), (.ref b84)])) (fun t k => XS.bipush X110.here hx rfl (hb hby at_163) k) ?_
  refine own_st (fr' := (mkF m 168 #[.val (.int p0), .val (.int p1), .unset, .unset, .unset, .unset] [(.int (768 : Int32)), (.int (26 : Int32)), (.ref b84), (.ref b84)])) (fun t k => XS.sipush X110.here hx rfl (hb hby at_165) k) ?_
  refine own_iastore X110 hx hZ e110 V110 (by decide) (by decide) (hb hby at_168) ?_
  intro T111 h111 X111 e111 W111 V111
  have N111 := Fr.snoc X111 N110 ge_b84
  refine own_st (fr' := (mkF m 170 #[.val (.int p0), .val (.int p1), .unset, .unset, .unset, .unset] [(.ref b84), (.ref b84)])) (fun t k => XS.dup X111.here hx rfl (hb hby at_169) rfl rfl k) ?_
  refine own_st (fr' := (mkF m 172 #[.val (.int p0), .val (.int p1), .unset, .unset, .unset, .unset] [(.int (27 : Int32)), (.ref b84), (.ref b84)])) (fun t k => XS.bipush X111.here hx rfl (hb hby at_170) k) ?_
  refine own_st (fr' := (mkF m 175 #[.val (.int p0), .val (.int p1), .unset, .unset, .unset, .unset] [(.int (879 : Int32)), (.int (27 : Int32)), (.ref b84), (.ref b84)])) (fun t k => XS.sipush X111.here hx rfl (hb hby at_172) k) ?_
  refine own_iastore X111 hx hZ e111 V111 (by decide) (by decide) (hb hby at_175) ?_
  intro T112 h112 X112 e112 W112 V112
  have N112 := Fr.snoc X112 N111 ge_b84
  refine own_st (fr' := (mkF m 177 #[.val (.int p0), .val (.int p1), .unset, .unset, .unset, .unset] [(.ref b84), (.ref b84)])) (fun t k => XS.dup X112.here hx rfl (hb hby at_176) rfl rfl k) ?_
  refine own_st (fr' := (mkF m 179 #[.val (.int p0), .val (.int p1), .unset, .unset, .unset, .unset] [(.int (28 : Int32)), (.ref b84), (.ref b84)])) (fun t k => XS.bipush X112.here hx rfl (hb hby at_177) k) ?_
  refine own_st (fr' := (mkF m 182 #[.val (.int p0), .val (.int p1), .unset, .unset, .unset, .unset] [(.int (880 : Int32)), (.int (28 : Int32)), (.ref b84), (.ref b84)])) (fun t k => XS.sipush X112.here hx rfl (hb hby at_179) k) ?_
  refine own_iastore X112 hx hZ e112 V112 (by decide) (by decide) (hb hby at_182) ?_
  intro T113 h113 X113 e113 W113 V113
  have N113 := Fr.snoc X113 N112 ge_b84
  refine own_st (fr' := (mkF m 184 #[.val (.int p0), .val (.int p1), .unset, .unset, .unset, .unset] [(.ref b84), (.ref b84)])) (fun t k => XS.dup X113.here hx rfl (hb hby at_183) rfl rfl k) ?_
  refine own_st (fr' := (mkF m 186 #[.val (.int p0), .val (.int p1), .unset, .unset, .unset, .unset] [(.int (29 : Int32)), (.ref b84), (.ref b84)])) (fun t k => XS.bipush X113.here hx rfl (hb hby at_184) k) ?_
  refine own_st (fr' := (mkF m 189 #[.val (.int p0), .val (.int p1), .unset, .unset, .unset, .unset] [(.int (893 : Int32)), (.int (29 : Int32)), (.ref b84), (.ref b84)])) (fun t k => XS.sipush X113.here hx rfl (hb hby at_186) k) ?_
  refine own_iastore X113 hx hZ e113 V113 (by decide) (by decide) (hb hby at_189) ?_
  intro T114 h114 X114 e114 W114 V114
  have N114 := Fr.snoc X114 N113 ge_b84
  refine own_st (fr' := (mkF m 191 #[.val (.int p0), .val (.int p1), .unset, .unset, .unset, .unset] [(.ref b84), (.ref b84)])) (fun t k => XS.dup X114.here hx rfl (hb hby at_190) rfl rfl k) ?_
  refine own_st (fr' := (mkF m 193 #[.val (.int p0), .val (.int p1), .unset, .unset, .unset, .unset] [(.int (30 : Int32)), (.ref b84), (.ref b84)])) (fun t k => XS.bipush X114.here hx rfl (hb hby at_191) k) ?_
  refine own_st (fr' := (mkF m 196 #[.val (.int p0), .val (.int p1), .unset, .unset, .unset, .unset] [(.int (894 : Int32)), (.int (30 : Int32)), (.ref b84), (.ref b84)])) (fun t k => XS.sipush X114.here hx rfl (hb hby at_193) k) ?_
  refine own_iastore X114 hx hZ e114 V114 (by decide) (by decide) (hb hby at_196) ?_
  intro T115 h115 X115 e115 W115 V115
  have N115 := Fr.snoc X115 N114 ge_b84
  refine own_st (fr' := (mkF m 198 #[.val (.int p0), .val (.int p1), .unset, .unset, .unset, .unset] [(.ref b84), (.ref b84)])) (fun t k => XS.dup X115.here hx rfl (hb hby at_197) rfl rfl k) ?_
  refine own_st (fr' := (mkF m 200 #[.val (.int p0), .val (.int p1), .unset, .unset, .unset, .unset] [(.int (31 : Int32)), (.ref b84), (.ref b84)])) (fun t k => XS.bipush X115.here hx rfl (hb hby at_198) k) ?_
  refine own_st (fr' := (mkF m 203 #[.val (.int p0), .val (.int p1), .unset, .unset, .unset, .unset] [(.int (895 : Int32)), (.int (31 : Int32)), (.ref b84), (.ref b84)])) (fun t k => XS.sipush X115.here hx rfl (hb hby at_200) k) ?_
  refine own_iastore X115 hx hZ e115 V115 (by decide) (by decide) (hb hby at_203) ?_
  intro T116 h116 X116 e116 W116 V116
  have N116 := Fr.snoc X116 N115 ge_b84
  refine own_st (fr' := (mkF m 205 #[.val (.int p0), .val (.int p1), .unset, .unset, .unset, .unset] [(.ref b84), (.ref b84)])) (fun t k => XS.dup X116.here hx rfl (hb hby at_204) rfl rfl k) ?_
  refine own_st (fr' := (mkF m 207 #[.val (.int p0), .val (.int p1), .unset, .unset, .unset, .unset] [(.int (32 : Int32)), (.ref b84), (.ref b84)])) (fun t k => XS.bipush X116.here hx rfl (hb hby at_205) k) ?_
  refine own_st (fr' := (mkF m 210 #[.val (.int p0), .val (.int p1), .unset, .unset, .unset, .unset] [(.int (8191 : Int32)), (.int (32 : Int32)), (.ref b84), (.ref b84)])) (fun t k => XS.sipush X116.here hx rfl (hb hby at_207) k) ?_
  refine own_iastore X116 hx hZ e116 V116 (by decide) (by decide) (hb hby at_210) ?_
  intro T117 h117 X117 e117 W117 V117
  have N117 := Fr.snoc X117 N116 ge_b84
  refine own_st (fr' := (mkF m 212 #[.val (.int p0), .val (.int p1), .unset, .unset, .unset, .unset] [(.ref b84), (.ref b84)])) (fun t k => XS.dup X117.here hx rfl (hb hby at_211) rfl rfl k) ?_
  refine own_st (fr' := (mkF m 214 #[.val (.int p0), .val (.int p1), .unset, .unset, .unset, .unset] [(.int (33 : Int32)), (.ref b84), (.ref b84)])) (fun t k => XS.bipush X117.here hx rfl (hb hby at_212) k) ?_
  refine own_st (fr' := (mkF m 217 #[.val (.int p0), .val (.int p1), .unset, .unset, .unset, .unset] [(.int (8192 : Int32)), (.int (33 : Int32)), (.ref b84), (.ref b84)])) (fun t k => XS.sipush X117.here hx rfl (hb hby at_214) k) ?_
  refine own_iastore X117 hx hZ e117 V117 (by decide) (by decide) (hb hby at_217) ?_
  intro T118 h118 X118 e118 W118 V118
  have N118 := Fr.snoc X118 N117 ge_b84
  refine own_st (fr' := (mkF m 219 #[.val (.int p0), .val (.int p1), .unset, .unset, .unset, .unset] [(.ref b84), (.ref b84)])) (fun t k => XS.dup X118.here hx rfl (hb hby at_218) rfl rfl k) ?_
  refine own_st (fr' := (mkF m 221 #[.val (.int p0), .val (.int p1), .unset, .unset, .unset, .unset] [(.int (34 : Int32)), (.ref b84), (.ref b84)])) (fun t k => XS.bipush X118.here hx rfl (hb hby at_219) k) ?_
  refine own_st (fr' := (mkF m 224 #[.val (.int p0), .val (.int p1), .unset, .unset, .unset, .unset] [(.int (8203 : Int32)), (.int (34 : Int32)), (.ref b84), (.ref b84)])) (fun t k => XS.sipush X118.here hx rfl (hb hby at_221) k) ?_
  refine own_iastore X118 hx hZ e118 V118 (by decide) (by decide) (hb hby at_224) ?_
  intro T119 h119 X119 e119 W119 V119
  have N119 := Fr.snoc X119 N118 ge_b84
  refine own_st (fr' := (mkF m 226 #[.val (.int p0), .val (.int p1), .unset, .unset, .unset, .unset] [(.ref b84), (.ref b84)])) (fun t k => XS.dup X119.here hx rfl (hb hby at_225) rfl rfl k) ?_
  refine own_st (fr' := (mkF m 228 #[.val (.int p0), .val (.int p1), .unset, .unset, .unset, .unset] [(.int (35 : Int32)), (.ref b84), (.ref b84)])) (fun t k => XS.bipush X119.here hx rfl (hb hby at_226) k) ?_
  refine own_st (fr' := (mkF m 231 #[.val (.int p0), .val (.int p1), .unset, .unset, .unset, .unset] [(.int (8204 : Int32)), (.int (35 : Int32)), (.ref b84), (.ref b84)])) (fun t k => XS.sipush X119.here hx rfl (hb hby at_228) k) ?_
  refine own_iastore X119 hx hZ e119 V119 (by decide) (by decide) (hb hby at_231) ?_
  intro T120 h120 X120 e120 W120 V120
  have N120 := Fr.snoc X120 N119 ge_b84
  refine own_st (fr' := (mkF m 233 #[.val (.int p0), .val (.int p1), .unset, .unset, .unset, .unset] [(.ref b84), (.ref b84)])) (fun t k => XS.dup X120.here hx rfl (hb hby at_232) rfl rfl k) ?_
  refine own_st (fr' := (mkF m 235 #[.val (.int p0), .val (.int p1), .unset, .unset, .unset, .unset] [(.int (36 : Int32)), (.ref b84), (.ref b84)])) (fun t k => XS.bipush X120.here hx rfl (hb hby at_233) k) ?_
  refine own_st (fr' := (mkF m 238 #[.val (.int p0), .val (.int p1), .unset, .unset, .unset, .unset] [(.int (8205 : Int32)), (.int (36 : Int32)), (.ref b84), (.ref b84)])) (fun t k => XS.sipush X120.here hx rfl (hb hby at_235) k) ?_
  refine own_iastore X120 hx hZ e120 V120 (by decide) (by decide) (hb hby at_238) ?_
  intro T121 h121 X121 e121 W121 V121
  have N121 := Fr.snoc X121 N120 ge_b84
  refine own_st (fr' := (mkF m 240 #[.val (.int p0), .val (.int p1), .unset, .unset, .unset, .unset] [(.ref b84), (.ref b84)])) (fun t k => XS.dup X121.here hx rfl (hb hby at_239) rfl rfl k) ?_
  refine own_st (fr' := (mkF m 242 #[.val (.int p0), .val (.int p1), .unset, .unset, .unset, .unset] [(.int (37 : Int32)), (.ref b84), (.ref b84)])) (fun t k => XS.bipush X121.here hx rfl (hb hby at_240) k) ?_
  refine own_st (fr' := (mkF m 245 #[.val (.int p0), .val (.int p1), .unset, .unset, .unset, .unset] [(.int (8206 : Int32)), (.int (37 : Int32)), (.ref b84), (.ref b84)])) (fun t k => XS.sipush X121.here hx rfl (hb hby at_242) k) ?_
  refine own_iastore X121 hx hZ e121 V121 (by decide) (by decide) (hb hby at_245) ?_
  intro T122 h122 X122 e122 W122 V122
  have N122 := Fr.snoc X122 N121 ge_b84
  refine own_st (fr' := (mkF m 247 #[.val (.int p0), .val (.int p1), .unset, .unset, .unset, .unset] [(.ref b84), (.ref b84)])) (fun t k => XS.dup X122.here hx rfl (hb hby at_246) rfl rfl k) ?_
  refine own_st (fr' := (mkF m 249 #[.val (.int p0), .val (.int p1), .unset, .unset, .unset, .unset] [(.int (38 : Int32)), (.ref b84), (.ref b84)])) (fun t k => XS.bipush X122.here hx rfl (hb hby at_247) k) ?_
  refine own_st (fr' := (mkF m 252 #[.val (.int p0), .val (.int p1), .unset, .unset, .unset, .unset] [(.int (8255 : Int32)), (.int (38 : Int32)), (.ref b84), (.ref b84)])) (fun t k => XS.sipush X122.here hx rfl (hb hby at_249) k) ?_
  refine own_iastore X122 hx hZ e122 V122 (by decide) (by decide) (hb hby at_252) ?_
  intro T123 h123 X123 e123 W123 V123
  have N123 := Fr.snoc X123 N122 ge_b84
  refine own_st (fr' := (mkF m 254 #[.val (.int p0), .val (.int p1), .unset, .unset, .unset, .unset] [(.ref b84), (.ref b84)])) (fun t k => XS.dup X123.here hx rfl (hb hby at_253) rfl rfl k) ?_
  refine own_st (fr' := (mkF m 256 #[.val (.int p0), .val (.int p1), .unset, .unset, .unset, .unset] [(.int (39 : Int32)), (.ref b84), (.ref b84)])) (fun t k => XS.bipush X123.here hx rfl (hb hby at_254) k) ?_
  refine own_st (fr' := (mkF m 259 #[.val (.int p0), .val (.int p1), .unset, .unset, .unset, .unset] [(.int (8303 : Int32)), (.int (39 : Int32)), (.ref b84), (.ref b84)])) (fun t k => XS.sipush X123.here hx rfl (hb hby at_256) k) ?_
  refine own_iastore X123 hx hZ e123 V123 (by decide) (by decide) (hb hby at_259) ?_
  intro T124 h124 X124 e124 W124 V124
  have N124 := Fr.snoc X124 N123 ge_b84
  refine own_st (fr' := (mkF m 261 #[.val (.int p0), .val (.int p1), .unset, .unset, .unset, .unset] [(.ref b84), (.ref b84)])) (fun t k => XS.dup X124.here hx rfl (hb hby at_260) rfl rfl k) ?_
  refine own_st (fr' := (mkF m 263 #[.val (.int p0), .val (.int p1), .unset, .unset, .unset, .unset] [(.int (40 : Int32)), (.ref b84), (.ref b84)])) (fun t k => XS.bipush X124.here hx rfl (hb hby at_261) k) ?_
  refine own_st (fr' := (mkF m 266 #[.val (.int p0), .val (.int p1), .unset, .unset, .unset, .unset] [(.int (8304 : Int32)), (.int (40 : Int32)), (.ref b84), (.ref b84)])) (fun t k => XS.sipush X124.here hx rfl (hb hby at_263) k) ?_
  refine own_iastore X124 hx hZ e124 V124 (by decide) (by decide) (hb hby at_266) ?_
  intro T125 h125 X125 e125 W125 V125
  have N125 := Fr.snoc X125 N124 ge_b84
  refine own_st (fr' := (mkF m 268 #[.val (.int p0), .val (.int p1), .unset, .unset, .unset, .unset] [(.ref b84), (.ref b84)])) (fun t k => XS.dup X125.here hx rfl (hb hby at_267) rfl rfl k) ?_
  refine own_st (fr' := (mkF m 270 #[.val (.int p0), .val (.int p1), .unset, .unset, .unset, .unset] [(.int (41 : Int32)), (.ref b84), (.ref b84)])) (fun t k => XS.bipush X125.here hx rfl (hb hby at_268) k) ?_
  refine own_st (fr' := (mkF m 273 #[.val (.int p0), .val (.int p1), .unset, .unset, .unset, .unset] [(.int (8591 : Int32)), (.int (41 : Int32)), (.ref b84), (.ref b84)])) (fun t k => XS.sipush X125.here hx rfl (hb hby at_270) k) ?_
  refine own_iastore X125 hx hZ e125 V125 (by decide) (by decide) (hb hby at_273) ?_
  intro T126 h126 X126 e126 W126 V126
  have N126 := Fr.snoc X126 N125 ge_b84
  refine own_st (fr' := (mkF m 275 #[.val (.int p0), .val (.int p1), .unset, .unset, .unset, .unset] [(.ref b84), (.ref b84)])) (fun t k => XS.dup X126.here hx rfl (hb hby at_274) rfl rfl k) ?_
  refine own_st (fr' := (mkF m 277 #[.val (.int p0), .val (.int p1), .unset, .unset, .unset, .unset] [(.int (42 : Int32)), (.ref b84), (.ref b84)])) (fun t k => XS.bipush X126.here hx rfl (hb hby at_275) k) ?_
  refine own_st (fr' := (mkF m 280 #[.val (.int p0), .val (.int p1), .unset, .unset, .unset, .unset] [(.int (8592 : Int32)), (.int (42 : Int32)), (.ref b84), (.ref b84)])) (fun t k => XS.sipush X126.here hx rfl (hb hby at_277) k) ?_
  refine own_iastore X126 hx hZ e126 V126 (by decide) (by decide) (hb hby at_280) ?_
  intro T127 h127 X127 e127 W127 V127
  have N127 := Fr.snoc X127 N126 ge_b84
  refine own_st (fr' := (mkF m 282 #[.val (.int p0), .val (.int p1), .unset, .unset, .unset, .unset] [(.ref b84), (.ref b84)])) (fun t k => XS.dup X127.here hx rfl (hb hby at_281) rfl rfl k) ?_
  refine own_st (fr' := (mkF m 284 #[.val (.int p0), .val (.int p1), .unset, .unset, .unset, .unset] [(.int (43 : Int32)), (.ref b84), (.ref b84)])) (fun t k => XS.bipush X127.here hx rfl (hb hby at_282) k) ?_
  refine own_st (fr' := (mkF m 287 #[.val (.int p0), .val (.int p1), .unset, .unset, .unset, .unset] [(.int (11263 : Int32)), (.int (43 : Int32)), (.ref b84), (.ref b84)])) (fun t k => XS.sipush X127.here hx rfl (hb hby at_284) k) ?_
  refine own_iastore X127 hx hZ e127 V127 (by decide) (by decide) (hb hby at_287) ?_
  intro T128 h128 X128 e128 W128 V128
  have N128 := Fr.snoc X128 N127 ge_b84
  refine own_st (fr' := (mkF m 289 #[.val (.int p0), .val (.int p1), .unset, .unset, .unset, .unset] [(.ref b84), (.ref b84)])) (fun t k => XS.dup X128.here hx rfl (hb hby at_288) rfl rfl k) ?_
  refine own_st (fr' := (mkF m 291 #[.val (.int p0), .val (.int p1), .unset, .unset, .unset, .unset] [(.int (44 : Int32)), (.ref b84), (.ref b84)])) (fun t k => XS.bipush X128.here hx rfl (hb hby at_289) k) ?_
  refine own_st (fr' := (mkF m 294 #[.val (.int p0), .val (.int p1), .unset, .unset, .unset, .unset] [(.int (11264 : Int32)), (.int (44 : Int32)), (.ref b84), (.ref b84)])) (fun t k => XS.sipush X128.here hx rfl (hb hby at_291) k) ?_
  refine own_iastore X128 hx hZ e128 V128 (by decide) (by decide) (hb hby at_294) ?_
  intro T129 h129 X129 e129 W129 V129
  have N129 := Fr.snoc X129 N128 ge_b84
  refine own_st (fr' := (mkF m 296 #[.val (.int p0), .val (.int p1), .unset, .unset, .unset, .unset] [(.ref b84), (.ref b84)])) (fun t k => XS.dup X129.here hx rfl (hb hby at_295) rfl rfl k) ?_
  refine own_st (fr' := (mkF m 298 #[.val (.int p0), .val (.int p1), .unset, .unset, .unset, .unset] [(.int (45 : Int32)), (.ref b84), (.ref b84)])) (fun t k => XS.bipush X129.here hx rfl (hb hby at_296) k) ?_
  refine own_st (fr' := (mkF m 301 #[.val (.int p0), .val (.int p1), .unset, .unset, .unset, .unset] [(.int (12271 : Int32)), (.int (45 : Int32)), (.ref b84), (.ref b84)])) (fun t k => XS.sipush X129.here hx rfl (hb hby at_298) k) ?_
  refine own_iastore X129 hx hZ e129 V129 (by decide) (by decide) (hb hby at_301) ?_
  intro T130 h130 X130 e130 W130 V130
  have N130 := Fr.snoc X130 N129 ge_b84
  refine own_st (fr' := (mkF m 303 #[.val (.int p0), .val (.int p1), .unset, .unset, .unset, .unset] [(.ref b84), (.ref b84)])) (fun t k => XS.dup X130.here hx rfl (hb hby at_302) rfl rfl k) ?_
  refine own_st (fr' := (mkF m 305 #[.val (.int p0), .val (.int p1), .unset, .unset, .unset, .unset] [(.int (46 : Int32)), (.ref b84), (.ref b84)])) (fun t k => XS.bipush X130.here hx rfl (hb hby at_303) k) ?_
  refine own_st (fr' := (mkF m 308 #[.val (.int p0), .val (.int p1), .unset, .unset, .unset, .unset] [(.int (12272 : Int32)), (.int (46 : Int32)), (.ref b84), (.ref b84)])) (fun t k => XS.sipush X130.here hx rfl (hb hby at_305) k) ?_
  refine own_iastore X130 hx hZ e130 V130 (by decide) (by decide) (hb hby at_308) ?_
  intro T131 h131 X131 e131 W131 V131
  have N131 := Fr.snoc X131 N130 ge_b84
  refine own_st (fr' := (mkF m 310 #[.val (.int p0), .val (.int p1), .unset, .unset, .unset, .unset] [(.ref b84), (.ref b84)])) (fun t k => XS.dup X131.here hx rfl (hb hby at_309) rfl rfl k) ?_
  refine own_st (fr' := (mkF m 312 #[.val (.int p0), .val (.int p1), .unset, .unset, .unset, .unset] [(.int (47 : Int32)), (.ref b84), (.ref b84)])) (fun t k => XS.bipush X131.here hx rfl (hb hby at_310) k) ?_
  refine own_st (fr' := (mkF m 315 #[.val (.int p0), .val (.int p1), .unset, .unset, .unset, .unset] [(.int (12288 : Int32)), (.int (47 : Int32)), (.ref b84), (.ref b84)])) (fun t k => XS.sipush X131.here hx rfl (hb hby at_312) k) ?_
  refine own_iastore X131 hx hZ e131 V131 (by decide) (by decide) (hb hby at_315) ?_
  intro T132 h132 X132 e132 W132 V132
  have N132 := Fr.snoc X132 N131 ge_b84
  refine own_st (fr' := (mkF m 317 #[.val (.int p0), .val (.int p1), .unset, .unset, .unset, .unset] [(.ref b84), (.ref b84)])) (fun t k => XS.dup X132.here hx rfl (hb hby at_316) rfl rfl k) ?_
  refine own_st (fr' := (mkF m 319 #[.val (.int p0), .val (.int p1), .unset, .unset, .unset, .unset] [(.int (48 : Int32)), (.ref b84), (.ref b84)])) (fun t k => XS.bipush X132.here hx rfl (hb hby at_317) k) ?_
  refine own_st (fr' := (mkF m 322 #[.val (.int p0), .val (.int p1), .unset, .unset, .unset, .unset] [(.int (12289 : Int32)), (.int (48 : Int32)), (.ref b84), (.ref b84)])) (fun t k => XS.sipush X132.here hx rfl (hb hby at_319) k) ?_
  refine own_iastore X132 hx hZ e132 V132 (by decide) (by decide) (hb hby at_322) ?_
  intro T133 h133 X133 e133 W133 V133
  have N133 := Fr.snoc X133 N132 ge_b84
  refine own_st (fr' := (mkF m 324 #[.val (.int p0), .val (.int p1), .unset, .unset, .unset, .unset] [(.ref b84), (.ref b84)])) (fun t k => XS.dup X133.here hx rfl (hb hby at_323) rfl rfl k) ?_
  refine own_st (fr' := (mkF m 326 #[.val (.int p0), .val (.int p1), .unset, .unset, .unset, .unset] [(.int (49 : Int32)), (.ref b84), (.ref b84)])) (fun t k => XS.bipush X133.here hx rfl (hb hby at_324) k) ?_
  refine own_st (fr' := (mkF m 328 #[.val (.int p0), .val (.int p1), .unset, .unset, .unset, .unset] [(.int (55295 : Int32)), (.int (49 : Int32)), (.ref b84), (.ref b84)])) (fun t k => X133.ldcInt hx hown (mvT hZ (hw _ (List.mem_of_getElem? (i := 2) rfl))) (g := (mkF m 326 #[.val (.int p0), .val (.int p1), .unset, .unset, .unset, .unset] [(.int (49 : Int32)), (.ref b84), (.ref b84)])) rfl (hb hby at_326) t k) ?_
  refine own_iastore X133 hx hZ e133 V133 (by decide) (by decide) (hb hby at_328) ?_
  intro T134 h134 X134 e134 W134 V134
  have N134 := Fr.snoc X134 N133 ge_b84
  refine own_st (fr' := (mkF m 330 #[.val (.int p0), .val (.int p1), .unset, .unset, .unset, .unset] [(.ref b84), (.ref b84)])) (fun t k => XS.dup X134.here hx rfl (hb hby at_329) rfl rfl k) ?_
  refine own_st (fr' := (mkF m 332 #[.val (.int p0), .val (.int p1), .unset, .unset, .unset, .unset] [(.int (50 : Int32)), (.ref b84), (.ref b84)])) (fun t k => XS.bipush X134.here hx rfl (hb hby at_330) k) ?_
  refine own_st (fr' := (mkF m 334 #[.val (.int p0), .val (.int p1), .unset, .unset, .unset, .unset] [(.int (55296 : Int32)), (.int (50 : Int32)), (.ref b84), (.ref b84)])) (fun t k => X134.ldcInt hx hown (mvT hZ (hw _ (List.mem_of_getElem? (i := 3) rfl))) (g := (mkF m 332 #[.val (.int p0), .val (.int p1), .unset, .unset, .unset, .unset] [(.int (50 : Int32)), (.ref b84), (.ref b84)])) rfl (hb hby at_332) t k) ?_
  refine own_iastore X134 hx hZ e134 V134 (by decide) (by decide) (hb hby at_334) ?_
  intro T135 h135 X135 e135 W135 V135
  have N135 := Fr.snoc X135 N134 ge_b84
  refine own_st (fr' := (mkF m 336 #[.val (.int p0), .val (.int p1), .unset, .unset, .unset, .unset] [(.ref b84), (.ref b84)])) (fun t k => XS.dup X135.here hx rfl (hb hby at_335) rfl rfl k) ?_
  refine own_st (fr' := (mkF m 338 #[.val (.int p0), .val (.int p1), .unset, .unset, .unset, .unset] [(.int (51 : Int32)), (.ref b84), (.ref b84)])) (fun t k => XS.bipush X135.here hx rfl (hb hby at_336) k) ?_
  refine own_st (fr' := (mkF m 340 #[.val (.int p0), .val (.int p1), .unset, .unset, .unset, .unset] [(.int (63743 : Int32)), (.int (51 : Int32)), (.ref b84), (.ref b84)])) (fun t k => X135.ldcInt hx hown (mvT hZ (hw _ (List.mem_of_getElem? (i := 4) rfl))) (g := (mkF m 338 #[.val (.int p0), .val (.int p1), .unset, .unset, .unset, .unset] [(.int (51 : Int32)), (.ref b84), (.ref b84)])) rfl (hb hby at_338) t k) ?_
  refine own_iastore X135 hx hZ e135 V135 (by decide) (by decide) (hb hby at_340) ?_
  intro T136 h136 X136 e136 W136 V136
  have N136 := Fr.snoc X136 N135 ge_b84
  refine own_st (fr' := (mkF m 342 #[.val (.int p0), .val (.int p1), .unset, .unset, .unset, .unset] [(.ref b84), (.ref b84)])) (fun t k => XS.dup X136.here hx rfl (hb hby at_341) rfl rfl k) ?_
  refine own_st (fr' := (mkF m 344 #[.val (.int p0), .val (.int p1), .unset, .unset, .unset, .unset] [(.int (52 : Int32)), (.ref b84), (.ref b84)])) (fun t k => XS.bipush X136.here hx rfl (hb hby at_342) k) ?_
  refine own_st (fr' := (mkF m 346 #[.val (.int p0), .val (.int p1), .unset, .unset, .unset, .unset] [(.int (63744 : Int32)), (.int (52 : Int32)), (.ref b84), (.ref b84)])) (fun t k => X136.ldcInt hx hown (mvT hZ (hw _ (List.mem_of_getElem? (i := 5) rfl))) (g := (mkF m 344 #[.val (.int p0), .val (.int p1), .unset, .unset, .unset, .unset] [(.int (52 : Int32)), (.ref b84), (.ref b84)])) rfl (hb hby at_344) t k) ?_
  refine own_iastore X136 hx hZ e136 V136 (by decide) (by decide) (hb hby at_346) ?_
  intro T137 h137 X137 e137 W137 V137
  have N137 := Fr.snoc X137 N136 ge_b84
  refine own_st (fr' := (mkF m 348 #[.val (.int p0), .val (.int p1), .unset, .unset, .unset, .unset] [(.ref b84), (.ref b84)])) (fun t k => XS.dup X137.here hx rfl (hb hby at_347) rfl rfl k) ?_
  refine own_st (fr' := (mkF m 350 #[.val (.int p0), .val (.int p1), .unset, .unset, .unset, .unset] [(.int (53 : Int32)), (.ref b84), (.ref b84)])) (fun t k => XS.bipush X137.here hx rfl (hb hby at_348) k) ?_
  refine own_st (fr' := (mkF m 352 #[.val (.int p0), .val (.int p1), .unset, .unset, .unset, .unset] [(.int (64975 : Int32)), (.int (53 : Int32)), (.ref b84), (.ref b84)])) (fun t k => X137.ldcInt hx hown (mvT hZ (hw _ (List.mem_of_getElem? (i := 6) rfl))) (g := (mkF m 350 #[.val (.int p0), .val (.int p1), .unset, .unset, .unset, .unset] [(.int (53 : Int32)), (.ref b84), (.ref b84)])) rfl (hb hby at_350) t k) ?_
  refine own_iastore X137 hx hZ e137 V137 (by decide) (by decide) (hb hby at_352) ?_
  intro T138 h138 X138 e138 W138 V138
  have N138 := Fr.snoc X138 N137 ge_b84
  refine own_st (fr' := (mkF m 354 #[.val (.int p0), .val (.int p1), .unset, .unset, .unset, .unset] [(.ref b84), (.ref b84)])) (fun t k => XS.dup X138.here hx rfl (hb hby at_353) rfl rfl k) ?_
  refine own_st (fr' := (mkF m 356 #[.val (.int p0), .val (.int p1), .unset, .unset, .unset, .unset] [(.int (54 : Int32)), (.ref b84), (.ref b84)])) (fun t k => XS.bipush X138.here hx rfl (hb hby at_354) k) ?_
  refine own_st (fr' := (mkF m 358 #[.val (.int p0), .val (.int p1), .unset, .unset, .unset, .unset] [(.int (64976 : Int32)), (.int (54 : Int32)), (.ref b84), (.ref b84)])) (fun t k => X138.ldcInt hx hown (mvT hZ (hw _ (List.mem_of_getElem? (i := 7) rfl))) (g := (mkF m 356 #[.val (.int p0), .val (.int p1), .unset, .unset, .unset, .unset] [(.int (54 : Int32)), (.ref b84), (.ref b84)])) rfl (hb hby at_356) t k) ?_
  refine own_iastore X138 hx hZ e138 V138 (by decide) (by decide) (hb hby at_358) ?_
  intro T139 h139 X139 e139 W139 V139
  have N139 := Fr.snoc X139 N138 ge_b84
  refine own_st (fr' := (mkF m 360 #[.val (.int p0), .val (.int p1), .unset, .unset, .unset, .unset] [(.ref b84), (.ref b84)])) (fun t k => XS.dup X139.here hx rfl (hb hby at_359) rfl rfl k) ?_
  refine own_st (fr' := (mkF m 362 #[.val (.int p0), .val (.int p1), .unset, .unset, .unset, .unset] [(.int (55 : Int32)), (.ref b84), (.ref b84)])) (fun t k => XS.bipush X139.here hx rfl (hb hby at_360) k) ?_
  refine own_st (fr' := (mkF m 364 #[.val (.int p0), .val (.int p1), .unset, .unset, .unset, .unset] [(.int (65007 : Int32)), (.int (55 : Int32)), (.ref b84), (.ref b84)])) (fun t k => X139.ldcInt hx hown (mvT hZ (hw _ (List.mem_of_getElem? (i := 8) rfl))) (g := (mkF m 362 #[.val (.int p0), .val (.int p1), .unset, .unset, .unset, .unset] [(.int (55 : Int32)), (.ref b84), (.ref b84)])) rfl (hb hby at_362) t k) ?_
  refine own_iastore X139 hx hZ e139 V139 (by decide) (by decide) (hb hby at_364) ?_
  intro T140 h140 X140 e140 W140 V140
  have N140 := Fr.snoc X140 N139 ge_b84
  refine own_st (fr' := (mkF m 366 #[.val (.int p0), .val (.int p1), .unset, .unset, .unset, .unset] [(.ref b84), (.ref b84)])) (fun t k => XS.dup X140.here hx rfl (hb hby at_365) rfl rfl k) ?_
  refine own_st (fr' := (mkF m 368 #[.val (.int p0), .val (.int p1), .unset, .unset, .unset, .unset] [(.int (56 : Int32)), (.ref b84), (.ref b84)])) (fun t k => XS.bipush X140.here hx rfl (hb hby at_366) k) ?_
  refine own_st (fr' := (mkF m 370 #[.val (.int p0), .val (.int p1), .unset, .unset, .unset, .unset] [(.int (65008 : Int32)), (.int (56 : Int32)), (.ref b84), (.ref b84)])) (fun t k => X140.ldcInt hx hown (mvT hZ (hw _ (List.mem_of_getElem? (i := 9) rfl))) (g := (mkF m 368 #[.val (.int p0), .val (.int p1), .unset, .unset, .unset, .unset] [(.int (56 : Int32)), (.ref b84), (.ref b84)])) rfl (hb hby at_368) t k) ?_
  refine own_iastore X140 hx hZ e140 V140 (by decide) (by decide) (hb hby at_370) ?_
  intro T141 h141 X141 e141 W141 V141
  have N141 := Fr.snoc X141 N140 ge_b84
  refine own_st (fr' := (mkF m 372 #[.val (.int p0), .val (.int p1), .unset, .unset, .unset, .unset] [(.ref b84), (.ref b84)])) (fun t k => XS.dup X141.here hx rfl (hb hby at_371) rfl rfl k) ?_
  refine own_st (fr' := (mkF m 374 #[.val (.int p0), .val (.int p1), .unset, .unset, .unset, .unset] [(.int (57 : Int32)), (.ref b84), (.ref b84)])) (fun t k => XS.bipush X141.here hx rfl (hb hby at_372) k) ?_
  refine own_st (fr' := (mkF m 376 #[.val (.int p0), .val (.int p1), .unset, .unset, .unset, .unset] [(.int (65533 : Int32)), (.int (57 : Int32)), (.ref b84), (.ref b84)])) (fun t k => X141.ldcInt hx hown (mvT hZ (hw _ (List.mem_of_getElem? (i := 10) rfl))) (g := (mkF m 374 #[.val (.int p0), .val (.int p1), .unset, .unset, .unset, .unset] [(.int (57 : Int32)), (.ref b84), (.ref b84)])) rfl (hb hby at_374) t k) ?_
  refine own_iastore X141 hx hZ e141 V141 (by decide) (by decide) (hb hby at_376) ?_
  intro T142 h142 X142 e142 W142 V142
  have N142 := Fr.snoc X142 N141 ge_b84
  refine own_st (fr' := (mkF m 378 #[.val (.int p0), .val (.int p1), .unset, .unset, .unset, .unset] [(.ref b84), (.ref b84)])) (fun t k => XS.dup X142.here hx rfl (hb hby at_377) rfl rfl k) ?_
  refine own_st (fr' := (mkF m 380 #[.val (.int p0), .val (.int p1), .unset, .unset, .unset, .unset] [(.int (58 : Int32)), (.ref b84), (.ref b84)])) (fun t k => XS.bipush X142.here hx rfl (hb hby at_378) k) ?_
  refine own_st (fr' := (mkF m 382 #[.val (.int p0), .val (.int p1), .unset, .unset, .unset, .unset] [(.int (65534 : Int32)), (.int (58 : Int32)), (.ref b84), (.ref b84)])) (fun t k => X142.ldcInt hx hown (mvT hZ (hw _ (List.mem_of_getElem? (i := 11) rfl))) (g := (mkF m 380 #[.val (.int p0), .val (.int p1), .unset, .unset, .unset, .unset] [(.int (58 : Int32)), (.ref b84), (.ref b84)])) rfl (hb hby at_380) t k) ?_
  refine own_iastore X142 hx hZ e142 V142 (by decide) (by decide) (hb hby at_382) ?_
  intro T143 h143 X143 e143 W143 V143
  have N143 := Fr.snoc X143 N142 ge_b84
  refine own_st (fr' := (mkF m 384 #[.val (.int p0), .val (.int p1), .unset, .unset, .unset, .unset] [(.ref b84), (.ref b84)])) (fun t k => XS.dup X143.here hx rfl (hb hby at_383) rfl rfl k) ?_
  refine own_st (fr' := (mkF m 386 #[.val (.int p0), .val (.int p1), .unset, .unset, .unset, .unset] [(.int (59 : Int32)), (.ref b84), (.ref b84)])) (fun t k => XS.bipush X143.here hx rfl (hb hby at_384) k) ?_
  refine own_st (fr' := (mkF m 388 #[.val (.int p0), .val (.int p1), .unset, .unset, .unset, .unset] [(.int (65535 : Int32)), (.int (59 : Int32)), (.ref b84), (.ref b84)])) (fun t k => X143.ldcInt hx hown (mvT hZ (hw _ (List.mem_of_getElem? (i := 12) rfl))) (g := (mkF m 386 #[.val (.int p0), .val (.int p1), .unset, .unset, .unset, .unset] [(.int (59 : Int32)), (.ref b84), (.ref b84)])) rfl (hb hby at_386) t k) ?_
  refine own_iastore X143 hx hZ e143 V143 (by decide) (by decide) (hb hby at_388) ?_
  intro T144 h144 X144 e144 W144 V144
  have N144 := Fr.snoc X144 N143 ge_b84
  refine own_st (fr' := (mkF m 390 #[.val (.int p0), .val (.int p1), .unset, .unset, .unset, .unset] [(.ref b84), (.ref b84)])) (fun t k => XS.dup X144.here hx rfl (hb hby at_389) rfl rfl k) ?_
  refine own_st (fr' := (mkF m 392 #[.val (.int p0), .val (.int p1), .unset, .unset, .unset, .unset] [(.int (60 : Int32)), (.ref b84), (.ref b84)])) (fun t k => XS.bipush X144.here hx rfl (hb hby at_390) k) ?_
  refine own_st (fr' := (mkF m 394 #[.val (.int p0), .val (.int p1), .unset, .unset, .unset, .unset] [(.int (65536 : Int32)), (.int (60 : Int32)), (.ref b84), (.ref b84)])) (fun t k => X144.ldcInt hx hown (mvT hZ (hw _ (List.mem_of_getElem? (i := 13) rfl))) (g := (mkF m 392 #[.val (.int p0), .val (.int p1), .unset, .unset, .unset, .unset] [(.int (60 : Int32)), (.ref b84), (.ref b84)])) rfl (hb hby at_392) t k) ?_
  refine own_iastore X144 hx hZ e144 V144 (by decide) (by decide) (hb hby at_394) ?_
  intro T145 h145 X145 e145 W145 V145
  have N145 := Fr.snoc X145 N144 ge_b84
  refine own_st (fr' := (mkF m 396 #[.val (.int p0), .val (.int p1), .unset, .unset, .unset, .unset] [(.ref b84), (.ref b84)])) (fun t k => XS.dup X145.here hx rfl (hb hby at_395) rfl rfl k) ?_
  refine own_st (fr' := (mkF m 398 #[.val (.int p0), .val (.int p1), .unset, .unset, .unset, .unset] [(.int (61 : Int32)), (.ref b84), (.ref b84)])) (fun t k => XS.bipush X145.here hx rfl (hb hby at_396) k) ?_
  refine own_st (fr' := (mkF m 400 #[.val (.int p0), .val (.int p1), .unset, .unset, .unset, .unset] [(.int (983039 : Int32)), (.int (61 : Int32)), (.ref b84), (.ref b84)])) (fun t k => X145.ldcInt hx hown (mvT hZ (hw _ (List.mem_of_getElem? (i := 14) rfl))) (g := (mkF m 398 #[.val (.int p0), .val (.int p1), .unset, .unset, .unset, .unset] [(.int (61 : Int32)), (.ref b84), (.ref b84)])) rfl (hb hby at_398) t k) ?_
  refine own_iastore X145 hx hZ e145 V145 (by decide) (by decide) (hb hby at_400) ?_
  intro T146 h146 X146 e146 W146 V146
  have N146 := Fr.snoc X146 N145 ge_b84
  refine own_st (fr' := (mkF m 402 #[.val (.int p0), .val (.int p1), .unset, .unset, .unset, .unset] [(.ref b84), (.ref b84)])) (fun t k => XS.dup X146.here hx rfl (hb hby at_401) rfl rfl k) ?_
  refine own_st (fr' := (mkF m 404 #[.val (.int p0), .val (.int p1), .unset, .unset, .unset, .unset] [(.int (62 : Int32)), (.ref b84), (.ref b84)])) (fun t k => XS.bipush X146.here hx rfl (hb hby at_402) k) ?_
  refine own_st (fr' := (mkF m 406 #[.val (.int p0), .val (.int p1), .unset, .unset, .unset, .unset] [(.int (983040 : Int32)), (.int (62 : Int32)), (.ref b84), (.ref b84)])) (fun t k => X146.ldcInt hx hown (mvT hZ (hw _ (List.mem_of_getElem? (i := 15) rfl))) (g := (mkF m 404 #[.val (.int p0), .val (.int p1), .unset, .unset, .unset, .unset] [(.int (62 : Int32)), (.ref b84), (.ref b84)])) rfl (hb hby at_404) t k) ?_
  refine own_iastore X146 hx hZ e146 V146 (by decide) (by decide) (hb hby at_406) ?_
  intro T147 h147 X147 e147 W147 V147
  have N147 := Fr.snoc X147 N146 ge_b84
  refine own_st (fr' := (mkF m 408 #[.val (.int p0), .val (.int p1), .unset, .unset, .unset, .unset] [(.ref b84), (.ref b84)])) (fun t k => XS.dup X147.here hx rfl (hb hby at_407) rfl rfl k) ?_
  refine own_st (fr' := (mkF m 410 #[.val (.int p0), .val (.int p1), .unset, .unset, .unset, .unset] [(.int (63 : Int32)), (.ref b84), (.ref b84)])) (fun t k => XS.bipush X147.here hx rfl (hb hby at_408) k) ?_
  refine own_st (fr' := (mkF m 412 #[.val (.int p0), .val (.int p1), .unset, .unset, .unset, .unset] [(.int (2147483647 : Int32)), (.int (63 : Int32)), (.ref b84), (.ref b84)])) (fun t k => X147.ldcInt hx hown (mvT hZ (hw _ (List.mem_of_getElem? (i := 16) rfl))) (g := (mkF m 410 #[.val (.int p0), .val (.int p1), .unset, .unset, .unset, .unset] [(.int (63 : Int32)), (.ref b84), (.ref b84)])) rfl (hb hby at_410) t k) ?_
  refine own_iastore X147 hx hZ e147 V147 (by decide) (by decide) (hb hby at_412) ?_
  intro T148 h148 X148 e148 W148 V148
  have N148 := Fr.snoc X148 N147 ge_b84
  refine own_st (fr' := (mkF m 414 #[.val (.int p0), .val (.int p1), .val (.ref b84), .unset, .unset, .unset] [])) (fun t k => XS.astoreN X148.here hx rfl (hb hby at_413) rfl rfl (l' := #[.val (.int p0), .val (.int p1), .val (.ref b84), .unset, .unset, .unset]) rfl k) ?_
  refine own_st (fr' := (mkF m 415 #[.val (.int p0), .val (.int p1), .val (.ref b84), .unset, .unset, .unset] [(.ref b84)])) (fun t k => XS.aloadN X148.here hx rfl (hb hby at_414) rfl rfl k) ?_
  refine own_st (fr' := (mkF m 416 #[.val (.int p0), .val (.int p1), .val (.ref b84), .unset, .unset, .unset] [(.int p1), (.ref b84)])) (fun t k => XS.iloadN X148.here hx rfl (hb hby at_415) rfl  k) ?_
  refine own_st (fr' := (mkF m 418 #[.val (.int p0), .val (.int p1), .val (.ref b84), .unset, .unset, .unset] [(.int (2147483647 : Int32)), (.int p1), (.ref b84)])) (fun t k => X148.ldcInt hx hown (mvT hZ (hw _ (List.mem_of_getElem? (i := 16) rfl))) (g := (mkF m 416 #[.val (.int p0), .val (.int p1), .val (.ref b84), .unset, .unset, .unset] [(.int p1), (.ref b84)])) rfl (hb hby at_416) t k) ?_
  refine own_st (fr' := (mkF m 419 #[.val (.int p0), .val (.int p1), .val (.ref b84), .unset, .unset, .unset] [(.int (p1 &&& (2147483647 : Int32))), (.ref b84)])) (fun t k => XS.iand X148.here hx rfl (hb hby at_418) rfl k) ?_
  refine own_st (fr' := (mkF m 420 #[.val (.int p0), .val (.int p1), .val (.ref b84), .unset, .unset, .unset] [(.ref b84), (.int (p1 &&& (2147483647 : Int32))), (.ref b84)])) (fun t k => XS.aloadN X148.here hx rfl (hb hby at_419) rfl rfl k) ?_
  refine own_alen X148 hx hZ e148 V148 (hb hby at_420) ?_
  refine own_st (fr' := (mkF m 422 #[.val (.int p0), .val (.int p1), .val (.ref b84), .unset, .unset, .unset] [(.int ((p1 &&& (2147483647 : Int32)) % (64 : Int32))), (.ref b84)])) (fun t k => iremM X148 hx rfl (hb hby at_421) rfl (by decide) k) ?_
  have q1 := c_mask p1 2147483647 31 (by decide) (by decide)
  have q2 := c_irem (p1 &&& 2147483647) 64 64 rfl
  generalize (p1 &&& (2147483647 : Int32)) % (64 : Int32) = ix at q2 ⊢
  have i0 : 0 ≤ ix.toInt := by omega
  have i1 : ix.toInt < (64 : Int32).toInt := by have e64 : (64 : Int32).toInt = 64 := rfl; omega
  obtain ⟨y0, hy0⟩ := own_A.int V148 i0 i1
  refine own_iaload X148 hx hZ e148 V148 (i0) (i1) (v := (.int y0)) (hy0) (hb hby at_422) ?_
  refine own_st (fr' := (mkF m 424 #[.val (.int p0), .val (.int p1), .val (.ref b84), .unset, .unset, .unset] [(.int p1), (.int y0)])) (fun t k => XS.iloadN X148.here hx rfl (hb hby at_423) rfl  k) ?_
  refine own_st (fr' := (mkF m 426 #[.val (.int p0), .val (.int p1), .val (.ref b84), .unset, .unset, .unset] [(.int (16 : Int32)), (.int p1), (.int y0)])) (fun t k => XS.bipush X148.here hx rfl (hb hby at_424) k) ?_
  refine own_st (fr' := (mkF m 427 #[.val (.int p0), .val (.int p1), .val (.ref b84), .unset, .unset, .unset] [(.int ((p1.toUInt32 >>> ((16 : Int32) &&& 31).toUInt32).toInt32)), (.int y0)])) (fun t k => XS.iushr X148.here hx rfl (hb hby at_426) rfl k) ?_
  refine own_st (fr' := (mkF m 428 #[.val (.int p0), .val (.int p1), .val (.ref b84), .unset, .unset, .unset] [(.int (3 : Int32)), (.int ((p1.toUInt32 >>> ((16 : Int32) &&& 31).toUInt32).toInt32)), (.int y0)])) (fun t k => XS.iconst X148.here hx rfl (hb hby at_427) k) ?_
  refine own_st (fr' := (mkF m 429 #[.val (.int p0), .val (.int p1), .val (.ref b84), .unset, .unset, .unset] [(.int (((p1.toUInt32 >>> ((16 : Int32) &&& 31).toUInt32).toInt32) % (3 : Int32))), (.int y0)])) (fun t k => iremM X148 hx rfl (hb hby at_428) rfl (by decide) k) ?_
  refine own_st (fr' := (mkF m 430 #[.val (.int p0), .val (.int p1), .val (.ref b84), .unset, .unset, .unset] [(.int (y0 + (((p1.toUInt32 >>> ((16 : Int32) &&& 31).toUInt32).toInt32) % (3 : Int32))))])) (fun t k => XS.iadd X148.here hx rfl (hb hby at_429) rfl k) ?_
  refine own_st (fr' := (mkF m 431 #[.val (.int p0), .val (.int p1), .val (.ref b84), .unset, .unset, .unset] [(.int (1 : Int32)), (.int (y0 + (((p1.toUInt32 >>> ((16 : Int32) &&& 31).toUInt32).toInt32) % (3 : Int32))))])) (fun t k => XS.iconst X148.here hx rfl (hb hby at_430) k) ?_
  refine own_st (fr' := (mkF m 432 #[.val (.int p0), .val (.int p1), .val (.ref b84), .unset, .unset, .unset] [(.int ((y0 + (((p1.toUInt32 >>> ((16 : Int32) &&& 31).toUInt32).toInt32) % (3 : Int32))) - (1 : Int32)))])) (fun t k => XS.isub X148.here hx rfl (hb hby at_431) rfl k) ?_
  generalize ((y0 + (((p1.toUInt32 >>> ((16 : Int32) &&& 31).toUInt32).toInt32) % (3 : Int32))) - (1 : Int32)) = bb at ⊢
  refine own_st (fr' := (mkF m 433 #[.val (.int p0), .val (.int p1), .val (.ref b84), .val (.int bb), .unset, .unset] [])) (fun t k => XS.istoreN X148.here hx rfl (hb hby at_432) rfl  (l' := #[.val (.int p0), .val (.int p1), .val (.ref b84), .val (.int bb), .unset, .unset]) rfl k) ?_
  refine own_st (fr' := (mkF m 434 #[.val (.int p0), .val (.int p1), .val (.ref b84), .val (.int bb), .unset, .unset] [(.int p0)])) (fun t k => XS.iloadN X148.here hx rfl (hb hby at_433) rfl  k) ?_
  refine own_callS X148 hx hZ (y := (⟨"com/example/precedence/precedence/tree/Xml", "isNameStartChar", "(I)Z"⟩ : MethodName)) hown (hw _ (List.mem_of_getElem? (i := 17) rfl)) (hw _ (List.mem_of_getElem? (i := 18) rfl)) (hw _ (List.mem_of_getElem? (i := 19) rfl)) (hw _ (List.mem_of_getElem? (i := 20) rfl)) (by decide) (argsL := [(.int p0)]) (rest := []) (W := 0) (rm_isn l Z a0 hw [] p0 h148 n0 (Nat.le_trans (Nat.le_trans (Nat.le_trans (Nat.le_trans (Nat.le_trans (Nat.le_trans (Nat.le_trans (Nat.le_trans (Nat.le_trans (Nat.le_trans (Nat.le_trans (Nat.le_trans (Nat.le_trans (Nat.le_trans (Nat.le_trans (Nat.le_trans (Nat.le_trans (Nat.le_trans (Nat.le_trans (Nat.le_trans (Nat.le_trans (Nat.le_trans (Nat.le_trans (Nat.le_trans (Nat.le_trans (Nat.le_trans (Nat.le_trans (Nat.le_trans (Nat.le_trans (Nat.le_trans (Nat.le_trans (Nat.le_trans (Nat.le_trans (Nat.le_trans (Nat.le_trans (Nat.le_trans (Nat.le_trans (Nat.le_trans (Nat.le_trans (Nat.le_trans (Nat.le_trans (Nat.le_trans (Nat.le_trans (Nat.le_trans (Nat.le_trans (Nat.le_trans (Nat.le_trans (Nat.le_trans (Nat.le_trans (Nat.le_trans (Nat.le_trans (Nat.le_trans (Nat.le_trans (Nat.le_trans (Nat.le_trans (Nat.le_trans (Nat.le_trans (Nat.le_trans (Nat.le_trans (Nat.le_trans (Nat.le_trans (Nat.le_trans (Nat.le_trans (Nat.le_trans (Nat.le_trans Z0 E84.1) (Nat.le_of_eq (Wr.size W85).symm)) (Nat.le_of_eq (Wr.size W86).symm)) (Nat.le_of_eq (Wr.size W87).symm)) (Nat.le_of_eq (Wr.size W88).symm)) (Nat.le_of_eq (Wr.size W89).symm)) (Nat.le_of_eq (Wr.size W90).symm)) (Nat.le_of_eq (Wr.size W91).symm)) (Nat.le_of_eq (Wr.size W92).symm)) (Nat.le_of_eq (Wr.size W93).symm)) (Nat.le_of_eq (Wr.size W94).symm)) (Nat.le_of_eq (Wr.size W95).symm)) (Nat.le_of_eq (Wr.size W96).symm)) (Nat.le_of_eq (Wr.size W97).symm)) (Nat.le_of_eq (Wr.size W98).symm)) (Nat.le_of_eq (Wr.size W99).symm)) (Nat.le_of_eq (Wr.size W100).symm)) (Nat.le_of_eq (Wr.size W101).symm)) (Nat.le_of_eq (Wr.size W102).symm)) (Nat.le_of_eq (Wr.size W103).symm)) (Nat.le_of_eq (Wr.size W104).symm)) (Nat.le_of_eq (Wr.size W105).symm)) (Nat.le_of_eq (Wr.size W106).symm)) (Nat.le_of_eq (Wr.size W107).symm)) (Nat.le_of_eq (Wr.size W108).symm)) (Nat.le_of_eq (Wr.size W109).symm)) (Nat.le_of_eq (Wr.size W110).symm)) (Nat.le_of_eq (Wr.size W111).symm)) (Nat.le_of_eq (Wr.size W112).symm)) (Nat.le_of_eq (Wr.size W113).symm)) (Nat.le_of_eq (Wr.size W114).symm)) (Nat.le_of_eq (Wr.size W115).symm)) (Nat.le_of_eq (Wr.size W116).symm)) (Nat.le_of_eq (Wr.size W117).symm)) (Nat.le_of_eq (Wr.size W118).symm)) (Nat.le_of_eq (Wr.size W119).symm)) (Nat.le_of_eq (Wr.size W120).symm)) (Nat.le_of_eq (Wr.size W121).symm)) (Nat.le_of_eq (Wr.size W122).symm)) (Nat.le_of_eq (Wr.size W123).symm)) (Nat.le_of_eq (Wr.size W124).symm)) (Nat.le_of_eq (Wr.size W125).symm)) (Nat.le_of_eq (Wr.size W126).symm)) (Nat.le_of_eq (Wr.size W127).symm)) (Nat.le_of_eq (Wr.size W128).symm)) (Nat.le_of_eq (Wr.size W129).symm)) (Nat.le_of_eq (Wr.size W130).symm)) (Nat.le_of_eq (Wr.size W131).symm)) (Nat.le_of_eq (Wr.size W132).symm)) (Nat.le_of_eq (Wr.size W133).symm)) (Nat.le_of_eq (Wr.size W134).symm)) (Nat.le_of_eq (Wr.size W135).symm)) (Nat.le_of_eq (Wr.size W136).symm)) (Nat.le_of_eq (Wr.size W137).symm)) (Nat.le_of_eq (Wr.size W138).symm)) (Nat.le_of_eq (Wr.size W139).symm)) (Nat.le_of_eq (Wr.size W140).symm)) (Nat.le_of_eq (Wr.size W141).symm)) (Nat.le_of_eq (Wr.size W142).symm)) (Nat.le_of_eq (Wr.size W143).symm)) (Nat.le_of_eq (Wr.size W144).symm)) (Nat.le_of_eq (Wr.size W145).symm)) (Nat.le_of_eq (Wr.size W146).symm)) (Nat.le_of_eq (Wr.size W147).symm)) (Nat.le_of_eq (Wr.size W148).symm)) ) e148 (by rw [hml]; rfl) (lenOf pd_0 rfl) rfl (Nat.le_of_eq rfl) (hb hby at_434) (by decide) (by decide) (by decide) (by decide) ?_
  intro v149 T149 L149 X149 hQ149
  obtain ⟨rfl, Nq149, eq149⟩ := hQ149
  have N149 := Fr.app N148 Nq149
  refine own_st (fr' := (mkF m 438 #[.val (.int p0), .val (.int p1), .val (.ref b84), .val (.int bb), .unset, .unset] [(.int p0), (.int (own_z_isn p0))])) (fun t k => XS.iloadN X149.here hx rfl (hb hby at_437) rfl  k) ?_
  refine own_callS X149 hx hZ (y := (⟨"com/example/precedence/precedence/tree/XmlIsNameStartCharPinLaw", "ref", "(I)Z"⟩ : MethodName)) hown (hw _ (List.mem_of_getElem? (i := 24) rfl)) (hw _ (List.mem_of_getElem? (i := 25) rfl)) (hw _ (List.mem_of_getElem? (i := 26) rfl)) (hw _ (List.mem_of_getElem? (i := 27) rfl)) (by decide) (argsL := [(.int p0)]) (rest := [(.int (own_z_isn p0))]) (W := 1) (rm_ref l Z a0 hw [] p0 h148 n0 (Nat.le_trans (Nat.le_trans (Nat.le_trans (Nat.le_trans (Nat.le_trans (Nat.le_trans (Nat.le_trans (Nat.le_trans (Nat.le_trans (Nat.le_trans (Nat.le_trans (Nat.le_trans (Nat.le_trans (Nat.le_trans (Nat.le_trans (Nat.le_trans (Nat.le_trans (Nat.le_trans (Nat.le_trans (Nat.le_trans (Nat.le_trans (Nat.le_trans (Nat.le_trans (Nat.le_trans (Nat.le_trans (Nat.le_trans (Nat.le_trans (Nat.le_trans (Nat.le_trans (Nat.le_trans (Nat.le_trans (Nat.le_trans (Nat.le_trans (Nat.le_trans (Nat.le_trans (Nat.le_trans (Nat.le_trans (Nat.le_trans (Nat.le_trans (Nat.le_trans (Nat.le_trans (Nat.le_trans (Nat.le_trans (Nat.le_trans (Nat.le_trans (Nat.le_trans (Nat.le_trans (Nat.le_trans (Nat.le_trans (Nat.le_trans (Nat.le_trans (Nat.le_trans (Nat.le_trans (Nat.le_trans (Nat.le_trans (Nat.le_trans (Nat.le_trans (Nat.le_trans (Nat.le_trans (Nat.le_trans (Nat.le_trans (Nat.le_trans (Nat.le_trans (Nat.le_trans (Nat.le_trans Z0 E84.1) (Nat.le_of_eq (Wr.size W85).symm)) (Nat.le_of_eq (Wr.size W86).symm)) (Nat.le_of_eq (Wr.size W87).symm)) (Nat.le_of_eq (Wr.size W88).symm)) (Nat.le_of_eq (Wr.size W89).symm)) (Nat.le_of_eq (Wr.size W90).symm)) (Nat.le_of_eq (Wr.size W91).symm)) (Nat.le_of_eq (Wr.size W92).symm)) (Nat.le_of_eq (Wr.size W93).symm)) (Nat.le_of_eq (Wr.size W94).symm)) (Nat.le_of_eq (Wr.size W95).symm)) (Nat.le_of_eq (Wr.size W96).symm)) (Nat.le_of_eq (Wr.size W97).symm)) (Nat.le_of_eq (Wr.size W98).symm)) (Nat.le_of_eq (Wr.size W99).symm)) (Nat.le_of_eq (Wr.size W100).symm)) (Nat.le_of_eq (Wr.size W101).symm)) (Nat.le_of_eq (Wr.size W102).symm)) (Nat.le_of_eq (Wr.size W103).symm)) (Nat.le_of_eq (Wr.size W104).symm)) (Nat.le_of_eq (Wr.size W105).symm)) (Nat.le_of_eq (Wr.size W106).symm)) (Nat.le_of_eq (Wr.size W107).symm)) (Nat.le_of_eq (Wr.size W108).symm)) (Nat.le_of_eq (Wr.size W109).symm)) (Nat.le_of_eq (Wr.size W110).symm)) (Nat.le_of_eq (Wr.size W111).symm)) (Nat.le_of_eq (Wr.size W112).symm)) (Nat.le_of_eq (Wr.size W113).symm)) (Nat.le_of_eq (Wr.size W114).symm)) (Nat.le_of_eq (Wr.size W115).symm)) (Nat.le_of_eq (Wr.size W116).symm)) (Nat.le_of_eq (Wr.size W117).symm)) (Nat.le_of_eq (Wr.size W118).symm)) (Nat.le_of_eq (Wr.size W119).symm)) (Nat.le_of_eq (Wr.size W120).symm)) (Nat.le_of_eq (Wr.size W121).symm)) (Nat.le_of_eq (Wr.size W122).symm)) (Nat.le_of_eq (Wr.size W123).symm)) (Nat.le_of_eq (Wr.size W124).symm)) (Nat.le_of_eq (Wr.size W125).symm)) (Nat.le_of_eq (Wr.size W126).symm)) (Nat.le_of_eq (Wr.size W127).symm)) (Nat.le_of_eq (Wr.size W128).symm)) (Nat.le_of_eq (Wr.size W129).symm)) (Nat.le_of_eq (Wr.size W130).symm)) (Nat.le_of_eq (Wr.size W131).symm)) (Nat.le_of_eq (Wr.size W132).symm)) (Nat.le_of_eq (Wr.size W133).symm)) (Nat.le_of_eq (Wr.size W134).symm)) (Nat.le_of_eq (Wr.size W135).symm)) (Nat.le_of_eq (Wr.size W136).symm)) (Nat.le_of_eq (Wr.size W137).symm)) (Nat.le_of_eq (Wr.size W138).symm)) (Nat.le_of_eq (Wr.size W139).symm)) (Nat.le_of_eq (Wr.size W140).symm)) (Nat.le_of_eq (Wr.size W141).symm)) (Nat.le_of_eq (Wr.size W142).symm)) (Nat.le_of_eq (Wr.size W143).symm)) (Nat.le_of_eq (Wr.size W144).symm)) (Nat.le_of_eq (Wr.size W145).symm)) (Nat.le_of_eq (Wr.size W146).symm)) (Nat.le_of_eq (Wr.size W147).symm)) (Nat.le_of_eq (Wr.size W148).symm)) ) eq149 (by rw [hml]; rfl) (lenOf pd_0 rfl) rfl (Nat.le_of_eq rfl) (hb hby at_438) (by decide) (by decide) (by decide) (by decide) ?_
  intro v150 T150 L150 X150 hQ150
  obtain ⟨rfl, Nq150, eq150⟩ := hQ150
  have N150 := Fr.app N149 Nq150
  refine own_st (fr' := (mkF m 444 #[.val (.int p0), .val (.int p1), .val (.ref b84), .val (.int bb), .unset, .unset] [])) (fun t k => XS.icmpNo X150.here hx rfl (hb hby at_441) rfl (own_teq (x := (own_z_isn p0)) (y := (own_z_isn p0)) (show (own_z_isn p0).toInt = (own_z_isn p0).toInt from rfl)).2 k) ?_
  refine own_st (fr' := (mkF m 445 #[.val (.int p0), .val (.int p1), .val (.ref b84), .val (.int bb), .unset, .unset] [(.int (1 : Int32))])) (fun t k => XS.iconst X150.here hx rfl (hb hby at_444) k) ?_
  refine own_st (fr' := (mkF m 449 #[.val (.int p0), .val (.int p1), .val (.ref b84), .val (.int bb), .unset, .unset] [(.int (1 : Int32))])) (fun t k => XS.goto X150.here hx rfl (pc0 := 445) (pc' := 449) rfl (hb hby at_445) (by decide) (by decide) k) ?_
  refine own_st (fr' := (mkF m 451 #[.val (.int p0), .val (.int p1), .val (.ref b84), .val (.int bb), .val (.int (1 : Int32)), .unset] [])) (fun t k => XS.istore X150.here hx rfl (hb hby at_449) rfl  (l' := #[.val (.int p0), .val (.int p1), .val (.ref b84), .val (.int bb), .val (.int (1 : Int32)), .unset]) rfl k) ?_
  refine own_st (fr' := (mkF m 452 #[.val (.int p0), .val (.int p1), .val (.ref b84), .val (.int bb), .val (.int (1 : Int32)), .unset] [(.int bb)])) (fun t k => XS.iloadN X150.here hx rfl (hb hby at_451) rfl  k) ?_
  refine own_callS X150 hx hZ (y := (⟨"com/example/precedence/precedence/tree/Xml", "isNameStartChar", "(I)Z"⟩ : MethodName)) hown (hw _ (List.mem_of_getElem? (i := 17) rfl)) (hw _ (List.mem_of_getElem? (i := 18) rfl)) (hw _ (List.mem_of_getElem? (i := 19) rfl)) (hw _ (List.mem_of_getElem? (i := 20) rfl)) (by decide) (argsL := [(.int bb)]) (rest := []) (W := 0) (rm_isn l Z a0 hw [] bb h148 n0 (Nat.le_trans (Nat.le_trans (Nat.le_trans (Nat.le_trans (Nat.le_trans (Nat.le_trans (Nat.le_trans (Nat.le_trans (Nat.le_trans (Nat.le_trans (Nat.le_trans (Nat.le_trans (Nat.le_trans (Nat.le_trans (Nat.le_trans (Nat.le_trans (Nat.le_trans (Nat.le_trans (Nat.le_trans (Nat.le_trans (Nat.le_trans (Nat.le_trans (Nat.le_trans (Nat.le_trans (Nat.le_trans (Nat.le_trans (Nat.le_trans (Nat.le_trans (Nat.le_trans (Nat.le_trans (Nat.le_trans (Nat.le_trans (Nat.le_trans (Nat.le_trans (Nat.le_trans (Nat.le_trans (Nat.le_trans (Nat.le_trans (Nat.le_trans (Nat.le_trans (Nat.le_trans (Nat.le_trans (Nat.le_trans (Nat.le_trans (Nat.le_trans (Nat.le_trans (Nat.le_trans (Nat.le_trans (Nat.le_trans (Nat.le_trans (Nat.le_trans (Nat.le_trans (Nat.le_trans (Nat.le_trans (Nat.le_trans (Nat.le_trans (Nat.le_trans (Nat.le_trans (Nat.le_trans (Nat.le_trans (Nat.le_trans (Nat.le_trans (Nat.le_trans (Nat.le_trans (Nat.le_trans Z0 E84.1) (Nat.le_of_eq (Wr.size W85).symm)) (Nat.le_of_eq (Wr.size W86).symm)) (Nat.le_of_eq (Wr.size W87).symm)) (Nat.le_of_eq (Wr.size W88).symm)) (Nat.le_of_eq (Wr.size W89).symm)) (Nat.le_of_eq (Wr.size W90).symm)) (Nat.le_of_eq (Wr.size W91).symm)) (Nat.le_of_eq (Wr.size W92).symm)) (Nat.le_of_eq (Wr.size W93).symm)) (Nat.le_of_eq (Wr.size W94).symm)) (Nat.le_of_eq (Wr.size W95).symm)) (Nat.le_of_eq (Wr.size W96).symm)) (Nat.le_of_eq (Wr.size W97).symm)) (Nat.le_of_eq (Wr.size W98).symm)) (Nat.le_of_eq (Wr.size W99).symm)) (Nat.le_of_eq (Wr.size W100).symm)) (Nat.le_of_eq (Wr.size W101).symm)) (Nat.le_of_eq (Wr.size W102).symm)) (Nat.le_of_eq (Wr.size W103).symm)) (Nat.le_of_eq (Wr.size W104).symm)) (Nat.le_of_eq (Wr.size W105).symm)) (Nat.le_of_eq (Wr.size W106).symm)) (Nat.le_of_eq (Wr.size W107).symm)) (Nat.le_of_eq (Wr.size W108).symm)) (Nat.le_of_eq (Wr.size W109).symm)) (Nat.le_of_eq (Wr.size W110).symm)) (Nat.le_of_eq (Wr.size W111).symm)) (Nat.le_of_eq (Wr.size W112).symm)) (Nat.le_of_eq (Wr.size W113).symm)) (Nat.le_of_eq (Wr.size W114).symm)) (Nat.le_of_eq (Wr.size W115).symm)) (Nat.le_of_eq (Wr.size W116).symm)) (Nat.le_of_eq (Wr.size W117).symm)) (Nat.le_of_eq (Wr.size W118).symm)) (Nat.le_of_eq (Wr.size W119).symm)) (Nat.le_of_eq (Wr.size W120).symm)) (Nat.le_of_eq (Wr.size W121).symm)) (Nat.le_of_eq (Wr.size W122).symm)) (Nat.le_of_eq (Wr.size W123).symm)) (Nat.le_of_eq (Wr.size W124).symm)) (Nat.le_of_eq (Wr.size W125).symm)) (Nat.le_of_eq (Wr.size W126).symm)) (Nat.le_of_eq (Wr.size W127).symm)) (Nat.le_of_eq (Wr.size W128).symm)) (Nat.le_of_eq (Wr.size W129).symm)) (Nat.le_of_eq (Wr.size W130).symm)) (Nat.le_of_eq (Wr.size W131).symm)) (Nat.le_of_eq (Wr.size W132).symm)) (Nat.le_of_eq (Wr.size W133).symm)) (Nat.le_of_eq (Wr.size W134).symm)) (Nat.le_of_eq (Wr.size W135).symm)) (Nat.le_of_eq (Wr.size W136).symm)) (Nat.le_of_eq (Wr.size W137).symm)) (Nat.le_of_eq (Wr.size W138).symm)) (Nat.le_of_eq (Wr.size W139).symm)) (Nat.le_of_eq (Wr.size W140).symm)) (Nat.le_of_eq (Wr.size W141).symm)) (Nat.le_of_eq (Wr.size W142).symm)) (Nat.le_of_eq (Wr.size W143).symm)) (Nat.le_of_eq (Wr.size W144).symm)) (Nat.le_of_eq (Wr.size W145).symm)) (Nat.le_of_eq (Wr.size W146).symm)) (Nat.le_of_eq (Wr.size W147).symm)) (Nat.le_of_eq (Wr.size W148).symm)) ) eq150 (by rw [hml]; rfl) (lenOf pd_0 rfl) rfl (Nat.le_of_eq rfl) (hb hby at_452) (by decide) (by decide) (by decide) (by decide) ?_
  intro v151 T151 L151 X151 hQ151
  obtain ⟨rfl, Nq151, eq151⟩ := hQ151
  have N151 := Fr.app N150 Nq151
  refine own_st (fr' := (mkF m 456 #[.val (.int p0), .val (.int p1), .val (.ref b84), .val (.int bb), .val (.int (1 : Int32)), .unset] [(.int bb), (.int (own_z_isn bb))])) (fun t k => XS.iloadN X151.here hx rfl (hb hby at_455) rfl  k) ?_
  refine own_callS X151 hx hZ (y := (⟨"com/example/precedence/precedence/tree/XmlIsNameStartCharPinLaw", "ref", "(I)Z"⟩ : MethodName)) hown (hw _ (List.mem_of_getElem? (i := 24) rfl)) (hw _ (List.mem_of_getElem? (i := 25) rfl)) (hw _ (List.mem_of_getElem? (i := 26) rfl)) (hw _ (List.mem_of_getElem? (i := 27) rfl)) (by decide) (argsL := [(.int bb)]) (rest := [(.int (own_z_isn bb))]) (W := 1) (rm_ref l Z a0 hw [] bb h148 n0 (Nat.le_trans (Nat.le_trans (Nat.le_trans (Nat.le_trans (Nat.le_trans (Nat.le_trans (Nat.le_trans (Nat.le_trans (Nat.le_trans (Nat.le_trans (Nat.le_trans (Nat.le_trans (Nat.le_trans (Nat.le_trans (Nat.le_trans (Nat.le_trans (Nat.le_trans (Nat.le_trans (Nat.le_trans (Nat.le_trans (Nat.le_trans (Nat.le_trans (Nat.le_trans (Nat.le_trans (Nat.le_trans (Nat.le_trans (Nat.le_trans (Nat.le_trans (Nat.le_trans (Nat.le_trans (Nat.le_trans (Nat.le_trans (Nat.le_trans (Nat.le_trans (Nat.le_trans (Nat.le_trans (Nat.le_trans (Nat.le_trans (Nat.le_trans (Nat.le_trans (Nat.le_trans (Nat.le_trans (Nat.le_trans (Nat.le_trans (Nat.le_trans (Nat.le_trans (Nat.le_trans (Nat.le_trans (Nat.le_trans (Nat.le_trans (Nat.le_trans (Nat.le_trans (Nat.le_trans (Nat.le_trans (Nat.le_trans (Nat.le_trans (Nat.le_trans (Nat.le_trans (Nat.le_trans (Nat.le_trans (Nat.le_trans (Nat.le_trans (Nat.le_trans (Nat.le_trans (Nat.le_trans Z0 E84.1) (Nat.le_of_eq (Wr.size W85).symm)) (Nat.le_of_eq (Wr.size W86).symm)) (Nat.le_of_eq (Wr.size W87).symm)) (Nat.le_of_eq (Wr.size W88).symm)) (Nat.le_of_eq (Wr.size W89).symm)) (Nat.le_of_eq (Wr.size W90).symm)) (Nat.le_of_eq (Wr.size W91).symm)) (Nat.le_of_eq (Wr.size W92).symm)) (Nat.le_of_eq (Wr.size W93).symm)) (Nat.le_of_eq (Wr.size W94).symm)) (Nat.le_of_eq (Wr.size W95).symm)) (Nat.le_of_eq (Wr.size W96).symm)) (Nat.le_of_eq (Wr.size W97).symm)) (Nat.le_of_eq (Wr.size W98).symm)) (Nat.le_of_eq (Wr.size W99).symm)) (Nat.le_of_eq (Wr.size W100).symm)) (Nat.le_of_eq (Wr.size W101).symm)) (Nat.le_of_eq (Wr.size W102).symm)) (Nat.le_of_eq (Wr.size W103).symm)) (Nat.le_of_eq (Wr.size W104).symm)) (Nat.le_of_eq (Wr.size W105).symm)) (Nat.le_of_eq (Wr.size W106).symm)) (Nat.le_of_eq (Wr.size W107).symm)) (Nat.le_of_eq (Wr.size W108).symm)) (Nat.le_of_eq (Wr.size W109).symm)) (Nat.le_of_eq (Wr.size W110).symm)) (Nat.le_of_eq (Wr.size W111).symm)) (Nat.le_of_eq (Wr.size W112).symm)) (Nat.le_of_eq (Wr.size W113).symm)) (Nat.le_of_eq (Wr.size W114).symm)) (Nat.le_of_eq (Wr.size W115).symm)) (Nat.le_of_eq (Wr.size W116).symm)) (Nat.le_of_eq (Wr.size W117).symm)) (Nat.le_of_eq (Wr.size W118).symm)) (Nat.le_of_eq (Wr.size W119).symm)) (Nat.le_of_eq (Wr.size W120).symm)) (Nat.le_of_eq (Wr.size W121).symm)) (Nat.le_of_eq (Wr.size W122).symm)) (Nat.le_of_eq (Wr.size W123).symm)) (Nat.le_of_eq (Wr.size W124).symm)) (Nat.le_of_eq (Wr.size W125).symm)) (Nat.le_of_eq (Wr.size W126).symm)) (Nat.le_of_eq (Wr.size W127).symm)) (Nat.le_of_eq (Wr.size W128).symm)) (Nat.le_of_eq (Wr.size W129).symm)) (Nat.le_of_eq (Wr.size W130).symm)) (Nat.le_of_eq (Wr.size W131).symm)) (Nat.le_of_eq (Wr.size W132).symm)) (Nat.le_of_eq (Wr.size W133).symm)) (Nat.le_of_eq (Wr.size W134).symm)) (Nat.le_of_eq (Wr.size W135).symm)) (Nat.le_of_eq (Wr.size W136).symm)) (Nat.le_of_eq (Wr.size W137).symm)) (Nat.le_of_eq (Wr.size W138).symm)) (Nat.le_of_eq (Wr.size W139).symm)) (Nat.le_of_eq (Wr.size W140).symm)) (Nat.le_of_eq (Wr.size W141).symm)) (Nat.le_of_eq (Wr.size W142).symm)) (Nat.le_of_eq (Wr.size W143).symm)) (Nat.le_of_eq (Wr.size W144).symm)) (Nat.le_of_eq (Wr.size W145).symm)) (Nat.le_of_eq (Wr.size W146).symm)) (Nat.le_of_eq (Wr.size W147).symm)) (Nat.le_of_eq (Wr.size W148).symm)) ) eq151 (by rw [hml]; rfl) (lenOf pd_0 rfl) rfl (Nat.le_of_eq rfl) (hb hby at_456) (by decide) (by decide) (by decide) (by decide) ?_
  intro v152 T152 L152 X152 hQ152
  obtain ⟨rfl, Nq152, eq152⟩ := hQ152
  have N152 := Fr.app N151 Nq152
  refine own_st (fr' := (mkF m 462 #[.val (.int p0), .val (.int p1), .val (.ref b84), .val (.int bb), .val (.int (1 : Int32)), .unset] [])) (fun t k => XS.icmpNo X152.here hx rfl (hb hby at_459) rfl (own_teq (x := (own_z_isn bb)) (y := (own_z_isn bb)) (show (own_z_isn bb).toInt = (own_z_isn bb).toInt from rfl)).2 k) ?_
  refine own_st (fr' := (mkF m 463 #[.val (.int p0), .val (.int p1), .val (.ref b84), .val (.int bb), .val (.int (1 : Int32)), .unset] [(.int (1 : Int32))])) (fun t k => XS.iconst X152.here hx rfl (hb hby at_462) k) ?_
  refine own_st (fr' := (mkF m 467 #[.val (.int p0), .val (.int p1), .val (.ref b84), .val (.int bb), .val (.int (1 : Int32)), .unset] [(.int (1 : Int32))])) (fun t k => XS.goto X152.here hx rfl (pc0 := 463) (pc' := 467) rfl (hb hby at_463) (by decide) (by decide) k) ?_
  refine own_st (fr' := (mkF m 469 #[.val (.int p0), .val (.int p1), .val (.ref b84), .val (.int bb), .val (.int (1 : Int32)), .val (.int (1 : Int32))] [])) (fun t k => XS.istore X152.here hx rfl (hb hby at_467) rfl  (l' := #[.val (.int p0), .val (.int p1), .val (.ref b84), .val (.int bb), .val (.int (1 : Int32)), .val (.int (1 : Int32))]) rfl k) ?_
  refine own_st (fr' := (mkF m 471 #[.val (.int p0), .val (.int p1), .val (.ref b84), .val (.int bb), .val (.int (1 : Int32)), .val (.int (1 : Int32))] [(.int (1 : Int32))])) (fun t k => XS.iload X152.here hx rfl (hb hby at_469) rfl  k) ?_
  refine own_st (fr' := (mkF m 474 #[.val (.int p0), .val (.int p1), .val (.ref b84), .val (.int bb), .val (.int (1 : Int32)), .val (.int (1 : Int32))] [])) (fun t k => XS.ifNo X152.here hx rfl (hb hby at_471) rfl ((if0 _ _).trans (own_feq (x := (1 : Int32)) (y := (0 : Int32)) (show ¬ 1 = 0 from (by decide))).1) k) ?_
  refine own_st (fr' := (mkF m 476 #[.val (.int p0), .val (.int p1), .val (.ref b84), .val (.int bb), .val (.int (1 : Int32)), .val (.int (1 : Int32))] [(.int (1 : Int32))])) (fun t k => XS.iload X152.here hx rfl (hb hby at_474) rfl  k) ?_
  refine own_st (fr' := (mkF m 479 #[.val (.int p0), .val (.int p1), .val (.ref b84), .val (.int bb), .val (.int (1 : Int32)), .val (.int (1 : Int32))] [])) (fun t k => XS.ifNo X152.here hx rfl (hb hby at_476) rfl ((if0 _ _).trans (own_feq (x := (1 : Int32)) (y := (0 : Int32)) (show ¬ 1 = 0 from (by decide))).1) k) ?_
  refine own_st (fr' := (mkF m 480 #[.val (.int p0), .val (.int p1), .val (.ref b84), .val (.int bb), .val (.int (1 : Int32)), .val (.int (1 : Int32))] [(.int (1 : Int32))])) (fun t k => XS.iconst X152.here hx rfl (hb hby at_479) k) ?_
  refine own_st (fr' := (mkF m 484 #[.val (.int p0), .val (.int p1), .val (.ref b84), .val (.int bb), .val (.int (1 : Int32)), .val (.int (1 : Int32))] [(.int (1 : Int32))])) (fun t k => XS.goto X152.here hx rfl (pc0 := 480) (pc' := 484) rfl (hb hby at_480) (by decide) (by decide) k) ?_
  exact own_retZ X152 hx hlk hret (Or.inr rfl) (hb hby at_484) (by decide) (by decide) (⟨rfl, N152⟩)
set_option maxRecDepth 65536 in
set_option maxHeartbeats 40000000 in
theorem comes_1 {Post : Tables → Env → Array Value → State → Outcome → State → Prop} (hpost : ∀ tb e args s v u, (limb_1_1.after args s (.returned v) u = true ∧ limb_1_2.after args s (.returned v) u = true ∧ True) → FrameEnd s (.returned v) u (Jvm.fieldLocs frame_1_writes args s ++ Jvm.arrayLocs frame_1_arrays args s ++ Jvm.staticLocs frame_1_statics s) 16 192 → Post tb e args s (.returned v) u) :
    ArmFor flags0 classFile x code maxLocals ret World_1 tables_1 room_1 Calls_1 rest_1 Pre_1 Post := by
  intro l hfl _ _ p e ha hc hk s m args below hf hA hF happ hP
  obtain ⟨hcalls, hrest, hpre⟩ := hP
  obtain ⟨-, -, -, hnamed, -, -, -, hat⟩ := (Spec.applies_iff hf).mp happ
  obtain ⟨hg, hn⟩ := and_e (Cond.before_iff.mp (show (Jvm.Cond.and given_1 narrow_1).before args s = true from hpre))
  obtain ⟨hcount, ha0⟩ := and_e hg
  obtain ⟨hi0, ha1⟩ := and_e ha0
  have hi1 := ha1
  obtain ⟨w0, w1, rfl⟩ : ∃ w0 w1 : Value, args = #[w0, w1] := by
    have hs : args.size = 2 := by simpa [Cond.value, given_1] using hcount
    obtain ⟨L⟩ := args
    match L, hs with
    | [w0, w1], _ => exact ⟨w0, w1, rfl⟩
  have hw := fun d (hd : d ∈ tables_1) => atoms_spec (ws := Jvm.Cond.code x code maxLocals ret :: tables_1) hat d (List.mem_cons_of_mem _ hd)
  have hfit : Fit s := fun {y c} hc i hi => by
    obtain ⟨ha, rfl⟩ := Array.getElem?_eq_some_iff.mp hc
    have q := List.all_eq_true.mp ((Array.all_eq_true_iff_forall_mem.mp hF) _ (Array.getElem_mem ha)) i (List.mem_range.mpr hi)
    simpa [Array.getElem?_eq_getElem hi] using q
  obtain ⟨i0, ei0⟩ := is_v hi0
  obtain rfl : w0 = (.int i0) := Option.some.inj ei0
  obtain ⟨i1, ei1⟩ := is_v hi1
  obtain rfl : w1 = (.int i1) := Option.some.inj ei1
  obtain ⟨n, o, h1, h2, h3, _, L, rfl, ⟨rfl, N⟩, hq⟩ := rm_law l s _ hw tables_1 i0 i1  s.heap s.heap.size (Nat.le_refl _)  p e ha hc hk s m _ below hf ((Spec.applies_iff_loose hf).mp happ).1 ⟨rfl, State.Warmed39.refl s, rfl⟩ trivial
  refine ⟨n, _, h1, h2, h3, hpost _ _ _ _ _ _ ⟨Cond.after_iff.mpr rfl, Cond.after_iff.mpr (eq_i res_at (Term.int_eval (1)) rfl), trivial⟩ ⟨hq.1, hq.2.1, (hq.2.2.sift fun y hy => Or.inr (N y hy)).mono (by decide) (by decide)⟩⟩
theorem main_1_1 : Claimed_1_1 := comes_1 fun _ _ _ _ _ _ h hF => ⟨h.1, hF⟩
theorem main_1_2 : Claimed_1_2 := comes_1 fun _ _ _ _ _ _ h hF => ⟨h.2.1, hF⟩
end Jvm.Pilot.@@N@@
namespace Jvm.Pilot.@@N@@
open Jvm Jvm.ClassFile Sem Op Lib Jvm.Free Jvm.Stand Jvm.Pilot.@@N@@.Jvm.D
/-! MADE BY PROGRAM (witnessworld.py) out of the Statement's table words and the real class files: 9 classes; the members and pool entries that the words name. The judged class is class 1, her method 1. -/
namespace start1
open Jvm.ClassFile
def u (s : String) : CpInfo := .utf8 (stringToUtf16 s)
/-- a pool by its gaps: so many unusable entries, then the entry; so many at the end -/
def gap : Nat → List CpInfo → List CpInfo
  | 0, r => r
  | n + 1, r => .unusable :: gap n r
def poolList (es : List (Nat × CpInfo)) (last : Nat) : List CpInfo := es.foldr (fun e r => gap e.1 (e.2 :: r)) (gap last [])
def pool (es : List (Nat × CpInfo)) (last : Nat) : Array CpInfo := ⟨poolList es last⟩
def fileOf (pool : Array CpInfo) (this : Nat) (attrs : Array Attribute := #[]) (ms : Array MethodInfo := #[]) (fl : Nat := 33) (sup : Nat := 0) (ifs : Array Nat := #[]) (fds : Array FieldInfo := #[]) : ClassFile where
  minorVersion := 0
  majorVersion := 65
  constantPool := pool
  accessFlags := fl
  thisClass := this
  superClass := sup
  interfaces := ifs
  fields := fds
  methods := ms
  attributes := attrs
def plain (name : String) (sup : Option ClassId) : Class where
  name := name
  kind := .ordinary
  loader := none
  accessFlags := 33
  super := sup
  interfaces := #[]
  cf := none
  fields := #[]
  methods := #[]
  instanceTypes := #[]
  staticTypes := #[]
  resolved := #[]
  callSites := []
  init := .initialized
  statics := none
  mirror := none

def pool0 : Array CpInfo := pool [(5, u "<init>"), (0, u "()V"), (1, .class_ 10), (1, u "java/lang/Object")] 113

def k0m0 : Method := { name := "<init>", desc := "()V", sig := { parameters := [], returnType := none }, accessFlags := 1, code := none }
/-- java/lang/Object -/
def k0 : Class := { plain "java/lang/Object" none with
  accessFlags := 33
  interfaces := #[]
  cf := some (fileOf pool0 8 #[] #[{ accessFlags := 1, nameIndex := 5, descriptorIndex := 6, attributes := #[] }] 33 0 #[] #[])
  fields := #[]
  methods := #[k0m0]
  instanceTypes := #[]
  staticTypes := #[]
  resolved := Array.replicate 124 none
  statics := none }

def pool1 : Array CpInfo := pool [(2, .class_ 4), (1, u "java/lang/Object"), (0, u "<init>"), (0, u "()V"), (2, .integer 2147483648), (0, .integer 55295), (0, .integer 55296), (0, .integer 63743), (0, .integer 63744), (0, .integer 64975), (0, .integer 64976), (0, .integer 65007), (0, .integer 65008), (0, .integer 65533), (0, .integer 65534), (0, .integer 65535), (0, .integer 65536), (0, .integer 983039), (0, .integer 983040), (0, .integer 2147483647), (0, .methodref 26 27), (0, .class_ 28), (0, .nameAndType 29 30), (0, u "com/example/precedence/precedence/tree/Xml"), (0, u "isNameStartChar"), (0, u "(I)Z"), (0, .methodref 32 33), (0, .class_ 34), (0, .nameAndType 35 30), (0, u "com/example/precedence/precedence/tree/XmlIsNameStartCharPinLaw"), (0, u "ref"), (2, u "law"), (0, u "(II)Z")] 5

def k1m0 : Method := { name := "<init>", desc := "()V", sig := { parameters := [], returnType := none }, accessFlags := 2, code := none }
def k1c1 : Code := { maxStack := 4, maxLocals := 6, code := code, exceptionTable := #[], attributes := #[] }
def k1m1 : Method := { name := "law", desc := "(II)Z", sig := { parameters := [.int, .int], returnType := some .boolean }, accessFlags := 9, code := some k1c1 }
def k1c2 : Code := { maxStack := 2, maxLocals := 1, code := method_3_code, exceptionTable := #[], attributes := #[] }
def k1m2 : Method := { name := "ref", desc := "(I)Z", sig := { parameters := [.int], returnType := some .boolean }, accessFlags := 10, code := some k1c2 }
/-- com/example/precedence/precedence/tree/XmlIsNameStartCharPinLaw -/
def k1 : Class := { plain "com/example/precedence/precedence/tree/XmlIsNameStartCharPinLaw" (some 0) with
  accessFlags := 49
  interfaces := #[]
  cf := some (fileOf pool1 32 #[] #[{ accessFlags := 2, nameIndex := 5, descriptorIndex := 6, attributes := #[] }, { accessFlags := 9, nameIndex := 38, descriptorIndex := 39, attributes := #[] }, { accessFlags := 10, nameIndex := 35, descriptorIndex := 30, attributes := #[] }] 49 2 #[] #[])
  fields := #[]
  methods := #[k1m0, k1m1, k1m2]
  instanceTypes := #[]
  staticTypes := #[]
  resolved := Array.replicate 45 none
  statics := none }

def pool2 : Array CpInfo := pool [(2, .class_ 4), (1, u "java/lang/Object"), (0, u "<init>"), (0, u "()V"), (39, .class_ 48), (1, u "com/example/precedence/precedence/tree/Xml"), (23, u "isNameStartChar"), (0, u "(I)Z"), (9, .integer 55295), (0, .integer 63744), (0, .integer 64975), (0, .integer 65008), (0, .integer 65533), (0, .integer 65536), (0, .integer 983039)] 29

def k2m0 : Method := { name := "<init>", desc := "()V", sig := { parameters := [], returnType := none }, accessFlags := 2, code := none }
def k2c1 : Code := { maxStack := 2, maxLocals := 1, code := prog_69_method_10_code, exceptionTable := #[], attributes := #[] }
def k2m1 : Method := { name := "isNameStartChar", desc := "(I)Z", sig := { parameters := [.int], returnType := some .boolean }, accessFlags := 9, code := some k2c1 }
/-- com/example/precedence/precedence/tree/Xml -/
def k2 : Class := { plain "com/example/precedence/precedence/tree/Xml" (some 0) with
  accessFlags := 49
  interfaces := #[]
  cf := some (fileOf pool2 46 #[] #[{ accessFlags := 2, nameIndex := 5, descriptorIndex := 6, attributes := #[] }, { accessFlags := 9, nameIndex := 72, descriptorIndex := 73, attributes := #[] }] 49 2 #[] #[])
  fields := #[]
  methods := #[k2m0, k2m1]
  instanceTypes := #[]
  staticTypes := #[]
  resolved := Array.replicate 119 none
  statics := none }

def pool3 : Array CpInfo := pool [(1, u "java/lang/Cloneable"), (0, .class_ 1), (0, u "java/lang/Object"), (0, .class_ 3)] 3

/-- java/lang/Cloneable -/
def k3 : Class := { plain "java/lang/Cloneable" (some 0) with
  accessFlags := 1537
  interfaces := #[]
  cf := some (fileOf pool3 2 #[] #[] 1537 4 #[] #[])
  fields := #[]
  methods := #[]
  instanceTypes := #[]
  staticTypes := #[]
  resolved := Array.replicate 8 none
  statics := none }

def pool4 : Array CpInfo := pool [(1, u "java/io/Serializable"), (0, .class_ 1), (0, u "java/lang/Object"), (0, .class_ 3)] 3

/-- java/io/Serializable -/
def k4 : Class := { plain "java/io/Serializable" (some 0) with
  accessFlags := 1537
  interfaces := #[]
  cf := some (fileOf pool4 2 #[] #[] 1537 4 #[] #[])
  fields := #[]
  methods := #[]
  instanceTypes := #[]
  staticTypes := #[]
  resolved := Array.replicate 8 none
  statics := none }

/-- the primitive byte -/
def k5 : Class := { plain "byte" none with kind := .primitive 'B', accessFlags := 0x411 }
/-- [B -/
def k6 : Class := { plain "[B" (some 0) with kind := .array 5 .byte, interfaces := #[3, 4], accessFlags := 1041 }

/-- the primitive int -/
def k7 : Class := { plain "int" none with kind := .primitive 'I', accessFlags := 0x411 }
/-- [I -/
def k8 : Class := { plain "[I" (some 0) with kind := .array 7 .int, interfaces := #[3, 4], accessFlags := 1041 }

def heap : Heap := #[]
def classes : Array Class := #[k0, k1, k2, k3, k4, k5, k6, k7, k8]
def interned : List (Array UInt16 × Addr) := []
def slotsUsed : Nat := 0
def theMethod : MethodId := ⟨1, 1⟩
def args0 : Array Value := #[.int 5, .int 7]
def aboutOver (below : List Frame) : State where
  vm := { classes := classes, interned := interned.toArray }
  heap := heap
  slotsUsed := slotsUsed
  threads := #[{ frames := .invoking theMethod args0 :: below }]
def below0 : List Frame := [.native { method := ⟨0, 0⟩, args := #[] }]
def about1 : State := aboutOver below0
def p0 : Program := .bare "" "" ""
def e0 : Env := launch0.env 0 0 0
theorem w_frames : about1.frames = Frame.invoking theMethod args0 :: below0 := rfl
set_option maxRecDepth 65536 in
theorem w_args : argsFit about1.vm theMethod args0 = true := by decide +kernel
set_option maxRecDepth 65536 in
theorem w_heap : heapFits about1 = true := by decide +kernel
set_option maxRecDepth 65536 in
theorem w_runnable : about1.curStatus? = some .runnable := by decide +kernel
set_option maxRecDepth 65536 in
theorem w_alone : about1.alone = true := by decide +kernel
set_option maxRecDepth 65536 in
theorem w_named : about1.methodNamed? x = some theMethod := by decide +kernel
set_option maxRecDepth 65536 in
theorem w_hears : about1.hears theMethod below0 = true := by decide +kernel
set_option maxRecDepth 65536 in
theorem w_ripe : about1.ripe theMethod args0 below0 = true := by decide +kernel
theorem w_running : about1.status = .running := rfl
set_option maxRecDepth 65536 in
theorem w_room : about1.hasRoom e0.platform room_1 = true :=
  launch0.hasRoom_least _ room_1 (by decide +kernel) (by decide +kernel) (by decide +kernel) (by decide +kernel) (by decide +kernel) (by decide +kernel)
theorem allAtoms_all (ts : List Jvm.Cond) (a : Array Jvm.Value) (st : Jvm.State) : (allAtoms ts).before a st = ts.all (fun c => c.before a st) := by
  induction ts with
  | nil => rfl
  | cons c t ih =>
    show (Jvm.Cond.and c (allAtoms t)).before a st = _
    rw [Jvm.Cond.before_and, ih, List.all_cons]
def words1 : List Jvm.Cond := Jvm.Cond.code x code maxLocals ret :: tables_1
/-- a 'code' word, met by the world's own term for the bytes: nothing is compared byte by byte -/
theorem code_word {y : MethodName} {bytes : ByteArray} {mx : Nat} {rt : Option FieldType} {a : Array Value} {s : State} {m : MethodId} {meth : Method} {c : Code} (h1 : s.methodNamed? y = some m) (h2 : s.vm.method? m = some meth) (h3 : meth.code = some c) (h4 : c.code = bytes)
    (h5 : (c.maxLocals == mx && c.exceptionTable.isEmpty && decide (c.maxStack ≤ mostOperands) && decide (meth.sig.returnType = rt) && !meth.locks && decide (parseMethodDescriptor y.desc = some meth.sig)) = true) : (Jvm.Cond.code y bytes mx rt).before a s = true := by
  simp only [Bool.and_eq_true, beq_iff_eq, Bool.not_eq_true', decide_eq_true_eq] at h5
  obtain ⟨⟨⟨⟨⟨g1, g2⟩, g3⟩, g4⟩, g5⟩, g6⟩ := h5
  simp [Cond.before, Cond.holds, Cond.value, h1, h2, h3, h4, g1, g2, g3, g4, g5, g6]
def isCode : Jvm.Cond → Bool
  | .code _ _ _ _ => true
  | _ => false
theorem all_split {L : List Jvm.Cond} {P : Jvm.Cond → Bool} (h1 : L.all (fun c => isCode c || P c) = true) (h2 : ∀ c ∈ L.filter isCode, P c = true) : L.all P = true := by
  refine List.all_eq_true.mpr fun c hc => ?_
  have h := List.all_eq_true.mp h1 c hc
  rcases Bool.eq_false_or_eq_true (isCode c) with hi | hi
  · exact h2 c (List.mem_filter.mpr ⟨hc, hi⟩)
  · simpa [hi] using h
set_option maxRecDepth 65536 in
theorem w_c0 : (Jvm.Cond.code x code maxLocals ret).before args0 about1 = true := code_word (m := ⟨1, 1⟩) (meth := k1m1) (c := k1c1) (by decide +kernel) rfl rfl rfl (by decide +kernel)
set_option maxRecDepth 65536 in
theorem w_c1 : (Jvm.Cond.code ({ cls := "com/example/precedence/precedence/tree/Xml", name := "isNameStartChar", desc := "(I)Z" } : Jvm.MethodName) prog_69_method_10_code (1 : Nat) (Option.some Jvm.ClassFile.FieldType.boolean)).before args0 about1 = true := code_word (m := ⟨2, 1⟩) (meth := k2m1) (c := k2c1) (by decide +kernel) rfl rfl rfl (by decide +kernel)
set_option maxRecDepth 65536 in
theorem w_c2 : (Jvm.Cond.code ({ cls := "com/example/precedence/precedence/tree/XmlIsNameStartCharPinLaw", name := "ref", desc := "(I)Z" } : Jvm.MethodName) method_3_code (1 : Nat) (Option.some Jvm.ClassFile.FieldType.boolean)).before args0 about1 = true := code_word (m := ⟨1, 2⟩) (meth := k1m2) (c := k1c2) (by decide +kernel) rfl rfl rfl (by decide +kernel)
def codes1 : List Jvm.Cond := [Jvm.Cond.code x code maxLocals ret, Jvm.Cond.code ({ cls := "com/example/precedence/precedence/tree/Xml", name := "isNameStartChar", desc := "(I)Z" } : Jvm.MethodName) prog_69_method_10_code (1 : Nat) (Option.some Jvm.ClassFile.FieldType.boolean), Jvm.Cond.code ({ cls := "com/example/precedence/precedence/tree/XmlIsNameStartCharPinLaw", name := "ref", desc := "(I)Z" } : Jvm.MethodName) method_3_code (1 : Nat) (Option.some Jvm.ClassFile.FieldType.boolean)]
set_option maxRecDepth 65536 in
theorem codes_eq : words1.filter isCode = codes1 := rfl
theorem w_codes : ∀ c ∈ words1.filter isCode, c.before args0 about1 = true := by
  rw [codes_eq]
  intro c hc
  simp only [codes1, List.mem_cons, List.not_mem_nil, or_false] at hc
  rcases hc with rfl | rfl | rfl
  · exact w_c0
  · exact w_c1
  · exact w_c2
set_option maxRecDepth 65536 in
theorem w_t1 : (words1.take 24).all (fun c => isCode c || c.before args0 about1) = true := by decide +kernel
set_option maxRecDepth 65536 in
theorem w_t2 : (words1.drop 24).all (fun c => isCode c || c.before args0 about1) = true := by decide +kernel
theorem w_tables : (allAtoms (Jvm.Cond.code x code maxLocals ret :: tables_1)).before args0 about1 = true := by
  rw [allAtoms_all]
  show words1.all (fun c => c.before args0 about1) = true
  refine all_split ?_ w_codes
  rw [← List.take_append_drop 24 words1, List.all_append, w_t1, w_t2]
  rfl
set_option maxRecDepth 65536 in
theorem w_case : (Jvm.Cond.and given_1 narrow_1).before args0 about1 = true := by decide +kernel
theorem w_applies : (headSpec (Jvm.Cond.code x code maxLocals ret :: tables_1) room_1).applies x e0.platform about1 = true :=
  (Spec.applies_iff w_frames).mpr ⟨w_running, w_runnable, w_alone, w_named, w_hears, w_ripe, w_room, w_tables⟩
theorem atStart : AtStart classFile x code maxLocals ret World_1 tables_1 room_1 Calls_1 rest_1 Pre_1 launch0 p0 e0 about1 theMethod args0 below0 :=
  ⟨lists_1, trivial, launch0.admits_env _ _ _, launch0.least_env, fairChoices_fair.cas, fairChoices_fair.clock, w_frames, w_args, w_heap, w_applies, trivial, trivial, w_case⟩
end start1
theorem witness_1 : WitnessClaimed_1 := ⟨start1.p0, start1.e0, start1.about1, start1.theMethod, start1.args0, start1.below0, start1.atStart⟩
end Jvm.Pilot.@@N@@
