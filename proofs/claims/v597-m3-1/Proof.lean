import JvmDerived
import JvmDerived.Pilot.@@N@@Statement
import JvmDerived.Pilot.@@N@@Code
set_option linter.unusedVariables false
set_option linter.unusedSimpArgs false
namespace Jvm.Pilot.@@N@@
open Jvm Jvm.ClassFile Sem Op Lib Jvm.Free Jvm.Stand Jvm.LawKit Jvm.RoadKit Bundle Jvm.Pilot.@@N@@.Jvm.D
/-- from T with the frame fr on top the invocation ends; Q holds of what it returned, of the heap and of the written places; kc cells and ks slots at most are new -/
def Go (p : Program) (e : Env) (below : List Frame) (s : State) (kc ks : Nat) (Q : Option Value → Heap → List Loc → Prop) (T : State) (fr : JFrame) : Prop :=
  ∃ s₂ o, Steps p.tables e below (T.setTop fr) s₂ ∧ s₂.status = .running ∧ Ended s₂ below o ∧ ∃ v L, o = .returned v ∧ Q v s₂.heap L ∧ FrameEnd s o s₂ L kc ks
section OwnKit
variable {p : Program} {l : Launch} {e : Env} {R : Room} {s : State} {m : MethodId} {args : Array Value} {below : List Frame} {meth : Method} {c : Code} {T T' : State} {locs : List Loc} {cells slots : Nat} {Z : State} {a0 : Array Value} {h : Heap} {kc ks : Nat} {Q : Option Value → Heap → List Loc → Prop}
theorem own_st {fr fr' : JFrame} (st : ∀ t, Steps p.tables e below (T'.setTop fr') t → Steps p.tables e below (T.setTop fr) t) (k : Go p e below s kc ks Q T' fr') : Go p e below s kc ks Q T fr := by
  obtain ⟨s₂, o, h1, h2⟩ := k
  exact ⟨s₂, o, st _ h1, h2⟩
theorem own_tr {fr fr' : JFrame} (st : Steps p.tables e below (T.setTop fr) (T'.setTop fr')) (k : Go p e below s kc ks Q T' fr') : Go p e below s kc ks Q T fr :=
  own_st (fun _ q => st.trans q) k
theorem own_met {y : MethodName} {bytes : ByteArray} {maxL : Nat} {ret : Option FieldType} {ws : List Jvm.Cond} {rm : Room} {as' : Array Value} {Ls : Array Slot} {h0 : Heap} (hn : plainFor y = true) (hef : ∀ m : MethodId, entryFrame m as' maxL = mkF m 0 Ls [])
    (body : ∀ (p : Program) (e : Env) (s : State) (m : MethodId) (below : List Frame) (meth : Method) (c : Code) (s₁ : State), p.tables.exec = Jvm.exec → c.code = bytes → c.maxLocals = maxL → meth.sig.returnType = ret → meth.locks = false → Z.Warmed39 s.vm → s.vm.findClass y.cls = some m.cls → meth.name = y.name →
      Stand p l e rm s m as' below meth c s₁ [] 0 0 → s₁.heap = h0 → s.heap = h0 → Go p e below s rm.cells rm.slots Q s₁ (mkF m 0 Ls [])) :
    MetFree l y (head1 (Jvm.Cond.code y bytes maxL ret :: ws) rm) (fun a U => a = as' ∧ Z.Warmed39 U.vm ∧ U.heap = h0) (fun _ _ _ _ _ => True) (fun _ U o U' => ∃ v L, o = .returned v ∧ Q v U'.heap L ∧ FrameEnd U o U' L rm.cells rm.slots) := by
  refine MetFree.of_bodySF hn hisR ?_
  intro p e s m args below meth c s₁ Bd hml0 hP hK
  obtain ⟨rfl, hZ, hh⟩ := hP
  have hg := body p e s m below meth c s₁ Bd.exec Bd.bytes hml0 Bd.returns Bd.notSynchronized hZ (findClass_of_methodNamed Bd.named) (name_of_methodNamed Bd.named Bd.method).1 (Stand.of_body Bd) (by rw [← hh, Bd.state]; rfl) hh
  unfold Go at hg
  rw [← hef m] at hg
  exact hg
theorem own_ret (X : Stand p l e R s m args below meth c T locs cells slots) (hx : p.tables.exec = Jvm.exec) (hlk : meth.locks = false) {pc : Nat} {Ls : Array Slot} {w : Value} {t : FieldType} {i : Instr} {rest : List Value} (hret : meth.sig.returnType = some t) (hn : narrow t w = w)
    (hi : (i = .ireturn ∧ (t = .int ∨ t = .boolean ∨ t = .byte ∨ t = .char ∨ t = .short) ∧ ∃ z, w = .int z) ∨ (i = .lreturn ∧ t = .long ∧ ∃ z, w = .long z) ∨ (i = .dreturn ∧ t = .double ∧ ∃ z, w = .double z) ∨ (i = .freturn ∧ t = .float ∧ ∃ z, w = .float z) ∨ (i = .areturn ∧ t.isReference = true ∧ w.isRef = true))
    (hd : decode c.code pc = .ok (i, 1)) (hc : cells ≤ kc) (hs : slots ≤ ks) (hq : Q (some w) T.heap locs) : Go p e below s kc ks Q T (mkF m pc Ls (w :: rest)) := by
  obtain ⟨fs, hr, hrun, hended, hW, hsame⟩ := X.leave (v := some w) (fun h => by rw [hret] at h; cases h) hlk
  exact ⟨_, _, retOut X hx hret hn hi hd hr, hrun, hended, _, _, rfl, hq, ⟨_, rfl⟩, hW, hsame.mono hc hs⟩
theorem own_retI (X : Stand p l e R s m args below meth c T locs cells slots) (hx : p.tables.exec = Jvm.exec) (hlk : meth.locks = false) {pc : Nat} {Ls : Array Slot} {z : Int32} {rest : List Value} (hret : meth.sig.returnType = some .int)
    (hd : decode c.code pc = .ok (.ireturn, 1)) (hc : cells ≤ kc) (hs : slots ≤ ks) (hq : Q (some (.int z)) T.heap locs) : Go p e below s kc ks Q T (mkF m pc Ls (.int z :: rest)) :=
  own_ret X hx hlk hret rfl (Or.inl ⟨rfl, Or.inl rfl, _, rfl⟩) hd hc hs hq
theorem own_retJ (X : Stand p l e R s m args below meth c T locs cells slots) (hx : p.tables.exec = Jvm.exec) (hlk : meth.locks = false) {pc : Nat} {Ls : Array Slot} {z : Int64} {rest : List Value} (hret : meth.sig.returnType = some .long)
    (hd : decode c.code pc = .ok (.lreturn, 1)) (hc : cells ≤ kc) (hs : slots ≤ ks) (hq : Q (some (.long z)) T.heap locs) : Go p e below s kc ks Q T (mkF m pc Ls (.long z :: rest)) :=
  own_ret X hx hlk hret rfl (Or.inr (Or.inl ⟨rfl, rfl, _, rfl⟩)) hd hc hs hq
theorem own_retA (X : Stand p l e R s m args below meth c T locs cells slots) (hx : p.tables.exec = Jvm.exec) (hlk : meth.locks = false) {pc : Nat} {Ls : Array Slot} {w : Value} {t : FieldType} {rest : List Value} (hret : meth.sig.returnType = some t) (ht : t.isReference = true) (hw : w.isRef = true)
    (hd : decode c.code pc = .ok (.areturn, 1)) (hc : cells ≤ kc) (hs : slots ≤ ks) (hq : Q (some w) T.heap locs) : Go p e below s kc ks Q T (mkF m pc Ls (w :: rest)) :=
  own_ret X hx hlk hret (by cases w <;> simp [Value.isRef] at hw <;> cases t <;> simp [FieldType.isReference] at ht <;> rfl) (Or.inr (Or.inr (Or.inr (Or.inr ⟨rfl, ht, hw⟩)))) hd hc hs hq
theorem own_retV (X : Stand p l e R s m args below meth c T locs cells slots) (hx : p.tables.exec = Jvm.exec) (hlk : meth.locks = false) {pc : Nat} {Ls : Array Slot} (hret : meth.sig.returnType = none)
    (hd : decode c.code pc = .ok (.return_, 1)) (hc : cells ≤ kc) (hs : slots ≤ ks) (hq : Q none T.heap locs) : Go p e below s kc ks Q T (mkF m pc Ls []) := by
  obtain ⟨fs, hr, hrun, hended, hW, hsame⟩ := X.leave (v := none) (fun _ => rfl) hlk
  exact ⟨_, _, X.returnOut hx hret hd hr, hrun, hended, _, _, rfl, hq, ⟨_, rfl⟩, hW, hsame.mono hc hs⟩
theorem own_bit {z : Int32} (h : z.toInt = 0 ∨ z.toInt = 1) : z = 0 ∨ z = 1 := by
  rcases h with h | h
  · exact Or.inl (Int32.toInt_inj.mp h)
  · exact Or.inr (Int32.toInt_inj.mp h)
theorem own_retZ (X : Stand p l e R s m args below meth c T locs cells slots) (hx : p.tables.exec = Jvm.exec) (hlk : meth.locks = false) {pc : Nat} {Ls : Array Slot} {z : Int32} {rest : List Value} (hret : meth.sig.returnType = some .boolean) (hz : z.toInt = 0 ∨ z.toInt = 1)
    (hd : decode c.code pc = .ok (.ireturn, 1)) (hc : cells ≤ kc) (hs : slots ≤ ks) (hq : Q (some (.int z)) T.heap locs) : Go p e below s kc ks Q T (mkF m pc Ls (.int z :: rest)) :=
  own_ret X hx hlk hret (by rcases own_bit hz with rfl | rfl <;> rfl) (Or.inl ⟨rfl, Or.inr (Or.inl rfl), _, rfl⟩) hd hc hs hq
theorem own_one {z : Int32} (h : z.toInt = 1) : z = 1 := Int32.toInt_inj.mp h
/-- a static call by the callee's contract -/
theorem own_callS (X : Stand p l e R s m args below meth c T locs cells slots) (hx : p.tables.exec = Jvm.exec) (hZ : Z.Warmed39 s.vm) {own : String} {index : Nat} {y : MethodName} {bytes : ByteArray} {maxL : Nat} {ret : Option FieldType} (hown : s.vm.findClass own = some m.cls)
    (w1 : (Jvm.Cond.methodLink own index y).before a0 Z = true) (w2 : (Jvm.Cond.static y).before a0 Z = true) (w3 : (Jvm.Cond.initialized y.cls).before a0 Z = true) (w4 : (Jvm.Cond.code y bytes maxL ret).before a0 Z = true) (hy : y.cls ≠ "java/lang/invoke/MethodHandle" ∧ y.cls ≠ "java/lang/invoke/VarHandle")
    {rm : Room} {Q' : Option Value → Heap → List Loc → Prop} {argsL rest stk : List Value} {pc W : Nat} {Ls : Array Slot}
    (hM : MetFree l y (head1 [Jvm.Cond.code y bytes maxL ret] rm) (fun a U => a = argsL.toArray ∧ Z.Warmed39 U.vm ∧ U.heap = h) (fun _ _ _ _ _ => True) (fun _ U o U' => ∃ v L, o = .returned v ∧ Q' v U'.heap L ∧ FrameEnd U o U' L rm.cells rm.slots))
    (eT : T.heap = h) (hsize : Ls.size = c.maxLocals) (hlen : ∀ sig, parseMethodDescriptor y.desc = some sig → argsL.length = sig.parameters.length) (hst : stk = argsL.reverse ++ rest) (hW : (rest.map fun v => v.category).sum ≤ W) (hd : decode c.code pc = .ok (.invokestatic index, 3))
    (hf : rm.frames + 1 ≤ R.frames) (hl : W + (maxL + 11) + rm.locals ≤ R.locals) (hc : cells + rm.cells ≤ R.cells) (hs : slots + rm.slots ≤ R.slots)
    (k : ∀ (v : Option Value) (T' : State) (L : List Loc), Stand p l e R s m args below meth c T' (locs ++ L) (cells + rm.cells) (slots + rm.slots) → Q' v T'.heap L → Go p e below s kc ks Q T' (mkF m (pc + 3) Ls (v.toList ++ rest))) :
    Go p e below s kc ks Q T (mkF m pc Ls stk) := by
  subst hst
  obtain ⟨v, _, ⟨T1, L1, k1, n1⟩, -, X1, ⟨Lc, hQ, l1, y1, z1⟩, st⟩ := Jvm.LawKit.callS X hx (y := y) hown (mvT hZ w1) (mvT hZ w2) (mvT hZ w3) (mvT hZ w4) hy (backOf (W := W) hM hZ w4 w3 hf hl) (g := mkF m pc Ls (argsL.reverse ++ rest)) rfl hsize (argsL := argsL) (rest := rest) hlen rfl (by show 2 * 0 + _ ≤ _; omega) hd (fun _ _ => ⟨rfl, eT, hc, hs⟩)
  dsimp only [Pt.U, Pt.locs, Pt.cells, Pt.slots] at X1 l1 y1 z1 st hQ
  subst l1 y1 z1
  exact own_st st (k v T1 Lc X1 hQ)
/-- a constructor by its contract -/
theorem own_callN (X : Stand p l e R s m args below meth c T locs cells slots) (hx : p.tables.exec = Jvm.exec) (hZ : Z.Warmed39 s.vm) {own : String} {index : Nat} {y : MethodName} {bytes : ByteArray} {maxL : Nat} (hown : s.vm.findClass own = some m.cls) (hy1 : y.name = "<init>")
    (w1 : (Jvm.Cond.methodLink own index y).before a0 Z = true) (w2 : (Jvm.Cond.instanceMethod y).before a0 Z = true) (w3 : (Jvm.Cond.initialized y.cls).before a0 Z = true) (w4 : (Jvm.Cond.code y bytes maxL none).before a0 Z = true) (hy : y.cls ≠ "java/lang/invoke/MethodHandle" ∧ y.cls ≠ "java/lang/invoke/VarHandle")
    {rm : Room} {Q' : Option Value → Heap → List Loc → Prop} {a : Addr} {argsL rest stk : List Value} {pc W : Nat} {Ls : Array Slot}
    (hM : MetFree l y (head1 [Jvm.Cond.code y bytes maxL none] rm) (fun a' U => a' = (.ref a :: argsL).toArray ∧ Z.Warmed39 U.vm ∧ U.heap = h) (fun _ _ _ _ _ => True) (fun _ U o U' => ∃ v L, o = .returned v ∧ Q' v U'.heap L ∧ FrameEnd U o U' L rm.cells rm.slots))
    (eT : T.heap = h) (hsize : Ls.size = c.maxLocals) (hlen : ∀ sig, parseMethodDescriptor y.desc = some sig → argsL.length = sig.parameters.length) (hst : stk = argsL.reverse ++ .ref a :: rest) (hW : (rest.map fun v => v.category).sum ≤ W) (hd : decode c.code pc = .ok (.invokespecial index, 3))
    (hf : rm.frames + 1 ≤ R.frames) (hl : W + (maxL + 11) + rm.locals ≤ R.locals) (hc : cells + rm.cells ≤ R.cells) (hs : slots + rm.slots ≤ R.slots)
    (k : ∀ (v : Option Value) (T' : State) (L : List Loc), Stand p l e R s m args below meth c T' (locs ++ L) (cells + rm.cells) (slots + rm.slots) → Q' v T'.heap L → Go p e below s kc ks Q T' (mkF m (pc + 3) Ls (v.toList ++ rest))) :
    Go p e below s kc ks Q T (mkF m pc Ls stk) := by
  subst hst
  obtain ⟨v, _, ⟨T1, L1, k1, n1⟩, -, X1, ⟨Lc, hQ, l1, y1, z1⟩, st⟩ := X.specialBack hx (y := y) hy1 hown (mvT hZ w1) (mvT hZ w2) (mvT hZ w4) hy (backOf (W := W) hM hZ w4 w3 hf hl) (g := mkF m pc Ls (argsL.reverse ++ .ref a :: rest)) rfl hsize (Steps.refl _) (a := a) (argsL := argsL) (rest := rest) hlen rfl (by show 2 * 0 + _ ≤ _; omega) hd (fun _ _ => ⟨rfl, eT, hc, hs⟩)
  dsimp only [Pt.U, Pt.locs, Pt.cells, Pt.slots] at X1 l1 y1 z1 st hQ
  subst l1 y1 z1
  exact own_tr st (k v T1 Lc X1 hQ)
/-- an instance method by the contract of the body that the receiver's class selects -/
theorem own_callV (X : Stand p l e R s m args below meth c T locs cells slots) (hx : p.tables.exec = Jvm.exec) (hZ : Z.Warmed39 s.vm) {own C : String} {index : Nat} {y z : MethodName} {bytes : ByteArray} {maxL : Nat} {ret : Option FieldType} (hown : s.vm.findClass own = some m.cls)
    (w1 : (Jvm.Cond.methodLink own index y).before a0 Z = true) (w2 : (Jvm.Cond.declares y).before a0 Z = true) (hnf : NotFace s y) (w3 : (Jvm.Cond.selects C y z).before a0 Z = true) (w4 : (Jvm.Cond.instanceMethod z).before a0 Z = true) (w5 : (Jvm.Cond.initialized z.cls).before a0 Z = true) (w6 : (Jvm.Cond.code z bytes maxL ret).before a0 Z = true) (hy : y.cls ≠ "java/lang/invoke/MethodHandle" ∧ y.cls ≠ "java/lang/invoke/VarHandle")
    {rm : Room} {Q' : Option Value → Heap → List Loc → Prop} {a : Addr} {argsL rest stk : List Value} {pc W : Nat} {Ls : Array Slot}
    (hM : MetFree l z (head1 [Jvm.Cond.code z bytes maxL ret] rm) (fun a' U => a' = (.ref a :: argsL).toArray ∧ Z.Warmed39 U.vm ∧ U.heap = h) (fun _ _ _ _ _ => True) (fun _ U o U' => ∃ v L, o = .returned v ∧ Q' v U'.heap L ∧ FrameEnd U o U' L rm.cells rm.slots))
    (eT : T.heap = h) (E : Exa Z h a C) (hsize : Ls.size = c.maxLocals) (hlen : ∀ sig, parseMethodDescriptor y.desc = some sig → argsL.length = sig.parameters.length) (hst : stk = argsL.reverse ++ .ref a :: rest) (hW : (rest.map fun v => v.category).sum ≤ W) (hd : decode c.code pc = .ok (.invokevirtual index, 3))
    (hf : rm.frames + 1 ≤ R.frames) (hl : W + (maxL + 11) + rm.locals ≤ R.locals) (hc : cells + rm.cells ≤ R.cells) (hs : slots + rm.slots ≤ R.slots)
    (k : ∀ (v : Option Value) (T' : State) (L : List Loc), Stand p l e R s m args below meth c T' (locs ++ L) (cells + rm.cells) (slots + rm.slots) → Q' v T'.heap L → Go p e below s kc ks Q T' (mkF m (pc + 3) Ls (v.toList ++ rest))) :
    Go p e below s kc ks Q T (mkF m pc Ls stk) := by
  subst hst
  obtain ⟨cq, kq, qa, qb, qc⟩ := isOf hZ eT E
  obtain ⟨v, _, ⟨T1, L1, k1, n1⟩, -, X1, ⟨Lc, hQ, l1, y1, z1⟩, st⟩ := X.virtualBack hx (y := y) (z := z) hown (mvT hZ w1) (mvT hZ w2) hnf (mvT hZ w3) (mvT hZ w4) hy (backOf (W := W) hM hZ w6 w5 hf hl) qa qc (g := mkF m pc Ls (argsL.reverse ++ .ref a :: rest)) rfl hsize (Steps.refl _) (argsL := argsL) (rest := rest) hlen rfl (by show 2 * 0 + _ ≤ _; omega) hd (fun _ _ => ⟨rfl, eT, hc, hs⟩)
  dsimp only [Pt.U, Pt.locs, Pt.cells, Pt.slots] at X1 l1 y1 z1 st hQ
  subst l1 y1 z1
  exact own_tr st (k v T1 Lc X1 hQ)
/-- the branches, by the integers' worth -/
theorem own_tlt {x y : Int32} (h : x.toInt < y.toInt) : if_icmp.holds .lt x y = true ∧ if_icmp.holds .ge x y = false ∧ if_icmp.holds .gt y x = true ∧ if_icmp.holds .le y x = false := tlt (Int32.lt_iff_toInt_lt.mpr h)
theorem own_flt {x y : Int32} (h : ¬ x.toInt < y.toInt) : if_icmp.holds .lt x y = false ∧ if_icmp.holds .ge x y = true ∧ if_icmp.holds .gt y x = false ∧ if_icmp.holds .le y x = true := flt fun q => h (Int32.lt_iff_toInt_lt.mp q)
theorem own_teq {x y : Int32} (h : x.toInt = y.toInt) : if_icmp.holds .eq x y = true ∧ if_icmp.holds .ne x y = false := teq (Int32.toInt_inj.mp h)
theorem own_feq {x y : Int32} (h : ¬ x.toInt = y.toInt) : if_icmp.holds .eq x y = false ∧ if_icmp.holds .ne x y = true := feq fun q => h (congrArg _ q)
theorem own_tltL {x y : Int64} (h : x.toInt < y.toInt) : ifCond.holds .lt (lcmpW x y) = true ∧ ifCond.holds .ge (lcmpW x y) = false := by
  have q := tlt ((lw_lt x y).mpr (Int64.lt_iff_toInt_lt.mpr h))
  exact ⟨(if0 _ _).trans q.1, (if0 _ _).trans q.2.1⟩
theorem own_fltL {x y : Int64} (h : ¬ x.toInt < y.toInt) : ifCond.holds .lt (lcmpW x y) = false ∧ ifCond.holds .ge (lcmpW x y) = true := by
  have q := flt fun r => h (Int64.lt_iff_toInt_lt.mp ((lw_lt x y).mp r))
  exact ⟨(if0 _ _).trans q.1, (if0 _ _).trans q.2.1⟩
theorem own_tgtL {x y : Int64} (h : y.toInt < x.toInt) : ifCond.holds .gt (lcmpW x y) = true ∧ ifCond.holds .le (lcmpW x y) = false := by
  have q := tlt ((lw_gt x y).mpr (Int64.lt_iff_toInt_lt.mpr h))
  exact ⟨(if0 _ _).trans q.2.2.1, (if0 _ _).trans q.2.2.2⟩
theorem own_fgtL {x y : Int64} (h : ¬ y.toInt < x.toInt) : ifCond.holds .gt (lcmpW x y) = false ∧ ifCond.holds .le (lcmpW x y) = true := by
  have q := flt fun r => h (Int64.lt_iff_toInt_lt.mp ((lw_gt x y).mp r))
  exact ⟨(if0 _ _).trans q.2.2.1, (if0 _ _).trans q.2.2.2⟩
theorem own_teqL {x y : Int64} (h : x.toInt = y.toInt) : ifCond.holds .eq (lcmpW x y) = true ∧ ifCond.holds .ne (lcmpW x y) = false := by
  have q := teq ((lw_eq x y).mpr (Int64.toInt_inj.mp h))
  exact ⟨(if0 _ _).trans q.1, (if0 _ _).trans q.2⟩
theorem own_feqL {x y : Int64} (h : ¬ x.toInt = y.toInt) : ifCond.holds .eq (lcmpW x y) = false ∧ ifCond.holds .ne (lcmpW x y) = true := by
  have q := feq fun r => h (congrArg _ ((lw_eq x y).mp r))
  exact ⟨(if0 _ _).trans q.1, (if0 _ _).trans q.2⟩
/-- an array by its length and what each place holds -/
def own_A (Z : State) (h : Heap) (a : Addr) (ty : FieldType) (n : Int32) (f : Nat → Value) : Prop := ∃ cl : Cell, Arr Z h a cl ty ∧ cl.slots.size = n.toNatClampNeg ∧ 0 ≤ n.toInt ∧ (∀ i, i < cl.slots.size → cl.slots[i]? = some (f i)) ∧ ∀ i, i < cl.slots.size → fits ty (f i) = true
theorem own_cl {n : Int32} : n.toNatClampNeg = n.toInt.toNat := rfl
theorem own_nneg {n : Int32} (h : 0 ≤ n.toInt) : ¬ n < 0 := fun q => by
  have q := Int32.lt_iff_toInt_lt.mp q
  have : (0 : Int32).toInt = 0 := rfl
  omega
theorem own_in {cl : Cell} {n j : Int32} (hs : cl.slots.size = n.toNatClampNeg) (h0 : 0 ≤ j.toInt) (h1 : j.toInt < n.toInt) : ¬ (j < 0 ∨ cl.slots.size ≤ j.toNatClampNeg) := by
  rintro (q | q)
  · exact own_nneg h0 q
  · rw [hs, own_cl, own_cl] at q; omega
theorem own_ilt {cl : Cell} {n j : Int32} (hs : cl.slots.size = n.toNatClampNeg) (h0 : 0 ≤ j.toInt) (h1 : j.toInt < n.toInt) : j.toInt.toNat < cl.slots.size := by rw [hs, own_cl]; omega
section OwnArr
variable {h h' : Heap} {a b : Addr} {ty : FieldType} {n : Int32} {f g : Nat → Value} {sl : Nat} {v : Value} {ws : List Addr}
theorem own_A.lt (F : own_A Z h a ty n f) : a < h.size := by obtain ⟨c, A, -⟩ := F; exact A.lt
theorem own_A.ext (F : own_A Z h a ty n f) (E : Ext h h') : own_A Z h' a ty n f := by obtain ⟨c, A, r⟩ := F; exact ⟨c, A.ext E, r⟩
theorem own_A.other (F : own_A Z h b ty n f) (W : Wr h h' a sl v) (q : b ≠ a) : own_A Z h' b ty n f := by obtain ⟨c, A, r⟩ := F; exact ⟨c, A.other W q, r⟩
theorem own_A.keep (F : own_A Z h a ty n f) (K : Keep h h' ws) (q : a ∉ ws) : own_A Z h' a ty n f := by obtain ⟨c, A, r⟩ := F; exact ⟨c, ⟨K.2.1 a c A.1 q, A.2⟩, r⟩
theorem own_A.congr (F : own_A Z h a ty n f) (q : ∀ i : Nat, (i : Int) < n.toInt → f i = g i) : own_A Z h a ty n g := by
  obtain ⟨c, A, hs, h0, H, G⟩ := F
  have t : ∀ i, i < c.slots.size → f i = g i := fun i hi => q i (by rw [hs, own_cl] at hi; omega)
  exact ⟨c, A, hs, h0, fun i hi => by rw [← t i hi]; exact H i hi, fun i hi => by rw [← t i hi]; exact G i hi⟩
theorem own_A.new {k : ClassId} (A : Arr Z h a (newA k ty n) ty) (q : 0 ≤ n.toInt) (hd : fits ty (defaultValue ty) = true) : own_A Z h a ty n (fun _ => defaultValue ty) :=
  ⟨_, A, sz_new _ _ _, q, fun i hi => by
    rw [sz_new] at hi
    simp [newA, hi], fun _ _ => hd⟩
theorem own_A.setN {cl : Cell} (A : Arr Z h a cl ty) (hs : cl.slots.size = n.toNatClampNeg) (h0 : 0 ≤ n.toInt) (H : ∀ i, i < cl.slots.size → cl.slots[i]? = some (f i)) (G : ∀ i, i < cl.slots.size → fits ty (f i) = true) (hv : fits ty v = true) {j : Nat} (W : Wr h h' a j v) (hj : j < cl.slots.size) :
    own_A Z h' a ty n (fun i => if i = j then v else f i) := by
  refine ⟨_, A.same W, by rw [sz_set]; exact hs, h0, fun i hi => ?_, fun i hi => ?_⟩
  · rw [sz_set] at hi
    by_cases e : i = j
    · subst e; simp [Cell.setSlot, hj]
    · have : j ≠ i := fun q => e q.symm
      simp [Cell.setSlot, e, this, H i hi]
  · rw [sz_set] at hi
    by_cases e : i = j
    · simp [e, hv]
    · simp [e, G i hi]
theorem own_A.set {cl : Cell} (A : Arr Z h a cl ty) (hs : cl.slots.size = n.toNatClampNeg) (h0 : 0 ≤ n.toInt) (H : ∀ i, i < cl.slots.size → cl.slots[i]? = some (f i)) (G : ∀ i, i < cl.slots.size → fits ty (f i) = true) (hv : fits ty v = true) {j : Int32} (W : Wr h h' a j.toNatClampNeg v) (hj : j.toInt.toNat < cl.slots.size) :
    own_A Z h' a ty n (fun i => if i = j.toInt.toNat then v else f i) := own_A.setN A hs h0 H G hv (j := j.toInt.toNat) W hj
end OwnArr
theorem own_A.int {h : Heap} {a : Addr} {n j : Int32} {f : Nat → Value} (F : own_A Z h a .int n f) (h0 : 0 ≤ j.toInt) (h1 : j.toInt < n.toInt) : ∃ z : Int32, f j.toInt.toNat = .int z := by
  obtain ⟨c, A, hs, hn, H, G⟩ := F
  exact fit_I (G _ (own_ilt hs h0 h1)) (Or.inl rfl)
theorem own_newarr (X : Stand p l e R s m args below meth c T locs cells slots) (hx : p.tables.exec = Jvm.exec) (hZ : Z.Warmed39 s.vm) {aty : ArrayType} (w : (Jvm.Cond.arrayClass (newarray.typeOf aty)).before a0 Z = true) (eT : T.heap = h) {pc : Nat} {Ls : Array Slot} (hd : decode c.code pc = .ok (.newarray aty, 2)) {n : Int32} {rest : List Value}
    (hn : 0 ≤ n.toInt) {cap : Nat} (hcap : n.toInt ≤ cap) (hb : cap * 8 ≤ 536870912) (hc : cells + 1 ≤ R.cells) (hl : slots + cap ≤ R.slots) (hf : fits (newarray.typeOf aty) (defaultValue (newarray.typeOf aty)) = true)
    (k : ∀ (T' : State) (h' : Heap) (a : Addr), a = h.size → Stand p l e R s m args below meth c T' locs (cells + 1) (slots + cap) → T'.heap = h' → Ext h h' → own_A Z h' a (newarray.typeOf aty) n (fun _ => defaultValue (newarray.typeOf aty)) → Go p e below s kc ks Q T' (mkF m (pc + 2) Ls (.ref a :: rest))) :
    Go p e below s kc ks Q T (mkF m pc Ls (.int n :: rest)) := by
  obtain ⟨T', h', cA, X', e', E', A', st⟩ := newP X hx hZ w eT (g := mkF m pc Ls (.int n :: rest)) rfl hd rfl (own_nneg hn) (cap := cap) (by rw [own_cl]; omega) hb hc hl
  exact own_st st (k T' h' _ rfl X' e' E' (own_A.new A' hn hf))
theorem own_alen (X : Stand p l e R s m args below meth c T locs cells slots) (hx : p.tables.exec = Jvm.exec) (hZ : Z.Warmed39 s.vm) (eT : T.heap = h) {a : Addr} {ty : FieldType} {n : Int32} {f : Nat → Value} (A : own_A Z h a ty n f) {pc : Nat} {Ls : Array Slot} {rest : List Value} (hd : decode c.code pc = .ok (.arraylength, 1))
    (k : Go p e below s kc ks Q T (mkF m (pc + 1) Ls (.int n :: rest))) : Go p e below s kc ks Q T (mkF m pc Ls (.ref a :: rest)) := by
  obtain ⟨cl, Ar, hs, h0, -, -⟩ := A
  rw [← len_of hs (own_nneg h0)] at k
  exact own_st (fun t q => X.arraylength hx (by rw [eT]; exact Ar.1) (State.isArrayOf_alike hZ.alike Ar.2.1) (g := mkF m pc Ls (.ref a :: rest)) rfl rfl hd t q) k
theorem own_iaload (X : Stand p l e R s m args below meth c T locs cells slots) (hx : p.tables.exec = Jvm.exec) (hZ : Z.Warmed39 s.vm) (eT : T.heap = h) {a : Addr} {n j : Int32} {f : Nat → Value} {v : Value} (A : own_A Z h a .int n f) (h0 : 0 ≤ j.toInt) (h1 : j.toInt < n.toInt) (hv : f j.toInt.toNat = v) {pc : Nat} {Ls : Array Slot} {rest : List Value} (hd : decode c.code pc = .ok (.iaload, 1))
    (k : Go p e below s kc ks Q T (mkF m (pc + 1) Ls (v :: rest))) : Go p e below s kc ks Q T (mkF m pc Ls (.int j :: .ref a :: rest)) := by
  obtain ⟨cl, Ar, hs, hn, H, -⟩ := A
  exact own_st (fun t q => X.iaload hx (j := j) (v := v) (by rw [eT]; exact Ar.1) (State.isArrayOf_alike hZ.alike Ar.2.1) Ar.2.2 (own_in hs h0 h1) (hv ▸ H _ (own_ilt hs h0 h1)) (g := mkF m pc Ls (.int j :: .ref a :: rest)) rfl rfl hd t q) k
theorem own_laload (X : Stand p l e R s m args below meth c T locs cells slots) (hx : p.tables.exec = Jvm.exec) (hZ : Z.Warmed39 s.vm) (eT : T.heap = h) {a : Addr} {n j : Int32} {f : Nat → Value} {v : Value} (A : own_A Z h a .long n f) (h0 : 0 ≤ j.toInt) (h1 : j.toInt < n.toInt) (hv : f j.toInt.toNat = v) {pc : Nat} {Ls : Array Slot} {rest : List Value} (hd : decode c.code pc = .ok (.laload, 1))
    (k : Go p e below s kc ks Q T (mkF m (pc + 1) Ls (v :: rest))) : Go p e below s kc ks Q T (mkF m pc Ls (.int j :: .ref a :: rest)) := by
  obtain ⟨cl, Ar, hs, hn, H, -⟩ := A
  exact own_st (fun t q => X.laload hx (j := j) (v := v) (by rw [eT]; exact Ar.1) (State.isArrayOf_alike hZ.alike Ar.2.1) Ar.2.2 (own_in hs h0 h1) (hv ▸ H _ (own_ilt hs h0 h1)) (g := mkF m pc Ls (.int j :: .ref a :: rest)) rfl rfl hd t q) k
theorem own_caload (X : Stand p l e R s m args below meth c T locs cells slots) (hx : p.tables.exec = Jvm.exec) (hZ : Z.Warmed39 s.vm) (eT : T.heap = h) {a : Addr} {n j : Int32} {f : Nat → Value} {v : Value} (A : own_A Z h a .char n f) (h0 : 0 ≤ j.toInt) (h1 : j.toInt < n.toInt) (hv : f j.toInt.toNat = v) {pc : Nat} {Ls : Array Slot} {rest : List Value} (hd : decode c.code pc = .ok (.caload, 1))
    (k : Go p e below s kc ks Q T (mkF m (pc + 1) Ls (v :: rest))) : Go p e below s kc ks Q T (mkF m pc Ls (.int j :: .ref a :: rest)) := by
  obtain ⟨cl, Ar, hs, hn, H, -⟩ := A
  exact own_st (fun t q => X.caload hx (j := j) (v := v) (by rw [eT]; exact Ar.1) (State.isArrayOf_alike hZ.alike Ar.2.1) Ar.2.2 (own_in hs h0 h1) (hv ▸ H _ (own_ilt hs h0 h1)) (g := mkF m pc Ls (.int j :: .ref a :: rest)) rfl rfl hd t q) k
theorem own_baload (X : Stand p l e R s m args below meth c T locs cells slots) (hx : p.tables.exec = Jvm.exec) (hZ : Z.Warmed39 s.vm) (eT : T.heap = h) {a : Addr} {n j : Int32} {f : Nat → Value} {v : Value} (A : own_A Z h a .byte n f) (h0 : 0 ≤ j.toInt) (h1 : j.toInt < n.toInt) (hv : f j.toInt.toNat = v) {pc : Nat} {Ls : Array Slot} {rest : List Value} (hd : decode c.code pc = .ok (.baload, 1))
    (k : Go p e below s kc ks Q T (mkF m (pc + 1) Ls (v :: rest))) : Go p e below s kc ks Q T (mkF m pc Ls (.int j :: .ref a :: rest)) := by
  obtain ⟨cl, Ar, hs, hn, H, -⟩ := A
  exact own_st (fun t q => X.baloadBytes hx (j := j) (v := v) (by rw [eT]; exact Ar.1) (State.isArrayOf_alike hZ.alike Ar.2.1) Ar.2.2 (own_in hs h0 h1) (hv ▸ H _ (own_ilt hs h0 h1)) (g := mkF m pc Ls (.int j :: .ref a :: rest)) rfl rfl hd t q) k
theorem own_zaload (X : Stand p l e R s m args below meth c T locs cells slots) (hx : p.tables.exec = Jvm.exec) (hZ : Z.Warmed39 s.vm) (eT : T.heap = h) {a : Addr} {n j : Int32} {f : Nat → Value} {v : Value} (A : own_A Z h a .boolean n f) (h0 : 0 ≤ j.toInt) (h1 : j.toInt < n.toInt) (hv : f j.toInt.toNat = v) {pc : Nat} {Ls : Array Slot} {rest : List Value} (hd : decode c.code pc = .ok (.baload, 1))
    (k : Go p e below s kc ks Q T (mkF m (pc + 1) Ls (v :: rest))) : Go p e below s kc ks Q T (mkF m pc Ls (.int j :: .ref a :: rest)) := by
  obtain ⟨cl, Ar, hs, hn, H, -⟩ := A
  exact own_st (fun t q => X.baloadBooleans hx (j := j) (v := v) (by rw [eT]; exact Ar.1) (State.isArrayOf_alike hZ.alike Ar.2.1) Ar.2.2 (own_in hs h0 h1) (hv ▸ H _ (own_ilt hs h0 h1)) (g := mkF m pc Ls (.int j :: .ref a :: rest)) rfl rfl hd t q) k
theorem own_aaload (X : Stand p l e R s m args below meth c T locs cells slots) (hx : p.tables.exec = Jvm.exec) (hZ : Z.Warmed39 s.vm) (eT : T.heap = h) {a : Addr} {ty : FieldType} {n j : Int32} {f : Nat → Value} {v : Value} (A : own_A Z h a ty n f) (hty : ty.isReference = true) (h0 : 0 ≤ j.toInt) (h1 : j.toInt < n.toInt) (hv : f j.toInt.toNat = v) {pc : Nat} {Ls : Array Slot} {rest : List Value} (hd : decode c.code pc = .ok (.aaload, 1))
    (k : Go p e below s kc ks Q T (mkF m (pc + 1) Ls (v :: rest))) : Go p e below s kc ks Q T (mkF m pc Ls (.int j :: .ref a :: rest)) := by
  obtain ⟨cl, Ar, hs, hn, H, -⟩ := A
  exact own_st (fun t q => X.aaload hx (j := j) (v := v) (by rw [eT]; exact Ar.1) (State.isArrayOf_alike hZ.alike Ar.2.1) hty Ar.2.2 (own_in hs h0 h1) (hv ▸ H _ (own_ilt hs h0 h1)) (g := mkF m pc Ls (.int j :: .ref a :: rest)) rfl rfl hd t q) k
theorem own_iastore (X : Stand p l e R s m args below meth c T locs cells slots) (hx : p.tables.exec = Jvm.exec) (hZ : Z.Warmed39 s.vm) (eT : T.heap = h) {a : Addr} {n j : Int32} {f : Nat → Value} {x : Int32} (A : own_A Z h a .int n f) (h0 : 0 ≤ j.toInt) (h1 : j.toInt < n.toInt) {pc : Nat} {Ls : Array Slot} {rest : List Value} (hd : decode c.code pc = .ok (.iastore, 1))
    (k : ∀ (T' : State) (h' : Heap), Stand p l e R s m args below meth c T' (locs ++ [⟨a, j.toNatClampNeg⟩]) cells slots → T'.heap = h' → Wr h h' a j.toNatClampNeg (.int x) → own_A Z h' a .int n (fun i => if i = j.toInt.toNat then (.int x) else f i) → Go p e below s kc ks Q T' (mkF m (pc + 1) Ls rest)) : Go p e below s kc ks Q T (mkF m pc Ls (.int x :: .int j :: .ref a :: rest)) := by
  obtain ⟨cl, Ar, hs, hn, H, G⟩ := A
  obtain ⟨T', h', X', e', W', st⟩ := stI X hx hZ eT Ar (j := j) (x := x) (own_in hs h0 h1) (g := mkF m pc Ls (.int x :: .int j :: .ref a :: rest)) rfl rfl hd
  exact own_st st (k T' h' X' e' W' (own_A.set Ar hs hn H G rfl W' (own_ilt hs h0 h1)))
theorem own_lastore (X : Stand p l e R s m args below meth c T locs cells slots) (hx : p.tables.exec = Jvm.exec) (hZ : Z.Warmed39 s.vm) (eT : T.heap = h) {a : Addr} {n j : Int32} {f : Nat → Value} {x : Int64} (A : own_A Z h a .long n f) (h0 : 0 ≤ j.toInt) (h1 : j.toInt < n.toInt) {pc : Nat} {Ls : Array Slot} {rest : List Value} (hd : decode c.code pc = .ok (.lastore, 1))
    (k : ∀ (T' : State) (h' : Heap), Stand p l e R s m args below meth c T' (locs ++ [⟨a, j.toNatClampNeg⟩]) cells slots → T'.heap = h' → Wr h h' a j.toNatClampNeg (.long x) → own_A Z h' a .long n (fun i => if i = j.toInt.toNat then (.long x) else f i) → Go p e below s kc ks Q T' (mkF m (pc + 1) Ls rest)) : Go p e below s kc ks Q T (mkF m pc Ls (.long x :: .int j :: .ref a :: rest)) := by
  obtain ⟨cl, Ar, hs, hn, H, G⟩ := A
  obtain ⟨T', h', X', e', W', st⟩ := stJ X hx hZ eT Ar (j := j) (x := x) (own_in hs h0 h1) (g := mkF m pc Ls (.long x :: .int j :: .ref a :: rest)) rfl rfl hd
  exact own_st st (k T' h' X' e' W' (own_A.set Ar hs hn H G rfl W' (own_ilt hs h0 h1)))
theorem own_bastore (X : Stand p l e R s m args below meth c T locs cells slots) (hx : p.tables.exec = Jvm.exec) (hZ : Z.Warmed39 s.vm) (eT : T.heap = h) {a : Addr} {n j : Int32} {f : Nat → Value} {x : Int32} (A : own_A Z h a .byte n f) (h0 : 0 ≤ j.toInt) (h1 : j.toInt < n.toInt) {pc : Nat} {Ls : Array Slot} {rest : List Value} (hd : decode c.code pc = .ok (.bastore, 1))
    (k : ∀ (T' : State) (h' : Heap), Stand p l e R s m args below meth c T' (locs ++ [⟨a, j.toNatClampNeg⟩]) cells slots → T'.heap = h' → Wr h h' a j.toNatClampNeg (.int (nar .byte x)) → own_A Z h' a .byte n (fun i => if i = j.toInt.toNat then (.int (nar .byte x)) else f i) → Go p e below s kc ks Q T' (mkF m (pc + 1) Ls rest)) : Go p e below s kc ks Q T (mkF m pc Ls (.int x :: .int j :: .ref a :: rest)) := by
  obtain ⟨cl, Ar, hs, hn, H, G⟩ := A
  obtain ⟨T', h', X', e', W', st⟩ := stB X hx hZ eT Ar (j := j) (x := x) (own_in hs h0 h1) (g := mkF m pc Ls (.int x :: .int j :: .ref a :: rest)) rfl rfl hd
  exact own_st st (k T' h' X' e' W' (own_A.set Ar hs hn H G (fits_nar_byte x) W' (own_ilt hs h0 h1)))
theorem own_castore (X : Stand p l e R s m args below meth c T locs cells slots) (hx : p.tables.exec = Jvm.exec) (hZ : Z.Warmed39 s.vm) (eT : T.heap = h) {a : Addr} {n j : Int32} {f : Nat → Value} {x : Int32} (A : own_A Z h a .char n f) (h0 : 0 ≤ j.toInt) (h1 : j.toInt < n.toInt) {pc : Nat} {Ls : Array Slot} {rest : List Value} (hd : decode c.code pc = .ok (.castore, 1))
    (k : ∀ (T' : State) (h' : Heap), Stand p l e R s m args below meth c T' (locs ++ [⟨a, j.toNatClampNeg⟩]) cells slots → T'.heap = h' → Wr h h' a j.toNatClampNeg (.int (nar .char x)) → own_A Z h' a .char n (fun i => if i = j.toInt.toNat then (.int (nar .char x)) else f i) → Go p e below s kc ks Q T' (mkF m (pc + 1) Ls rest)) : Go p e below s kc ks Q T (mkF m pc Ls (.int x :: .int j :: .ref a :: rest)) := by
  obtain ⟨cl, Ar, hs, hn, H, G⟩ := A
  obtain ⟨T', h', X', e', W', st⟩ := stC X hx hZ eT Ar (j := j) (x := x) (own_in hs h0 h1) (g := mkF m pc Ls (.int x :: .int j :: .ref a :: rest)) rfl rfl hd
  exact own_st st (k T' h' X' e' W' (own_A.set Ar hs hn H G (fits_nar_char x) W' (own_ilt hs h0 h1)))
theorem own_zastore (X : Stand p l e R s m args below meth c T locs cells slots) (hx : p.tables.exec = Jvm.exec) (hZ : Z.Warmed39 s.vm) (eT : T.heap = h) {a : Addr} {n j : Int32} {f : Nat → Value} {x : Int32} (A : own_A Z h a .boolean n f) (h0 : 0 ≤ j.toInt) (h1 : j.toInt < n.toInt) {pc : Nat} {Ls : Array Slot} {rest : List Value} (hd : decode c.code pc = .ok (.bastore, 1))
    (k : ∀ (T' : State) (h' : Heap), Stand p l e R s m args below meth c T' (locs ++ [⟨a, j.toNatClampNeg⟩]) cells slots → T'.heap = h' → Wr h h' a j.toNatClampNeg (.int (nar .boolean x)) → own_A Z h' a .boolean n (fun i => if i = j.toInt.toNat then (.int (nar .boolean x)) else f i) → Go p e below s kc ks Q T' (mkF m (pc + 1) Ls rest)) : Go p e below s kc ks Q T (mkF m pc Ls (.int x :: .int j :: .ref a :: rest)) := by
  obtain ⟨cl, Ar, hs, hn, H, G⟩ := A
  obtain ⟨T', h', X', e', W', st⟩ := stZ X hx hZ eT Ar (j := j) (x := x) (own_in hs h0 h1) (g := mkF m pc Ls (.int x :: .int j :: .ref a :: rest)) rfl rfl hd
  exact own_st st (k T' h' X' e' W' (own_A.set Ar hs hn H G (fits_nar_bool x) W' (own_ilt hs h0 h1)))
theorem own_eqv {args : Array Value} {s : State} {t : Term} {k : Int32} (h : (Jvm.Cond.eq t (.int k)).value args s none s [] = some true) : t.eval args s none [] s = some (.int k) := by
  simp only [Cond.value, Term.eval] at h
  cases e : t.eval args s none [] s with
  | none => simp [e] at h
  | some v => cases v <;> simp [e] at h; exact congrArg _ (congrArg _ h)
theorem own_fldeq {args : Array Value} {s : State} {t : Term} {x : Addr} {C n d : String} {k : Int32} (ht : t.eval args s none [] s = some (.ref x)) (h : (Jvm.Cond.eq (.field t C n d) (.int k)).value args s none s [] = some true) : Fld s s.heap x C n d (.int k) :=
  Fld.start ((fld_at ht).symm.trans (own_eqv h))
/-- the array at a is one of C's -/
def own_O (Z : State) (h : Heap) (a : Addr) (C : String) : Prop := ∃ cl : Cell, h[a]? = some cl ∧ Ovr Z cl.cls C
theorem own_O.ext {h h' : Heap} {a : Addr} {C : String} (F : own_O Z h a C) (E : Ext h h') : own_O Z h' a C := by obtain ⟨c, A, r⟩ := F; exact ⟨c, E.2 _ _ A, r⟩
theorem own_O.wr {h h' : Heap} {a b : Addr} {C : String} {sl : Nat} {v : Value} (F : own_O Z h a C) (W : Wr h h' b sl v) : own_O Z h' a C := by
  obtain ⟨c, A, r⟩ := F
  obtain ⟨c', e1, e2, -⟩ := wr_at W A
  exact ⟨c', e1, by rw [e2]; exact r⟩
theorem own_newarrR (X : Stand p l e R s m args below meth c T locs cells slots) (hx : p.tables.exec = Jvm.exec) (hZ : Z.Warmed39 s.vm) {own C : String} {index : Nat} (hown : s.vm.findClass own = some m.cls) (w1 : (Jvm.Cond.classLink own index C).before a0 Z = true) (w2 : (Jvm.Cond.arrayOver (.object C)).before a0 Z = true) (eT : T.heap = h) {pc : Nat} {Ls : Array Slot} (hd : decode c.code pc = .ok (.anewarray index, 3)) {n : Int32} {rest : List Value}
    (hn : 0 ≤ n.toInt) {cap : Nat} (hcap : n.toInt ≤ cap) (hb : cap * 8 ≤ 536870912) (hc : cells + 1 ≤ R.cells) (hl : slots + cap ≤ R.slots)
    (k : ∀ (T' : State) (h' : Heap) (a : Addr), a = h.size → Stand p l e R s m args below meth c T' locs (cells + 1) (slots + cap) → T'.heap = h' → Ext h h' → own_A Z h' a (.object C) n (fun _ => .null) → own_O Z h' a C → Go p e below s kc ks Q T' (mkF m (pc + 3) Ls (.ref a :: rest))) :
    Go p e below s kc ks Q T (mkF m pc Ls (.int n :: rest)) := by
  obtain ⟨T', h', cA, X', e', E', A', O', st⟩ := newR X hx hZ hown w1 w2 eT (g := mkF m pc Ls (.int n :: rest)) rfl hd rfl (own_nneg hn) (cap := cap) (by rw [own_cl]; omega) hb hc hl
  exact own_st st (k T' h' _ rfl X' e' E' (own_A.new A' hn rfl) ⟨_, A'.1, O'⟩)
theorem own_aastore (X : Stand p l e R s m args below meth c T locs cells slots) (hx : p.tables.exec = Jvm.exec) (hZ : Z.Warmed39 s.vm) (eT : T.heap = h) {a y : Addr} {n j : Int32} {f : Nat → Value} {C : String} (A : own_A Z h a (.object C) n f) (O : own_O Z h a C) (I : Ins Z h y C true) (h0 : 0 ≤ j.toInt) (h1 : j.toInt < n.toInt) {pc : Nat} {Ls : Array Slot} {rest : List Value} (hd : decode c.code pc = .ok (.aastore, 1))
    (k : ∀ (T' : State) (h' : Heap), Stand p l e R s m args below meth c T' (locs ++ [⟨a, j.toNatClampNeg⟩]) cells slots → T'.heap = h' → Wr h h' a j.toNatClampNeg (.ref y) → own_A Z h' a (.object C) n (fun i => if i = j.toInt.toNat then .ref y else f i) → Go p e below s kc ks Q T' (mkF m (pc + 1) Ls rest)) : Go p e below s kc ks Q T (mkF m pc Ls (.ref y :: .int j :: .ref a :: rest)) := by
  obtain ⟨cl, Ar, hs, hn, H, G⟩ := A
  obtain ⟨cl', o1, o2⟩ := O
  cases Ar.1.symm.trans o1
  obtain ⟨T', h', X', e', W', st⟩ := stR X hx hZ eT Ar (j := j) (v := .ref y) (own_in hs h0 h1) rfl (Sto.of Ar o2 I) (g := mkF m pc Ls (.ref y :: .int j :: .ref a :: rest)) rfl rfl hd
  exact own_st st (k T' h' X' e' W' (own_A.set Ar hs hn H G rfl W' (own_ilt hs h0 h1)))
theorem own_sk0 {h h' : Heap} {C n d : String} {v : Value} (F : Sta Z h C n d v) (K : Keep h h' []) : Sta Z h' C n d v := by
  obtain ⟨cf, i, k, f, st, cell, h1, h2, h3, h4, h5, r⟩ := F
  exact ⟨cf, i, k, f, st, cell, h1, h2, h3, h4, K.2.1 _ _ h5 nin0, r⟩
theorem own_sk1 {h h' : Heap} {a : Addr} {C n d D : String} {v : Value} (F : Sta Z h C n d v) (K : Keep h h' [a]) (E : Exa Z h a D) : Sta Z h' C n d v := by
  obtain ⟨cf, i, k, f, st, cell, h1, h2, h3, h4, h5, h6, h7⟩ := F
  obtain ⟨c2, k2, e1, e2, e3, e4, e5⟩ := E
  have ne : st ≠ a := fun q => by
    subst q
    cases h5.symm.trans e1
    rw [e4] at h6; cases h6
  exact ⟨cf, i, k, f, st, cell, h1, h2, h3, h4, K.2.1 _ _ h5 (ninS ne nin0), h6, h7⟩
/-- each of the first n places holds an object of class D -/
def own_IC (Z : State) (h : Heap) (D : String) (n : Nat) (f : Nat → Value) : Prop := ∀ i, i < n → ∃ b : Addr, f i = .ref b ∧ Exa Z h b D
theorem own_IC.ext {h h' : Heap} {D : String} {n : Nat} {f : Nat → Value} (F : own_IC Z h D n f) (E : Ext h h') : own_IC Z h' D n f := fun i hi => by obtain ⟨b, e1, e2⟩ := F i hi; exact ⟨b, e1, e2.ext E⟩
theorem own_IC.wr {h h' : Heap} {D : String} {n : Nat} {f : Nat → Value} {a : Addr} {sl : Nat} {v : Value} (F : own_IC Z h D n f) (W : Wr h h' a sl v) : own_IC Z h' D n f := fun i hi => by obtain ⟨b, e1, e2⟩ := F i hi; exact ⟨b, e1, Exa.wr W e2⟩
theorem own_IC.keep {h h' : Heap} {D : String} {n : Nat} {f : Nat → Value} {ws : List Addr} (F : own_IC Z h D n f) (K : Keep h h' ws) : own_IC Z h' D n f := fun i hi => by obtain ⟨b, e1, e2⟩ := F i hi; exact ⟨b, e1, e2.keep K⟩
/-- an object of class D is no K -/
theorem own_notIns {h : Heap} {b : Addr} {D K : String} {t : List String} {kk : Nat} (E : Exa Z h b D) (hw : ∀ w ∈ Cond.chainWords (D :: t), w.before a0 Z = true) (wi : (Jvm.Cond.instantiable K kk).before a0 Z = true) (hn : K ∉ D :: t) : Ins Z h b K false := by
  obtain ⟨cell, k, e1, e2, e3, e4, e5⟩ := E
  obtain ⟨cK, kK, i1, i2, i3, i4⟩ := Cond.instantiable_spec wi
  refine ⟨cell, cK, e1, i1, ?_⟩
  rw [Vm.notAssignable_of_chain e2 i1 i2 i3 (by simpa using (Bool.or_eq_false_iff.mp i4.1).1) hw hn]
  simp
theorem own_cache {s : State} {args : Array Value} {t : Term} {a : Addr} {K : String} {B : Jvm.Cond} (et : ∀ idx, t.eval args s none idx s = some (.ref a)) (hA : (Jvm.Cond.arrayOf t (.object K)).value args s none s [] = some true) (hL : (Jvm.Cond.eq (.length t) (.int 256)).value args s none s [] = some true)
    (h : (Jvm.Cond.all t (.and (.exactly (.elem t (.index 0)) K) B)).value args s none s [] = some true) : ∃ fc, own_A s s.heap a (.object K) 256 fc ∧ own_IC s s.heap K 256 fc := by
  obtain ⟨cl, A⟩ := Arr.start (et []) hA
  have ha := A.fin (Vm.Alike.refl _)
  have hl := own_eqv hL
  have hsz : cl.slots.size = 256 := by
    by_cases q : cl.slots.size < 2 ^ 31
    · rw [len_f (et []) ha q] at hl
      have e := congrArg Int32.toInt (Value.int.inj (Option.some.inj hl))
      rw [len_toInt q] at e
      have k : (256 : Int32).toInt = 256 := rfl
      omega
    · simp [Term.eval, et [], ha, q] at hl
  have hel : ∀ i, i < cl.slots.size → ∃ b : Addr, cl.slots[i]? = some (.ref b) ∧ Exa s s.heap b K := fun i hi => by
    have hj : ¬ i.toInt32 < 0 := fun z => (idx_in hi (by omega)) (Or.inl z)
    have hc : i.toInt32.toNatClampNeg = i := by
      rw [own_cl, len_toInt (by omega)]; rfl
    obtain ⟨u1, u2⟩ := and_e (Cond.all_elim (et []) ha h i hi)
    obtain ⟨b, eb⟩ := exa_v u1
    refine ⟨b, ?_, exa_at eb u1⟩
    have q := (elem_f (idx := [i]) (a := .index 0) (j := i.toInt32) (et _) (by have := idx_at (args := args) (s := s) (first := s) (o := none) hj; rwa [hc] at this) ha hj).symm.trans eb
    rwa [hc] at q
  refine ⟨fun i => (cl.slots[i]?).getD .null, ⟨cl, A, by rw [hsz]; rfl, by decide, fun i hi => ?_, fun i hi => ?_⟩, fun i hi => ?_⟩
  · obtain ⟨b, e, -⟩ := hel i hi; simp [e]
  · obtain ⟨b, e, -⟩ := hel i hi; simp [e, fits]
  · obtain ⟨b, e, E⟩ := hel i (by omega); exact ⟨b, by simp [e], E⟩
end OwnKit
theorem d1_0 : decode prog_72_method_7_code 0 = .ok (.aload_n 0, 1) := by decide +kernel
theorem d1_1 : decode prog_72_method_7_code 1 = .ok (.getstatic 3, 3) := by decide +kernel
theorem d1_4 : decode prog_72_method_7_code 4 = .ok (.if_acmp .eq 28, 3) := by decide +kernel
theorem d1_7 : decode prog_72_method_7_code 7 = .ok (.aload_n 0, 1) := by decide +kernel
theorem d1_8 : decode prog_72_method_7_code 8 = .ok (.getstatic 28, 3) := by decide +kernel
theorem d1_11 : decode prog_72_method_7_code 11 = .ok (.if_acmp .eq 21, 3) := by decide +kernel
theorem d1_14 : decode prog_72_method_7_code 14 = .ok (.aload_n 0, 1) := by decide +kernel
theorem d1_15 : decode prog_72_method_7_code 15 = .ok (.getstatic 31, 3) := by decide +kernel
theorem d1_18 : decode prog_72_method_7_code 18 = .ok (.if_acmp .eq 14, 3) := by decide +kernel
theorem d1_21 : decode prog_72_method_7_code 21 = .ok (.aload_n 0, 1) := by decide +kernel
theorem d1_22 : decode prog_72_method_7_code 22 = .ok (.getstatic 34, 3) := by decide +kernel
theorem d1_25 : decode prog_72_method_7_code 25 = .ok (.if_acmp .eq 7, 3) := by decide +kernel
theorem d1_28 : decode prog_72_method_7_code 28 = .ok (.iconst 1, 1) := by decide +kernel
theorem d1_29 : decode prog_72_method_7_code 29 = .ok (.goto 4, 3) := by decide +kernel
theorem d1_32 : decode prog_72_method_7_code 32 = .ok (.iconst 0, 1) := by decide +kernel
theorem d1_33 : decode prog_72_method_7_code 33 = .ok (.ireturn, 1) := by decide +kernel
theorem pn_0 : plainName "com/example/precedence/precedence/xpath/Axis" = true := by first | (simp [plainName, overriddenIn]; done) | decide +kernel
theorem ef_ovl (m : MethodId) (a : Addr) : entryFrame m #[(.ref a)] 1 = mkF m 0 #[.val (.ref a)] [] := by first | (simp [entryFrame, mkF, argsToLocals, Value.category, maxLocals]; done) | rfl
def Q_ovl (Z : State) (a : Addr) (y0 : Addr) (y1 : Addr) (y2 : Addr) (y3 : Addr) (h0 : Heap) (n0 : Nat) : Option Value → Heap → List Loc → Prop := fun v h L => v = some (.int (if a = y0 ∨ a = y1 ∨ a = y2 ∨ a = y3 then 0 else 1)) ∧ Fr n0 L ∧ h = h0
set_option maxRecDepth 65536 in
set_option maxHeartbeats 40000000 in
theorem rm_ovl (l : Launch) (Z : State) (a0 : Array Value) (hw : ∀ d ∈ tables_1, d.before a0 Z = true) (ws : List Jvm.Cond) (a : Addr) (y0 : Addr) (y1 : Addr) (y2 : Addr) (y3 : Addr) (h0 : Heap) (n0 : Nat) (Z0 : n0 ≤ h0.size) (S0 : Sta Z h0 "com/example/precedence/precedence/xpath/Axis" "CHILD" "Lcom/example/precedence/precedence/xpath/Axis;" (.ref y0)) (S1 : Sta Z h0 "com/example/precedence/precedence/xpath/Axis" "ATTRIBUTE" "Lcom/example/precedence/precedence/xpath/Axis;" (.ref y1)) (S2 : Sta Z h0 "com/example/precedence/precedence/xpath/Axis" "NAMESPACE" "Lcom/example/precedence/precedence/xpath/Axis;" (.ref y2)) (S3 : Sta Z h0 "com/example/precedence/precedence/xpath/Axis" "SELF" "Lcom/example/precedence/precedence/xpath/Axis;" (.ref y3)) :
    MetFree l (⟨"com/example/precedence/precedence/xpath/Axis", "overlaps", "()Z"⟩ : MethodName) (head1 (Jvm.Cond.code (⟨"com/example/precedence/precedence/xpath/Axis", "overlaps", "()Z"⟩ : MethodName) prog_72_method_7_code 1 (some .boolean) :: ws) ({ frames := 0, cells := 0, slots := 0, locals := 0 } : Room)) (fun aX U => aX = #[(.ref a)] ∧ Z.Warmed39 U.vm ∧ U.heap = h0) (fun _ _ _ _ _ => True) (fun _ U o U' => ∃ v L, o = .returned v ∧ (Q_ovl Z a y0 y1 y2 y3 h0 n0) v U'.heap L ∧ FrameEnd U o U' L ({ frames := 0, cells := 0, slots := 0, locals := 0 } : Room).cells ({ frames := 0, cells := 0, slots := 0, locals := 0 } : Room).slots) := by
  refine own_met (Q := (Q_ovl Z a y0 y1 y2 y3 h0 n0)) (plainFor_of_name (x := (⟨"com/example/precedence/precedence/xpath/Axis", "overlaps", "()Z"⟩ : MethodName)) pn_0) (fun m => ef_ovl m a) ?_
  intro p e s m below meth cD s₁ hx hby hml hret hlk hZ hown hnm X0 e0 hs0
  have hown : s.vm.findClass "com/example/precedence/precedence/xpath/Axis" = some m.cls := hown
  have N0 := Fr.nil n0
  refine own_st (fr' := (mkF m 1 #[.val (.ref a)] [(.ref a)])) (fun t k => XS.aloadN X0.here hx rfl (hb hby d1_0) rfl rfl k) ?_
  obtain ⟨T1, X1, e1, st1⟩ := getS2 X0 hx hZ hown (host := "") (Or.inl (hw _ (List.mem_of_getElem? (i := 49) rfl))) Via.refl e0 S0 (g := (mkF m 1 #[.val (.ref a)] [(.ref a)])) rfl (hb hby d1_1)
  refine own_st (fr' := (mkF m 4 #[.val (.ref a)] [(.ref y0), (.ref a)])) st1 ?_
  by_cases hac0 : (Value.ref a) = (Value.ref y0)
  · refine own_st (fr' := (mkF m 32 #[.val (.ref a)] [])) (fun t k => Jvm.RoadKit.acmp (g := (mkF m 4 #[.val (.ref a)] [(.ref y0), (.ref a)])) X1 hx rfl rfl rfl (pc0 := 4) (pc' := 32) (same := true) rfl (hb hby d1_4) rfl (decide_eq_true hac0) (by decide) (by decide) k) ?_
    refine own_st (fr' := (mkF m 33 #[.val (.ref a)] [(.int (0 : Int32))])) (fun t k => XS.iconst X1.here hx rfl (hb hby d1_32) k) ?_
    have q : a = y0 := Value.ref.inj hac0
    exact own_retZ X1 hx hlk hret (Or.inl rfl) (hb hby d1_33) (by decide) (by decide) (⟨by rw [if_pos (by simp [q])], N0, e1⟩)
  · refine own_st (fr' := (mkF m 7 #[.val (.ref a)] [])) (fun t k => Jvm.RoadKit.acmp (g := (mkF m 4 #[.val (.ref a)] [(.ref y0), (.ref a)])) X1 hx rfl rfl rfl (pc0 := 4) (pc' := 7) (same := false) rfl (hb hby d1_4) rfl (decide_eq_false hac0) (by decide) (by decide) k) ?_
    have nq0 : ¬ a = y0 := fun q => hac0 (congrArg Value.ref q)
    refine own_st (fr' := (mkF m 8 #[.val (.ref a)] [(.ref a)])) (fun t k => XS.aloadN X1.here hx rfl (hb hby d1_7) rfl rfl k) ?_
    obtain ⟨T2, X2, e2, st2⟩ := getS2 X1 hx hZ hown (host := "") (Or.inl (hw _ (List.mem_of_getElem? (i := 58) rfl))) Via.refl e1 S1 (g := (mkF m 8 #[.val (.ref a)] [(.ref a)])) rfl (hb hby d1_8)
    refine own_st (fr' := (mkF m 11 #[.val (.ref a)] [(.ref y1), (.ref a)])) st2 ?_
    by_cases hac1 : (Value.ref a) = (Value.ref y1)
    · refine own_st (fr' := (mkF m 32 #[.val (.ref a)] [])) (fun t k => Jvm.RoadKit.acmp (g := (mkF m 11 #[.val (.ref a)] [(.ref y1), (.ref a)])) X2 hx rfl rfl rfl (pc0 := 11) (pc' := 32) (same := true) rfl (hb hby d1_11) rfl (decide_eq_true hac1) (by decide) (by decide) k) ?_
      refine own_st (fr' := (mkF m 33 #[.val (.ref a)] [(.int (0 : Int32))])) (fun t k => XS.iconst X2.here hx rfl (hb hby d1_32) k) ?_
      have q : a = y1 := Value.ref.inj hac1
      exact own_retZ X2 hx hlk hret (Or.inl rfl) (hb hby d1_33) (by decide) (by decide) (⟨by rw [if_pos (by simp [q])], N0, e2⟩)
    · refine own_st (fr' := (mkF m 14 #[.val (.ref a)] [])) (fun t k => Jvm.RoadKit.acmp (g := (mkF m 11 #[.val (.ref a)] [(.ref y1), (.ref a)])) X2 hx rfl rfl rfl (pc0 := 11) (pc' := 14) (same := false) rfl (hb hby d1_11) rfl (decide_eq_false hac1) (by decide) (by decide) k) ?_
      have nq1 : ¬ a = y1 := fun q => hac1 (congrArg Value.ref q)
      refine own_st (fr' := (mkF m 15 #[.val (.ref a)] [(.ref a)])) (fun t k => XS.aloadN X2.here hx rfl (hb hby d1_14) rfl rfl k) ?_
      obtain ⟨T3, X3, e3, st3⟩ := getS2 X2 hx hZ hown (host := "") (Or.inl (hw _ (List.mem_of_getElem? (i := 59) rfl))) Via.refl e2 S2 (g := (mkF m 15 #[.val (.ref a)] [(.ref a)])) rfl (hb hby d1_15)
      refine own_st (fr' := (mkF m 18 #[.val (.ref a)] [(.ref y2), (.ref a)])) st3 ?_
      by_cases hac2 : (Value.ref a) = (Value.ref y2)
      · refine own_st (fr' := (mkF m 32 #[.val (.ref a)] [])) (fun t k => Jvm.RoadKit.acmp (g := (mkF m 18 #[.val (.ref a)] [(.ref y2), (.ref a)])) X3 hx rfl rfl rfl (pc0 := 18) (pc' := 32) (same := true) rfl (hb hby d1_18) rfl (decide_eq_true hac2) (by decide) (by decide) k) ?_
        refine own_st (fr' := (mkF m 33 #[.val (.ref a)] [(.int (0 : Int32))])) (fun t k => XS.iconst X3.here hx rfl (hb hby d1_32) k) ?_
        have q : a = y2 := Value.ref.inj hac2
        exact own_retZ X3 hx hlk hret (Or.inl rfl) (hb hby d1_33) (by decide) (by decide) (⟨by rw [if_pos (by simp [q])], N0, e3⟩)
      · refine own_st (fr' := (mkF m 21 #[.val (.ref a)] [])) (fun t k => Jvm.RoadKit.acmp (g := (mkF m 18 #[.val (.ref a)] [(.ref y2), (.ref a)])) X3 hx rfl rfl rfl (pc0 := 18) (pc' := 21) (same := false) rfl (hb hby d1_18) rfl (decide_eq_false hac2) (by decide) (by decide) k) ?_
        have nq2 : ¬ a = y2 := fun q => hac2 (congrArg Value.ref q)
        refine own_st (fr' := (mkF m 22 #[.val (.ref a)] [(.ref a)])) (fun t k => XS.aloadN X3.here hx rfl (hb hby d1_21) rfl rfl k) ?_
        obtain ⟨T4, X4, e4, st4⟩ := getS2 X3 hx hZ hown (host := "") (Or.inl (hw _ (List.mem_of_getElem? (i := 60) rfl))) Via.refl e3 S3 (g := (mkF m 22 #[.val (.ref a)] [(.ref a)])) rfl (hb hby d1_22)
        refine own_st (fr' := (mkF m 25 #[.val (.ref a)] [(.ref y3), (.ref a)])) st4 ?_
        by_cases hac3 : (Value.ref a) = (Value.ref y3)
        · refine own_st (fr' := (mkF m 32 #[.val (.ref a)] [])) (fun t k => Jvm.RoadKit.acmp (g := (mkF m 25 #[.val (.ref a)] [(.ref y3), (.ref a)])) X4 hx rfl rfl rfl (pc0 := 25) (pc' := 32) (same := true) rfl (hb hby d1_25) rfl (decide_eq_true hac3) (by decide) (by decide) k) ?_
          refine own_st (fr' := (mkF m 33 #[.val (.ref a)] [(.int (0 : Int32))])) (fun t k => XS.iconst X4.here hx rfl (hb hby d1_32) k) ?_
          have q : a = y3 := Value.ref.inj hac3
          exact own_retZ X4 hx hlk hret (Or.inl rfl) (hb hby d1_33) (by decide) (by decide) (⟨by rw [if_pos (by simp [q])], N0, e4⟩)
        · refine own_st (fr' := (mkF m 28 #[.val (.ref a)] [])) (fun t k => Jvm.RoadKit.acmp (g := (mkF m 25 #[.val (.ref a)] [(.ref y3), (.ref a)])) X4 hx rfl rfl rfl (pc0 := 25) (pc' := 28) (same := false) rfl (hb hby d1_25) rfl (decide_eq_false hac3) (by decide) (by decide) k) ?_
          have nq3 : ¬ a = y3 := fun q => hac3 (congrArg Value.ref q)
          refine own_st (fr' := (mkF m 29 #[.val (.ref a)] [(.int (1 : Int32))])) (fun t k => XS.iconst X4.here hx rfl (hb hby d1_28) k) ?_
          refine own_st (fr' := (mkF m 33 #[.val (.ref a)] [(.int (1 : Int32))])) (fun t k => XS.goto X4.here hx rfl (pc0 := 29) (pc' := 33) rfl (hb hby d1_29) (by decide) (by decide) k) ?_
          exact own_retZ X4 hx hlk hret (Or.inr rfl) (hb hby d1_33) (by decide) (by decide) (⟨by rw [if_neg (by simp [nq0, nq1, nq2, nq3])], N0, e4⟩)
theorem d2_0 : decode prog_72_method_6_code 0 = .ok (.aload_n 0, 1) := by decide +kernel
theorem d2_1 : decode prog_72_method_6_code 1 = .ok (.getfield 70, 3) := by decide +kernel
theorem d2_4 : decode prog_72_method_6_code 4 = .ok (.ireturn, 1) := by decide +kernel
theorem ef_rev (m : MethodId) (a : Addr) : entryFrame m #[(.ref a)] 1 = mkF m 0 #[.val (.ref a)] [] := by first | (simp [entryFrame, mkF, argsToLocals, Value.category, maxLocals]; done) | rfl
def Q_rev (Z : State) (a : Addr) (rv : Int32) (h0 : Heap) (n0 : Nat) : Option Value → Heap → List Loc → Prop := fun v h L => v = some (.int rv) ∧ Fr n0 L ∧ h = h0
set_option maxRecDepth 65536 in
set_option maxHeartbeats 40000000 in
theorem rm_rev (l : Launch) (Z : State) (a0 : Array Value) (hw : ∀ d ∈ tables_1, d.before a0 Z = true) (ws : List Jvm.Cond) (a : Addr) (rv : Int32) (h0 : Heap) (n0 : Nat) (Z0 : n0 ≤ h0.size) (F0 : Fld Z h0 a "com/example/precedence/precedence/xpath/Axis" "reverse" "Z" (.int rv)) (hrv : rv.toInt = 0 ∨ rv.toInt = 1) :
    MetFree l (⟨"com/example/precedence/precedence/xpath/Axis", "reverse", "()Z"⟩ : MethodName) (head1 (Jvm.Cond.code (⟨"com/example/precedence/precedence/xpath/Axis", "reverse", "()Z"⟩ : MethodName) prog_72_method_6_code 1 (some .boolean) :: ws) ({ frames := 0, cells := 0, slots := 0, locals := 0 } : Room)) (fun aX U => aX = #[(.ref a)] ∧ Z.Warmed39 U.vm ∧ U.heap = h0) (fun _ _ _ _ _ => True) (fun _ U o U' => ∃ v L, o = .returned v ∧ (Q_rev Z a rv h0 n0) v U'.heap L ∧ FrameEnd U o U' L ({ frames := 0, cells := 0, slots := 0, locals := 0 } : Room).cells ({ frames := 0, cells := 0, slots := 0, locals := 0 } : Room).slots) := by
  refine own_met (Q := (Q_rev Z a rv h0 n0)) (plainFor_of_name (x := (⟨"com/example/precedence/precedence/xpath/Axis", "reverse", "()Z"⟩ : MethodName)) pn_0) (fun m => ef_rev m a) ?_
  intro p e s m below meth cD s₁ hx hby hml hret hlk hZ hown hnm X0 e0 hs0
  have hown : s.vm.findClass "com/example/precedence/precedence/xpath/Axis" = some m.cls := hown
  have N0 := Fr.nil n0
  refine own_st (fr' := (mkF m 1 #[.val (.ref a)] [(.ref a)])) (fun t k => XS.aloadN X0.here hx rfl (hb hby d2_0) rfl rfl k) ?_
  obtain ⟨T5, X5, e5, st5⟩ := getF X0 hx hZ hown (host := "") (Or.inl (hw _ (List.mem_of_getElem? (i := 55) rfl))) Via.refl e0 F0 (g := (mkF m 1 #[.val (.ref a)] [(.ref a)])) rfl rfl (hb hby d2_1)
  refine own_st (fr' := (mkF m 4 #[.val (.ref a)] [(.int rv)])) st5 ?_
  exact own_retZ X5 hx hlk hret (hrv) (hb hby d2_4) (by decide) (by decide) (⟨rfl, N0, e5⟩)
theorem pd_0 : parseMethodDescriptor "()Z" = some ⟨[], some .boolean⟩ := by decide +kernel
theorem pn_1 : plainName "com/example/precedence/precedence/xpath/AxisOverlapsPinLaw" = true := by first | (simp [plainName, overriddenIn]; done) | decide +kernel
theorem ef_law (m : MethodId) (p0 : Int32) : entryFrame m #[(.int p0)] maxLocals = mkF m 0 #[.val (.int p0), .unset, .unset, .unset, .unset, .unset] [] := by first | (simp [entryFrame, mkF, argsToLocals, Value.category, maxLocals]; done) | rfl
def Q_law (Z : State) (p0 : Int32) (x0 : Addr) (x1 : Addr) (x2 : Addr) (x3 : Addr) (x4 : Addr) (x5 : Addr) (x6 : Addr) (x7 : Addr) (x8 : Addr) (x9 : Addr) (x10 : Addr) (x11 : Addr) (x12 : Addr) (h0 : Heap) (n0 : Nat) : Option Value → Heap → List Loc → Prop := fun v h L => v = some (.int 1) ∧ Fr n0 L
set_option maxRecDepth 65536 in
set_option maxHeartbeats 40000000 in
theorem rm_law (l : Launch) (Z : State) (a0 : Array Value) (hw : ∀ d ∈ tables_1, d.before a0 Z = true) (ws : List Jvm.Cond) (p0 : Int32) (x0 : Addr) (x1 : Addr) (x2 : Addr) (x3 : Addr) (x4 : Addr) (x5 : Addr) (x6 : Addr) (x7 : Addr) (x8 : Addr) (x9 : Addr) (x10 : Addr) (x11 : Addr) (x12 : Addr) (h0 : Heap) (n0 : Nat) (Z0 : n0 ≤ h0.size) (S0 : Sta Z h0 "com/example/precedence/precedence/xpath/Axis" "CHILD" "Lcom/example/precedence/precedence/xpath/Axis;" (.ref x0)) (S1 : Sta Z h0 "com/example/precedence/precedence/xpath/Axis" "DESCENDANT" "Lcom/example/precedence/precedence/xpath/Axis;" (.ref x1)) (S2 : Sta Z h0 "com/example/precedence/precedence/xpath/Axis" "PARENT" "Lcom/example/precedence/precedence/xpath/Axis;" (.ref x2)) (S3 : Sta Z h0 "com/example/precedence/precedence/xpath/Axis" "ANCESTOR" "Lcom/example/precedence/precedence/xpath/Axis;" (.ref x3)) (S4 : Sta Z h0 "com/example/precedence/precedence/xpath/Axis" "FOLLOWING_SIBLING" "Lcom/example/precedence/precedence/xpath/Axis;" (.ref x4)) (S5 : Sta Z h0 "com/example/precedence/precedence/xpath/Axis" "PRECEDING_SIBLING" "Lcom/example/precedence/precedence/xpath/Axis;" (.ref x5)) (S6 : Sta Z h0 "com/example/precedence/precedence/xpath/Axis" "FOLLOWING" "Lcom/example/precedence/precedence/xpath/Axis;" (.ref x6)) (S7 : Sta Z h0 "com/example/precedence/precedence/xpath/Axis" "PRECEDING" "Lcom/example/precedence/precedence/xpath/Axis;" (.ref x7)) (S8 : Sta Z h0 "com/example/precedence/precedence/xpath/Axis" "ATTRIBUTE" "Lcom/example/precedence/precedence/xpath/Axis;" (.ref x8)) (S9 : Sta Z h0 "com/example/precedence/precedence/xpath/Axis" "NAMESPACE" "Lcom/example/precedence/precedence/xpath/Axis;" (.ref x9)) (S10 : Sta Z h0 "com/example/precedence/precedence/xpath/Axis" "SELF" "Lcom/example/precedence/precedence/xpath/Axis;" (.ref x10)) (S11 : Sta Z h0 "com/example/precedence/precedence/xpath/Axis" "DESCENDANT_OR_SELF" "Lcom/example/precedence/precedence/xpath/Axis;" (.ref x11)) (S12 : Sta Z h0 "com/example/precedence/precedence/xpath/Axis" "ANCESTOR_OR_SELF" "Lcom/example/precedence/precedence/xpath/Axis;" (.ref x12)) (Ex0 : Exa Z h0 x0 "com/example/precedence/precedence/xpath/Axis$1") (Ex1 : Exa Z h0 x1 "com/example/precedence/precedence/xpath/Axis$2") (Ex2 : Exa Z h0 x2 "com/example/precedence/precedence/xpath/Axis$3") (Ex3 : Exa Z h0 x3 "com/example/precedence/precedence/xpath/Axis$4") (Ex4 : Exa Z h0 x4 "com/example/precedence/precedence/xpath/Axis$5") (Ex5 : Exa Z h0 x5 "com/example/precedence/precedence/xpath/Axis$6") (Ex6 : Exa Z h0 x6 "com/example/precedence/precedence/xpath/Axis$7") (Ex7 : Exa Z h0 x7 "com/example/precedence/precedence/xpath/Axis$8") (Ex8 : Exa Z h0 x8 "com/example/precedence/precedence/xpath/Axis$9") (Ex9 : Exa Z h0 x9 "com/example/precedence/precedence/xpath/Axis$10") (Ex10 : Exa Z h0 x10 "com/example/precedence/precedence/xpath/Axis$11") (Ex11 : Exa Z h0 x11 "com/example/precedence/precedence/xpath/Axis$12") (Ex12 : Exa Z h0 x12 "com/example/precedence/precedence/xpath/Axis$13") (F0 : Fld Z h0 x0 "com/example/precedence/precedence/xpath/Axis" "reverse" "Z" (.int 0)) (F1 : Fld Z h0 x1 "com/example/precedence/precedence/xpath/Axis" "reverse" "Z" (.int 0)) (F2 : Fld Z h0 x2 "com/example/precedence/precedence/xpath/Axis" "reverse" "Z" (.int 0)) (F3 : Fld Z h0 x3 "com/example/precedence/precedence/xpath/Axis" "reverse" "Z" (.int 1)) (F4 : Fld Z h0 x4 "com/example/precedence/precedence/xpath/Axis" "reverse" "Z" (.int 0)) (F5 : Fld Z h0 x5 "com/example/precedence/precedence/xpath/Axis" "reverse" "Z" (.int 1)) (F6 : Fld Z h0 x6 "com/example/precedence/precedence/xpath/Axis" "reverse" "Z" (.int 0)) (F7 : Fld Z h0 x7 "com/example/precedence/precedence/xpath/Axis" "reverse" "Z" (.int 1)) (F8 : Fld Z h0 x8 "com/example/precedence/precedence/xpath/Axis" "reverse" "Z" (.int 0)) (F9 : Fld Z h0 x9 "com/example/precedence/precedence/xpath/Axis" "reverse" "Z" (.int 0)) (F10 : Fld Z h0 x10 "com/example/precedence/precedence/xpath/Axis" "reverse" "Z" (.int 0)) (F11 : Fld Z h0 x11 "com/example/precedence/precedence/xpath/Axis" "reverse" "Z" (.int 0)) (F12 : Fld Z h0 x12 "com/example/precedence/precedence/xpath/Axis" "reverse" "Z" (.int 1)) :
    MetFree l x (head1 (Jvm.Cond.code x code maxLocals ret :: ws) room_1) (fun aX U => aX = #[(.int p0)] ∧ Z.Warmed39 U.vm ∧ U.heap = h0) (fun _ _ _ _ _ => True) (fun _ U o U' => ∃ v L, o = .returned v ∧ (Q_law Z p0 x0 x1 x2 x3 x4 x5 x6 x7 x8 x9 x10 x11 x12 h0 n0) v U'.heap L ∧ FrameEnd U o U' L room_1.cells room_1.slots) := by
  refine own_met (Q := (Q_law Z p0 x0 x1 x2 x3 x4 x5 x6 x7 x8 x9 x10 x11 x12 h0 n0)) (plainFor_of_name (x := x) pn_1) (fun m => ef_law m p0) ?_
  intro p e s m below meth cD s₁ hx hby hml hret hlk hZ hown hnm X0 e0 hs0
  have hml : cD.maxLocals = 6 := hml
  have hown : s.vm.findClass "com/example/precedence/precedence/xpath/AxisOverlapsPinLaw" = some m.cls := hown
  have N0 := Fr.nil n0
  refine own_st (fr' := (mkF m 2 #[.val (.int p0), .unset, .unset, .unset, .unset, .unset] [(.int (13 : Int32))])) (fun t k => XS.bipush X0.here hx rfl (hb hby at_0) k) ?_
  refine own_newarrR X0 hx hZ hown (hw _ (List.mem_of_getElem? (i := 0) rfl)) (hw _ (List.mem_of_getElem? (i := 1) rfl)) e0 (hb hby at_2) (by decide) (cap := 13) (by decide) (by decide) (by decide) (by decide) ?_
  intro T6 h6 b6 g6 X6 e6 E6 V6 O6
  have ne6_x0 : x0 ≠ b6 := Nat.ne_of_lt (Nat.lt_of_lt_of_eq Ex0.lt g6.symm)
  have ne6_x1 : x1 ≠ b6 := Nat.ne_of_lt (Nat.lt_of_lt_of_eq Ex1.lt g6.symm)
  have ne6_x2 : x2 ≠ b6 := Nat.ne_of_lt (Nat.lt_of_lt_of_eq Ex2.lt g6.symm)
  have ne6_x3 : x3 ≠ b6 := Nat.ne_of_lt (Nat.lt_of_lt_of_eq Ex3.lt g6.symm)
  have ne6_x4 : x4 ≠ b6 := Nat.ne_of_lt (Nat.lt_of_lt_of_eq Ex4.lt g6.symm)
  have ne6_x5 : x5 ≠ b6 := Nat.ne_of_lt (Nat.lt_of_lt_of_eq Ex5.lt g6.symm)
  have ne6_x6 : x6 ≠ b6 := Nat.ne_of_lt (Nat.lt_of_lt_of_eq Ex6.lt g6.symm)
  have ne6_x7 : x7 ≠ b6 := Nat.ne_of_lt (Nat.lt_of_lt_of_eq Ex7.lt g6.symm)
  have ne6_x8 : x8 ≠ b6 := Nat.ne_of_lt (Nat.lt_of_lt_of_eq Ex8.lt g6.symm)
  have ne6_x9 : x9 ≠ b6 := Nat.ne_of_lt (Nat.lt_of_lt_of_eq Ex9.lt g6.symm)
  have ne6_x10 : x10 ≠ b6 := Nat.ne_of_lt (Nat.lt_of_lt_of_eq Ex10.lt g6.symm)
  have ne6_x11 : x11 ≠ b6 := Nat.ne_of_lt (Nat.lt_of_lt_of_eq Ex11.lt g6.symm)
  have ne6_x12 : x12 ≠ b6 := Nat.ne_of_lt (Nat.lt_of_lt_of_eq Ex12.lt g6.symm)
  have ge_b6 : n0 ≤ b6 := Nat.le_trans Z0 (Nat.le_of_eq g6.symm)
  have sz_b6 : h0.size ≤ b6 := Nat.le_trans (Keep.refl h0 []).1 (Nat.le_of_eq g6.symm)
  refine own_st (fr' := (mkF m 6 #[.val (.int p0), .unset, .unset, .unset, .unset, .unset] [(.ref b6), (.ref b6)])) (fun t k => XS.dup X6.here hx rfl (hb hby at_5) rfl rfl k) ?_
  refine own_st (fr' := (mkF m 7 #[.val (.int p0), .unset, .unset, .unset, .unset, .unset] [(.int (0 : Int32)), (.ref b6), (.ref b6)])) (fun t k => XS.iconst X6.here hx rfl (hb hby at_6) k) ?_
  obtain ⟨T7, X7, e7, st7⟩ := getS2 X6 hx hZ hown (host := "") (Or.inl (hw _ (List.mem_of_getElem? (i := 2) rfl))) Via.refl e6 (Sta.ext E6 S0) (g := (mkF m 7 #[.val (.int p0), .unset, .unset, .unset, .unset, .unset] [(.int (0 : Int32)), (.ref b6), (.ref b6)])) rfl (hb hby at_7)
  refine own_st (fr' := (mkF m 10 #[.val (.int p0), .unset, .unset, .unset, .unset, .unset] [(.ref x0), (.int (0 : Int32)), (.ref b6), (.ref b6)])) st7 ?_
  refine own_aastore X7 hx hZ e7 V6 O6 (Ins.of_exa (Ex0.ext E6) (hw _ (List.mem_of_getElem? (i := 5) rfl))) (by decide) (by decide) (hb hby at_10) ?_
  intro T8 h8 X8 e8 W8 V8
  have N8 := Fr.snoc X8 N0 ge_b6
  refine own_st (fr' := (mkF m 12 #[.val (.int p0), .unset, .unset, .unset, .unset, .unset] [(.ref b6), (.ref b6)])) (fun t k => XS.dup X8.here hx rfl (hb hby at_11) rfl rfl k) ?_
  refine own_st (fr' := (mkF m 13 #[.val (.int p0), .unset, .unset, .unset, .unset, .unset] [(.int (1 : Int32)), (.ref b6), (.ref b6)])) (fun t k => XS.iconst X8.here hx rfl (hb hby at_12) k) ?_
  obtain ⟨T9, X9, e9, st9⟩ := getS2 X8 hx hZ hown (host := "") (Or.inl (hw _ (List.mem_of_getElem? (i := 6) rfl))) Via.refl e8 (Sta.wr W8 (Sta.ext E6 S1)) (g := (mkF m 13 #[.val (.int p0), .unset, .unset, .unset, .unset, .unset] [(.int (1 : Int32)), (.ref b6), (.ref b6)])) rfl (hb hby at_13)
  refine own_st (fr' := (mkF m 16 #[.val (.int p0), .unset, .unset, .unset, .unset, .unset] [(.ref x1), (.int (1 : Int32)), (.ref b6), (.ref b6)])) st9 ?_
  refine own_aastore X9 hx hZ e9 V8 (O6.wr W8) (Ins.of_exa (Exa.wr W8 (Ex1.ext E6)) (hw _ (List.mem_of_getElem? (i := 8) rfl))) (by decide) (by decide) (hb hby at_16) ?_
  intro T10 h10 X10 e10 W10 V10
  have N10 := Fr.snoc X10 N8 ge_b6
  refine own_st (fr' := (mkF m 18 #[.val (.int p0), .unset, .unset, .unset, .unset, .unset] [(.ref b6), (.ref b6)])) (fun t k => XS.dup X10.here hx rfl (hb hby at_17) rfl rfl k) ?_
  refine own_st (fr' := (mkF m 19 #[.val (.int p0), .unset, .unset, .unset, .unset, .unset] [(.int (2 : Int32)), (.ref b6), (.ref b6)])) (fun t k => XS.iconst X10.here hx rfl (hb hby at_18) k) ?_
  obtain ⟨T11, X11, e11, st11⟩ := getS2 X10 hx hZ hown (host := "") (Or.inl (hw _ (List.mem_of_getElem? (i := 9) rfl))) Via.refl e10 (Sta.wr W10 (Sta.wr W8 (Sta.ext E6 S2))) (g := (mkF m 19 #[.val (.int p0), .unset, .unset, .unset, .unset, .unset] [(.int (2 : Int32)), (.ref b6), (.ref b6)])) rfl (hb hby at_19)
  refine own_st (fr' := (mkF m 22 #[.val (.int p0), .unset, .unset, .unset, .unset, .unset] [(.ref x2), (.int (2 : Int32)), (.ref b6), (.ref b6)])) st11 ?_
  refine own_aastore X11 hx hZ e11 V10 ((O6.wr W8).wr W10) (Ins.of_exa (Exa.wr W10 (Exa.wr W8 (Ex2.ext E6))) (hw _ (List.mem_of_getElem? (i := 11) rfl))) (by decide) (by decide) (hb hby at_22) ?_
  intro T12 h12 X12 e12 W12 V12
  have N12 := Fr.snoc X12 N10 ge_b6
  refine own_st (fr' := (mkF m 24 #[.val (.int p0), .unset, .unset, .unset, .unset, .unset] [(.ref b6), (.ref b6)])) (fun t k => XS.dup X12.here hx rfl (hb hby at_23) rfl rfl k) ?_
  refine own_st (fr' := (mkF m 25 #[.val (.int p0), .unset, .unset, .unset, .unset, .unset] [(.int (3 : Int32)), (.ref b6), (.ref b6)])) (fun t k => XS.iconst X12.here hx rfl (hb hby at_24) k) ?_
  obtain ⟨T13, X13, e13, st13⟩ := getS2 X12 hx hZ hown (host := "") (Or.inl (hw _ (List.mem_of_getElem? (i := 12) rfl))) Via.refl e12 (Sta.wr W12 (Sta.wr W10 (Sta.wr W8 (Sta.ext E6 S3)))) (g := (mkF m 25 #[.val (.int p0), .unset, .unset, .unset, .unset, .unset] [(.int (3 : Int32)), (.ref b6), (.ref b6)])) rfl (hb hby at_25)
  refine own_st (fr' := (mkF m 28 #[.val (.int p0), .unset, .unset, .unset, .unset, .unset] [(.ref x3), (.int (3 : Int32)), (.ref b6), (.ref b6)])) st13 ?_
  refine own_aastore X13 hx hZ e13 V12 (((O6.wr W8).wr W10).wr W12) (Ins.of_exa (Exa.wr W12 (Exa.wr W10 (Exa.wr W8 (Ex3.ext E6)))) (hw _ (List.mem_of_getElem? (i := 14) rfl))) (by decide) (by decide) (hb hby at_28) ?_
  intro T14 h14 X14 e14 W14 V14
  have N14 := Fr.snoc X14 N12 ge_b6
  refine own_st (fr' := (mkF m 30 #[.val (.int p0), .unset, .unset, .unset, .unset, .unset] [(.ref b6), (.ref b6)])) (fun t k => XS.dup X14.here hx rfl (hb hby at_29) rfl rfl k) ?_
  refine own_st (fr' := (mkF m 31 #[.val (.int p0), .unset, .unset, .unset, .unset, .unset] [(.int (4 : Int32)), (.ref b6), (.ref b6)])) (fun t k => XS.iconst X14.here hx rfl (hb hby at_30) k) ?_
  obtain ⟨T15, X15, e15, st15⟩ := getS2 X14 hx hZ hown (host := "") (Or.inl (hw _ (List.mem_of_getElem? (i := 15) rfl))) Via.refl e14 (Sta.wr W14 (Sta.wr W12 (Sta.wr W10 (Sta.wr W8 (Sta.ext E6 S4))))) (g := (mkF m 31 #[.val (.int p0), .unset, .unset, .unset, .unset, .unset] [(.int (4 : Int32)), (.ref b6), (.ref b6)])) rfl (hb hby at_31)
  refine own_st (fr' := (mkF m 34 #[.val (.int p0), .unset, .unset, .unset, .unset, .unset] [(.ref x4), (.int (4 : Int32)), (.ref b6), (.ref b6)])) st15 ?_
  refine own_aastore X15 hx hZ e15 V14 ((((O6.wr W8).wr W10).wr W12).wr W14) (Ins.of_exa (Exa.wr W14 (Exa.wr W12 (Exa.wr W10 (Exa.wr W8 (Ex4.ext E6))))) (hw _ (List.mem_of_getElem? (i := 17) rfl))) (by decide) (by decide) (hb hby at_34) ?_
  intro T16 h16 X16 e16 W16 V16
  have N16 := Fr.snoc X16 N14 ge_b6
  refine own_st (fr' := (mkF m 36 #[.val (.int p0), .unset, .unset, .unset, .unset, .unset] [(.ref b6), (.ref b6)])) (fun t k => XS.dup X16.here hx rfl (hb hby at_35) rfl rfl k) ?_
  refine own_st (fr' := (mkF m 37 #[.val (.int p0), .unset, .unset, .unset, .unset, .unset] [(.int (5 : Int32)), (.ref b6), (.ref b6)])) (fun t k => XS.iconst X16.here hx rfl (hb hby at_36) k) ?_
  obtain ⟨T17, X17, e17, st17⟩ := getS2 X16 hx hZ hown (host := "") (Or.inl (hw _ (List.mem_of_getElem? (i := 18) rfl))) Via.refl e16 (Sta.wr W16 (Sta.wr W14 (Sta.wr W12 (Sta.wr W10 (Sta.wr W8 (Sta.ext E6 S5)))))) (g := (mkF m 37 #[.val (.int p0), .unset, .unset, .unset, .unset, .unset] [(.int (5 : Int32)), (.ref b6), (.ref b6)])) rfl (hb hby at_37)
  refine own_st (fr' := (mkF m 40 #[.val (.int p0), .unset, .unset, .unset, .unset, .unset] [(.ref x5), (.int (5 : Int32)), (.ref b6), (.ref b6)])) st17 ?_
  refine own_aastore X17 hx hZ e17 V16 (((((O6.wr W8).wr W10).wr W12).wr W14).wr W16) (Ins.of_exa (Exa.wr W16 (Exa.wr W14 (Exa.wr W12 (Exa.wr W10 (Exa.wr W8 (Ex5.ext E6)))))) (hw _ (List.mem_of_getElem? (i := 20) rfl))) (by decide) (by decide) (hb hby at_40) ?_
  intro T18 h18 X18 e18 W18 V18
  have N18 := Fr.snoc X18 N16 ge_b6
  refine own_st (fr' := (mkF m 42 #[.val (.int p0), .unset, .unset, .unset, .unset, .unset] [(.ref b6), (.ref b6)])) (fun t k => XS.dup X18.here hx rfl (hb hby at_41) rfl rfl k) ?_
  refine own_st (fr' := (mkF m 44 #[.val (.int p0), .unset, .unset, .unset, .unset, .unset] [(.int (6 : Int32)), (.ref b6), (.ref b6)])) (fun t k => XS.bipush X18.here hx rfl (hb hby at_42) k) ?_
  obtain ⟨T19, X19, e19, st19⟩ := getS2 X18 hx hZ hown (host := "") (Or.inl (hw _ (List.mem_of_getElem? (i := 21) rfl))) Via.refl e18 (Sta.wr W18 (Sta.wr W16 (Sta.wr W14 (Sta.wr W12 (Sta.wr W10 (Sta.wr W8 (Sta.ext E6 S6))))))) (g := (mkF m 44 #[.val (.int p0), .unset, .unset, .unset, .unset, .unset] [(.int (6 : Int32)), (.ref b6), (.ref b6)])) rfl (hb hby at_44)
  refine own_st (fr' := (mkF m 47 #[.val (.int p0), .unset, .unset, .unset, .unset, .unset] [(.ref x6), (.int (6 : Int32)), (.ref b6), (.ref b6)])) st19 ?_
  refine own_aastore X19 hx hZ e19 V18 ((((((O6.wr W8).wr W10).wr W12).wr W14).wr W16).wr W18) (Ins.of_exa (Exa.wr W18 (Exa.wr W16 (Exa.wr W14 (Exa.wr W12 (Exa.wr W10 (Exa.wr W8 (Ex6.ext E6))))))) (hw _ (List.mem_of_getElem? (i := 23) rfl))) (by decide) (by decide) (hb hby at_47) ?_
  intro T20 h20 X20 e20 W20 V20
  have N20 := Fr.snoc X20 N18 ge_b6
  refine own_st (fr' := (mkF m 49 #[.val (.int p0), .unset, .unset, .unset, .unset, .unset] [(.ref b6), (.ref b6)])) (fun t k => XS.dup X20.here hx rfl (hb hby at_48) rfl rfl k) ?_
  refine own_st (fr' := (mkF m 51 #[.val (.int p0), .unset, .unset, .unset, .unset, .unset] [(.int (7 : Int32)), (.ref b6), (.ref b6)])) (fun t k => XS.bipush X20.here hx rfl (hb hby at_49) k) ?_
  obtain ⟨T21, X21, e21, st21⟩ := getS2 X20 hx hZ hown (host := "") (Or.inl (hw _ (List.mem_of_getElem? (i := 24) rfl))) Via.refl e20 (Sta.wr W20 (Sta.wr W18 (Sta.wr W16 (Sta.wr W14 (Sta.wr W12 (Sta.wr W10 (Sta.wr W8 (Sta.ext E6 S7)))))))) (g := (mkF m 51 #[.val (.int p0), .unset, .unset, .unset, .unset, .unset] [(.int (7 : Int32)), (.ref b6), (.ref b6)])) rfl (hb hby at_51)
  refine own_st (fr' := (mkF m 54 #[.val (.int p0), .unset, .unset, .unset, .unset, .unset] [(.ref x7), (.int (7 : Int32)), (.ref b6), (.ref b6)])) st21 ?_
  refine own_aastore X21 hx hZ e21 V20 (((((((O6.wr W8).wr W10).wr W12).wr W14).wr W16).wr W18).wr W20) (Ins.of_exa (Exa.wr W20 (Exa.wr W18 (Exa.wr W16 (Exa.wr W14 (Exa.wr W12 (Exa.wr W10 (Exa.wr W8 (Ex7.ext E6)))))))) (hw _ (List.mem_of_getElem? (i := 26) rfl))) (by decide) (by decide) (hb hby at_54) ?_
  intro T22 h22 X22 e22 W22 V22
  have N22 := Fr.snoc X22 N20 ge_b6
  refine own_st (fr' := (mkF m 56 #[.val (.int p0), .unset, .unset, .unset, .unset, .unset] [(.ref b6), (.ref b6)])) (fun t k => XS.dup X22.here hx rfl (hb hby at_55) rfl rfl k) ?_
  refine own_st (fr' := (mkF m 58 #[.val (.int p0), .unset, .unset, .unset, .unset, .unset] [(.int (8 : Int32)), (.ref b6), (.ref b6)])) (fun t k => XS.bipush X22.here hx rfl (hb hby at_56) k) ?_
  obtain ⟨T23, X23, e23, st23⟩ := getS2 X22 hx hZ hown (host := "") (Or.inl (hw _ (List.mem_of_getElem? (i := 27) rfl))) Via.refl e22 (Sta.wr W22 (Sta.wr W20 (Sta.wr W18 (Sta.wr W16 (Sta.wr W14 (Sta.wr W12 (Sta.wr W10 (Sta.wr W8 (Sta.ext E6 S8))))))))) (g := (mkF m 58 #[.val (.int p0), .unset, .unset, .unset, .unset, .unset] [(.int (8 : Int32)), (.ref b6), (.ref b6)])) rfl (hb hby at_58)
  refine own_st (fr' := (mkF m 61 #[.val (.int p0), .unset, .unset, .unset, .unset, .unset] [(.ref x8), (.int (8 : Int32)), (.ref b6), (.ref b6)])) st23 ?_
  refine own_aastore X23 hx hZ e23 V22 ((((((((O6.wr W8).wr W10).wr W12).wr W14).wr W16).wr W18).wr W20).wr W22) (Ins.of_exa (Exa.wr W22 (Exa.wr W20 (Exa.wr W18 (Exa.wr W16 (Exa.wr W14 (Exa.wr W12 (Exa.wr W10 (Exa.wr W8 (Ex8.ext E6))))))))) (hw _ (List.mem_of_getElem? (i := 29) rfl))) (by decide) (by decide) (hb hby at_61) ?_
  intro T24 h24 X24 e24 W24 V24
  have N24 := Fr.snoc X24 N22 ge_b6
  refine own_st (fr' := (mkF m 63 #[.val (.int p0), .unset, .unset, .unset, .unset, .unset] [(.ref b6), (.ref b6)])) (fun t k => XS.dup X24.here hx rfl (hb hby at_62) rfl rfl k) ?_
  refine own_st (fr' := (mkF m 65 #[.val (.int p0), .unset, .unset, .unset, .unset, .unset] [(.int (9 : Int32)), (.ref b6), (.ref b6)])) (fun t k => XS.bipush X24.here hx rfl (hb hby at_63) k) ?_
  obtain ⟨T25, X25, e25, st25⟩ := getS2 X24 hx hZ hown (host := "") (Or.inl (hw _ (List.mem_of_getElem? (i := 30) rfl))) Via.refl e24 (Sta.wr W24 (Sta.wr W22 (Sta.wr W20 (Sta.wr W18 (Sta.wr W16 (Sta.wr W14 (Sta.wr W12 (Sta.wr W10 (Sta.wr W8 (Sta.ext E6 S9)))))))))) (g := (mkF m 65 #[.val (.int p0), .unset, .unset, .unset, .unset, .unset] [(.int (9 : Int32)), (.ref b6), (.ref b6)])) rfl (hb hby at_65)
  refine own_st (fr' := (mkF m 68 #[.val (.int p0), .unset, .unset, .unset, .unset, .unset] [(.ref x9), (.int (9 : Int32)), (.ref b6), (.ref b6)])) st25 ?_
  refine own_aastore X25 hx hZ e25 V24 (((((((((O6.wr W8).wr W10).wr W12).wr W14).wr W16).wr W18).wr W20).wr W22).wr W24) (Ins.of_exa (Exa.wr W24 (Exa.wr W22 (Exa.wr W20 (Exa.wr W18 (Exa.wr W16 (Exa.wr W14 (Exa.wr W12 (Exa.wr W10 (Exa.wr W8 (Ex9.ext E6)))))))))) (hw _ (List.mem_of_getElem? (i := 32) rfl))) (by decide) (by decide) (hb hby at_68) ?_
  intro T26 h26 X26 e26 W26 V26
  have N26 := Fr.snoc X26 N24 ge_b6
  refine own_st (fr' := (mkF m 70 #[.val (.int p0), .unset, .unset, .unset, .unset, .unset] [(.ref b6), (.ref b6)])) (fun t k => XS.dup X26.here hx rfl (hb hby at_69) rfl rfl k) ?_
  refine own_st (fr' := (mkF m 72 #[.val (.int p0), .unset, .unset, .unset, .unset, .unset] [(.int (10 : Int32)), (.ref b6), (.ref b6)])) (fun t k => XS.bipush X26.here hx rfl (hb hby at_70) k) ?_
  obtain ⟨T27, X27, e27, st27⟩ := getS2 X26 hx hZ hown (host := "") (Or.inl (hw _ (List.mem_of_getElem? (i := 33) rfl))) Via.refl e26 (Sta.wr W26 (Sta.wr W24 (Sta.wr W22 (Sta.wr W20 (Sta.wr W18 (Sta.wr W16 (Sta.wr W14 (Sta.wr W12 (Sta.wr W10 (Sta.wr W8 (Sta.ext E6 S10))))))))))) (g := (mkF m 72 #[.val (.int p0), .unset, .unset, .unset, .unset, .unset] [(.int (10 : Int32)), (.ref b6), (.ref b6)])) rfl (hb hby at_72)
  refine own_st (fr' := (mkF m 75 #[.val (.int p0), .unset, .unset, .unset, .unset, .unset] [(.ref x10), (.int (10 : Int32)), (.ref b6), (.ref b6)])) st27 ?_
  refine own_aastore X27 hx hZ e27 V26 ((((((((((O6.wr W8).wr W10).wr W12).wr W14).wr W16).wr W18).wr W20).wr W22).wr W24).wr W26) (Ins.of_exa (Exa.wr W26 (Exa.wr W24 (Exa.wr W22 (Exa.wr W20 (Exa.wr W18 (Exa.wr W16 (Exa.wr W14 (Exa.wr W12 (Exa.wr W10 (Exa.wr W8 (Ex10.ext E6))))))))))) (hw _ (List.mem_of_getElem? (i := 35) rfl))) (by decide) (by decide) (hb hby at_75) ?_
  intro T28 h28 X28 e28 W28 V28
  have N28 := Fr.snoc X28 N26 ge_b6
  refine own_st (fr' := (mkF m 77 #[.val (.int p0), .unset, .unset, .unset, .unset, .unset] [(.ref b6), (.ref b6)])) (fun t k => XS.dup X28.here hx rfl (hb hby at_76) rfl rfl k) ?_
  refine own_st (fr' := (mkF m 79 #[.val (.int p0), .unset, .unset, .unset, .unset, .unset] [(.int (11 : Int32)), (.ref b6), (.ref b6)])) (fun t k => XS.bipush X28.here hx rfl (hb hby at_77) k) ?_
  obtain ⟨T29, X29, e29, st29⟩ := getS2 X28 hx hZ hown (host := "") (Or.inl (hw _ (List.mem_of_getElem? (i := 36) rfl))) Via.refl e28 (Sta.wr W28 (Sta.wr W26 (Sta.wr W24 (Sta.wr W22 (Sta.wr W20 (Sta.wr W18 (Sta.wr W16 (Sta.wr W14 (Sta.wr W12 (Sta.wr W10 (Sta.wr W8 (Sta.ext E6 S11)))))))))))) (g := (mkF m 79 #[.val (.int p0), .unset, .unset, .unset, .unset, .unset] [(.int (11 : Int32)), (.ref b6), (.ref b6)])) rfl (hb hby at_79)
  refine own_st (fr' := (mkF m 82 #[.val (.int p0), .unset, .unset, .unset, .unset, .unset] [(.ref x11), (.int (11 : Int32)), (.ref b6), (.ref b6)])) st29 ?_
  refine own_aastore X29 hx hZ e29 V28 (((((((((((O6.wr W8).wr W10).wr W12).wr W14).wr W16).wr W18).wr W20).wr W22).wr W24).wr W26).wr W28) (Ins.of_exa (Exa.wr W28 (Exa.wr W26 (Exa.wr W24 (Exa.wr W22 (Exa.wr W20 (Exa.wr W18 (Exa.wr W16 (Exa.wr W14 (Exa.wr W12 (Exa.wr W10 (Exa.wr W8 (Ex11.ext E6)))))))))))) (hw _ (List.mem_of_getElem? (i := 38) rfl))) (by decide) (by decide) (hb hby at_82) ?_
  intro T30 h30 X30 e30 W30 V30
  have N30 := Fr.snoc X30 N28 ge_b6
  refine own_st (fr' := (mkF m 84 #[.val (.int p0), .unset, .unset, .unset, .unset, .unset] [(.ref b6), (.ref b6)])) (fun t k => XS.dup X30.here hx rfl (hb hby at_83) rfl rfl k) ?_
  refine own_st (fr' := (mkF m 86 #[.val (.int p0), .unset, .unset, .unset, .unset, .unset] [(.int (12 : Int32)), (.ref b6), (.ref b6)])) (fun t k => XS.bipush X30.here hx rfl (hb hby at_84) k) ?_
  obtain ⟨T31, X31, e31, st31⟩ := getS2 X30 hx hZ hown (host := "") (Or.inl (hw _ (List.mem_of_getElem? (i := 39) rfl))) Via.refl e30 (Sta.wr W30 (Sta.wr W28 (Sta.wr W26 (Sta.wr W24 (Sta.wr W22 (Sta.wr W20 (Sta.wr W18 (Sta.wr W16 (Sta.wr W14 (Sta.wr W12 (Sta.wr W10 (Sta.wr W8 (Sta.ext E6 S12))))))))))))) (g := (mkF m 86 #[.val (.int p0), .unset, .unset, .unset, .unset, .unset] [(.int (12 : Int32)), (.ref b6), (.ref b6)])) rfl (hb hby at_86)
  refine own_st (fr' := (mkF m 89 #[.val (.int p0), .unset, .unset, .unset, .unset, .unset] [(.ref x12), (.int (12 : Int32)), (.ref b6), (.ref b6)])) st31 ?_
  refine own_aastore X31 hx hZ e31 V30 ((((((((((((O6.wr W8).wr W10).wr W12).wr W14).wr W16).wr W18).wr W20).wr W22).wr W24).wr W26).wr W28).wr W30) (Ins.of_exa (Exa.wr W30 (Exa.wr W28 (Exa.wr W26 (Exa.wr W24 (Exa.wr W22 (Exa.wr W20 (Exa.wr W18 (Exa.wr W16 (Exa.wr W14 (Exa.wr W12 (Exa.wr W10 (Exa.wr W8 (Ex12.ext E6))))))))))))) (hw _ (List.mem_of_getElem? (i := 41) rfl))) (by decide) (by decide) (hb hby at_89) ?_
  intro T32 h32 X32 e32 W32 V32
  have N32 := Fr.snoc X32 N30 ge_b6
  refine own_st (fr' := (mkF m 91 #[.val (.int p0), .val (.ref b6), .unset, .unset, .unset, .unset] [])) (fun t k => XS.astoreN X32.here hx rfl (hb hby at_90) rfl rfl (l' := #[.val (.int p0), .val (.ref b6), .unset, .unset, .unset, .unset]) rfl k) ?_
  refine own_st (fr' := (mkF m 93 #[.val (.int p0), .val (.ref b6), .unset, .unset, .unset, .unset] [(.int (13 : Int32))])) (fun t k => XS.bipush X32.here hx rfl (hb hby at_91) k) ?_
  refine own_newarr X32 hx hZ (hw _ (List.mem_of_getElem? (i := 42) rfl)) e32 (hb hby at_93) (by decide) (cap := 13) (by decide) (by decide) (by decide) (by decide) rfl ?_
  intro T33 h33 b33 g33 X33 e33 E33 V33
  have ne33_x0 : x0 ≠ b33 := Nat.ne_of_lt (Nat.lt_of_lt_of_eq (Exa.wr W32 (Exa.wr W30 (Exa.wr W28 (Exa.wr W26 (Exa.wr W24 (Exa.wr W22 (Exa.wr W20 (Exa.wr W18 (Exa.wr W16 (Exa.wr W14 (Exa.wr W12 (Exa.wr W10 (Exa.wr W8 (Ex0.ext E6)))))))))))))).lt g33.symm)
  have ne33_x1 : x1 ≠ b33 := Nat.ne_of_lt (Nat.lt_of_lt_of_eq (Exa.wr W32 (Exa.wr W30 (Exa.wr W28 (Exa.wr W26 (Exa.wr W24 (Exa.wr W22 (Exa.wr W20 (Exa.wr W18 (Exa.wr W16 (Exa.wr W14 (Exa.wr W12 (Exa.wr W10 (Exa.wr W8 (Ex1.ext E6)))))))))))))).lt g33.symm)
  have ne33_x2 : x2 ≠ b33 := Nat.ne_of_lt (Nat.lt_of_lt_of_eq (Exa.wr W32 (Exa.wr W30 (Exa.wr W28 (Exa.wr W26 (Exa.wr W24 (Exa.wr W22 (Exa.wr W20 (Exa.wr W18 (Exa.wr W16 (Exa.wr W14 (Exa.wr W12 (Exa.wr W10 (Exa.wr W8 (Ex2.ext E6)))))))))))))).lt g33.symm)
  have ne33_x3 : x3 ≠ b33 := Nat.ne_of_lt (Nat.lt_of_lt_of_eq (Exa.wr W32 (Exa.wr W30 (Exa.wr W28 (Exa.wr W26 (Exa.wr W24 (Exa.wr W22 (Exa.wr W20 (Exa.wr W18 (Exa.wr W16 (Exa.wr W14 (Exa.wr W12 (Exa.wr W10 (Exa.wr W8 (Ex3.ext E6)))))))))))))).lt g33.symm)
  have ne33_x4 : x4 ≠ b33 := Nat.ne_of_lt (Nat.lt_of_lt_of_eq (Exa.wr W32 (Exa.wr W30 (Exa.wr W28 (Exa.wr W26 (Exa.wr W24 (Exa.wr W22 (Exa.wr W20 (Exa.wr W18 (Exa.wr W16 (Exa.wr W14 (Exa.wr W12 (Exa.wr W10 (Exa.wr W8 (Ex4.ext E6)))))))))))))).lt g33.symm)
  have ne33_x5 : x5 ≠ b33 := Nat.ne_of_lt (Nat.lt_of_lt_of_eq (Exa.wr W32 (Exa.wr W30 (Exa.wr W28 (Exa.wr W26 (Exa.wr W24 (Exa.wr W22 (Exa.wr W20 (Exa.wr W18 (Exa.wr W16 (Exa.wr W14 (Exa.wr W12 (Exa.wr W10 (Exa.wr W8 (Ex5.ext E6)))))))))))))).lt g33.symm)
  have ne33_x6 : x6 ≠ b33 := Nat.ne_of_lt (Nat.lt_of_lt_of_eq (Exa.wr W32 (Exa.wr W30 (Exa.wr W28 (Exa.wr W26 (Exa.wr W24 (Exa.wr W22 (Exa.wr W20 (Exa.wr W18 (Exa.wr W16 (Exa.wr W14 (Exa.wr W12 (Exa.wr W10 (Exa.wr W8 (Ex6.ext E6)))))))))))))).lt g33.symm)
  have ne33_x7 : x7 ≠ b33 := Nat.ne_of_lt (Nat.lt_of_lt_of_eq (Exa.wr W32 (Exa.wr W30 (Exa.wr W28 (Exa.wr W26 (Exa.wr W24 (Exa.wr W22 (Exa.wr W20 (Exa.wr W18 (Exa.wr W16 (Exa.wr W14 (Exa.wr W12 (Exa.wr W10 (Exa.wr W8 (Ex7.ext E6)))))))))))))).lt g33.symm)
  have ne33_x8 : x8 ≠ b33 := Nat.ne_of_lt (Nat.lt_of_lt_of_eq (Exa.wr W32 (Exa.wr W30 (Exa.wr W28 (Exa.wr W26 (Exa.wr W24 (Exa.wr W22 (Exa.wr W20 (Exa.wr W18 (Exa.wr W16 (Exa.wr W14 (Exa.wr W12 (Exa.wr W10 (Exa.wr W8 (Ex8.ext E6)))))))))))))).lt g33.symm)
  have ne33_x9 : x9 ≠ b33 := Nat.ne_of_lt (Nat.lt_of_lt_of_eq (Exa.wr W32 (Exa.wr W30 (Exa.wr W28 (Exa.wr W26 (Exa.wr W24 (Exa.wr W22 (Exa.wr W20 (Exa.wr W18 (Exa.wr W16 (Exa.wr W14 (Exa.wr W12 (Exa.wr W10 (Exa.wr W8 (Ex9.ext E6)))))))))))))).lt g33.symm)
  have ne33_x10 : x10 ≠ b33 := Nat.ne_of_lt (Nat.lt_of_lt_of_eq (Exa.wr W32 (Exa.wr W30 (Exa.wr W28 (Exa.wr W26 (Exa.wr W24 (Exa.wr W22 (Exa.wr W20 (Exa.wr W18 (Exa.wr W16 (Exa.wr W14 (Exa.wr W12 (Exa.wr W10 (Exa.wr W8 (Ex10.ext E6)))))))))))))).lt g33.symm)
  have ne33_x11 : x11 ≠ b33 := Nat.ne_of_lt (Nat.lt_of_lt_of_eq (Exa.wr W32 (Exa.wr W30 (Exa.wr W28 (Exa.wr W26 (Exa.wr W24 (Exa.wr W22 (Exa.wr W20 (Exa.wr W18 (Exa.wr W16 (Exa.wr W14 (Exa.wr W12 (Exa.wr W10 (Exa.wr W8 (Ex11.ext E6)))))))))))))).lt g33.symm)
  have ne33_x12 : x12 ≠ b33 := Nat.ne_of_lt (Nat.lt_of_lt_of_eq (Exa.wr W32 (Exa.wr W30 (Exa.wr W28 (Exa.wr W26 (Exa.wr W24 (Exa.wr W22 (Exa.wr W20 (Exa.wr W18 (Exa.wr W16 (Exa.wr W14 (Exa.wr W12 (Exa.wr W10 (Exa.wr W8 (Ex12.ext E6)))))))))))))).lt g33.symm)
  have ne33_b6 : b6 ≠ b33 := Nat.ne_of_lt (Nat.lt_of_lt_of_eq V32.lt g33.symm)
  have ge_b33 : n0 ≤ b33 := Nat.le_trans (Nat.le_trans (Nat.le_trans (Nat.le_trans (Nat.le_trans (Nat.le_trans (Nat.le_trans (Nat.le_trans (Nat.le_trans (Nat.le_trans (Nat.le_trans (Nat.le_trans (Nat.le_trans (Nat.le_trans (Nat.le_trans Z0 E6.1) (Nat.le_of_eq (Wr.size W8).symm)) (Nat.le_of_eq (Wr.size W10).symm)) (Nat.le_of_eq (Wr.size W12).symm)) (Nat.le_of_eq (Wr.size W14).symm)) (Nat.le_of_eq (Wr.size W16).symm)) (Nat.le_of_eq (Wr.size W18).symm)) (Nat.le_of_eq (Wr.size W20).symm)) (Nat.le_of_eq (Wr.size W22).symm)) (Nat.le_of_eq (Wr.size W24).symm)) (Nat.le_of_eq (Wr.size W26).symm)) (Nat.le_of_eq (Wr.size W28).symm)) (Nat.le_of_eq (Wr.size W30).symm)) (Nat.le_of_eq (Wr.size W32).symm)) (Nat.le_of_eq g33.symm)
  have sz_b33 : h0.size ≤ b33 := Nat.le_trans (Keep.wr (Keep.wr (Keep.wr (Keep.wr (Keep.wr (Keep.wr (Keep.wr (Keep.wr (Keep.wr (Keep.wr (Keep.wr (Keep.wr (Keep.wr (Keep.ext (Keep.refl h0 []) E6) W8 (Or.inr sz_b6)) W10 (Or.inr sz_b6)) W12 (Or.inr sz_b6)) W14 (Or.inr sz_b6)) W16 (Or.inr sz_b6)) W18 (Or.inr sz_b6)) W20 (Or.inr sz_b6)) W22 (Or.inr sz_b6)) W24 (Or.inr sz_b6)) W26 (Or.inr sz_b6)) W28 (Or.inr sz_b6)) W30 (Or.inr sz_b6)) W32 (Or.inr sz_b6)).1 (Nat.le_of_eq g33.symm)
  refine own_st (fr' := (mkF m 96 #[.val (.int p0), .val (.ref b6), .unset, .unset, .unset, .unset] [(.ref b33), (.ref b33)])) (fun t k => XS.dup X33.here hx rfl (hb hby at_95) rfl rfl k) ?_
  refine own_st (fr' := (mkF m 97 #[.val (.int p0), .val (.ref b6), .unset, .unset, .unset, .unset] [(.int (0 : Int32)), (.ref b33), (.ref b33)])) (fun t k => XS.iconst X33.here hx rfl (hb hby at_96) k) ?_
  refine own_st (fr' := (mkF m 98 #[.val (.int p0), .val (.ref b6), .unset, .unset, .unset, .unset] [(.int (0 : Int32)), (.int (0 : Int32)), (.ref b33), (.ref b33)])) (fun t k => XS.iconst X33.here hx rfl (hb hby at_97) k) ?_
  refine own_zastore X33 hx hZ e33 V33 (by decide) (by decide) (hb hby at_98) ?_
  intro T34 h34 X34 e34 W34 V34
  have N34 := Fr.snoc X34 N32 ge_b33
  refine own_st (fr' := (mkF m 100 #[.val (.int p0), .val (.ref b6), .unset, .unset, .unset, .unset] [(.ref b33), (.ref b33)])) (fun t k => XS.dup X34.here hx rfl (hb hby at_99) rfl rfl k) ?_
  refine own_st (fr' := (mkF m 101 #[.val (.int p0), .val (.ref b6), .unset, .unset, .unset, .unset] [(.int (1 : Int32)), (.ref b33), (.ref b33)])) (fun t k => XS.iconst X34.here hx rfl (hb hby at_100) k) ?_
  refine own_st (fr' := (mkF m 102 #[.val (.int p0), .val (.ref b6), .unset, .unset, .unset, .unset] [(.int (1 : Int32)), (.int (1 : Int32)), (.ref b33), (.ref b33)])) (fun t k => XS.iconst X34.here hx rfl (hb hby at_101) k) ?_
  refine own_zastore X34 hx hZ e34 V34 (by decide) (by decide) (hb hby at_102) ?_
  intro T35 h35 X35 e35 W35 V35
  have N35 := Fr.snoc X35 N34 ge_b33
  refine own_st (fr' := (mkF m 104 #[.val (.int p0), .val (.ref b6), .unset, .unset, .unset, .unset] [(.ref b33), (.ref b33)])) (fun t k => XS.dup X35.here hx rfl (hb hby at_103) rfl rfl k) ?_
  refine own_st (fr' := (mkF m 105 #[.val (.int p0), .val (.ref b6), .unset, .unset, .unset, .unset] [(.int (2 : Int32)), (.ref b33), (.ref b33)])) (fun t k => XS.iconst X35.here hx rfl (hb hby at_104) k) ?_
  refine own_st (fr' := (mkF m 106 #[.val (.int p0), .val (.ref b6), .unset, .unset, .unset, .unset] [(.int (1 : Int32)), (.int (2 : Int32)), (.ref b33), (.ref b33)])) (fun t k => XS.iconst X35.here hx rfl (hb hby at_105) k) ?_
  refine own_zastore X35 hx hZ e35 V35 (by decide) (by decide) (hb hby at_106) ?_
  intro T36 h36 X36 e36 W36 V36
  have N36 := Fr.snoc X36 N35 ge_b33
  refine own_st (fr' := (mkF m 108 #[.val (.int p0), .val (.ref b6), .unset, .unset, .unset, .unset] [(.ref b33), (.ref b33)])) (fun t k => XS.dup X36.here hx rfl (hb hby at_107) rfl rfl k) ?_
  refine own_st (fr' := (mkF m 109 #[.val (.int p0), .val (.ref b6), .unset, .unset, .unset, .unset] [(.int (3 : Int32)), (.ref b33), (.ref b33)])) (fun t k => XS.iconst X36.here hx rfl (hb hby at_108) k) ?_
  refine own_st (fr' := (mkF m 110 #[.val (.int p0), .val (.ref b6), .unset, .unset, .unset, .unset] [(.int (1 : Int32)), (.int (3 : Int32)), (.ref b33), (.ref b33)])) (fun t k => XS.iconst X36.here hx rfl (hb hby at_109) k) ?_
  refine own_zastore X36 hx hZ e36 V36 (by decide) (by decide) (hb hby at_110) ?_
  intro T37 h37 X37 e37 W37 V37
  have N37 := Fr.snoc X37 N36 ge_b33
  refine own_st (fr' := (mkF m 112 #[.val (.int p0), .val (.ref b6), .unset, .unset, .unset, .unset] [(.ref b33), (.ref b33)])) (fun t k => XS.dup X37.here hx rfl (hb hby at_111) rfl rfl k) ?_
  refine own_st (fr' := (mkF m 113 #[.val (.int p0), .val (.ref b6), .unset, .unset, .unset, .unset] [(.int (4 : Int32)), (.ref b33), (.ref b33)])) (fun t k => XS.iconst X37.here hx rfl (hb hby at_112) k) ?_
  refine own_st (fr' := (mkF m 114 #[.val (.int p0), .val (.ref b6), .unset, .unset, .unset, .unset] [(.int (1 : Int32)), (.int (4 : Int32)), (.ref b33), (.ref b33)])) (fun t k => XS.iconst X37.here hx rfl (hb hby at_113) k) ?_
  refine own_zastore X37 hx hZ e37 V37 (by decide) (by decide) (hb hby at_114) ?_
  intro T38 h38 X38 e38 W38 V38
  have N38 := Fr.snoc X38 N37 ge_b33
  refine own_st (fr' := (mkF m 116 #[.val (.int p0), .val (.ref b6), .unset, .unset, .unset, .unset] [(.ref b33), (.ref b33)])) (fun t k => XS.dup X38.here hx rfl (hb hby at_115) rfl rfl k) ?_
  refine own_st (fr' := (mkF m 117 #[.val (.int p0), .val (.ref b6), .unset, .unset, .unset, .unset] [(.int (5 : Int32)), (.ref b33), (.ref b33)])) (fun t k => XS.iconst X38.here hx rfl (hb hby at_116) k) ?_
  refine own_st (fr' := (mkF m 118 #[.val (.int p0), .val (.ref b6), .unset, .unset, .unset, .unset] [(.int (1 : Int32)), (.int (5 : Int32)), (.ref b33), (.ref b33)])) (fun t k => XS.iconst X38.here hx rfl (hb hby at_117) k) ?_
  refine own_zastore X38 hx hZ e38 V38 (by decide) (by decide) (hb hby at_118) ?_
  intro T39 h39 X39 e39 W39 V39
  have N39 := Fr.snoc X39 N38 ge_b33
  refine own_st (fr' := (mkF m 120 #[.val (.int p0), .val (.ref b6), .unset, .unset, .unset, .unset] [(.ref b33), (.ref b33)])) (fun t k => XS.dup X39.here hx rfl (hb hby at_119) rfl rfl k) ?_
  refine own_st (fr' := (mkF m 122 #[.val (.int p0), .val (.ref b6), .unset, .unset, .unset, .unset] [(.int (6 : Int32)), (.ref b33), (.ref b33)])) (fun t k => XS.bipush X39.here hx rfl (hb hby at_120) k) ?_
  refine own_st (fr' := (mkF m 123 #[.val (.int p0), .val (.ref b6), .unset, .unset, .unset, .unset] [(.int (1 : Int32)), (.int (6 : Int32)), (.ref b33), (.ref b33)])) (fun t k => XS.iconst X39.here hx rfl (hb hby at_122) k) ?_
  refine own_zastore X39 hx hZ e39 V39 (by decide) (by decide) (hb hby at_123) ?_
  intro T40 h40 X40 e40 W40 V40
  have N40 := Fr.snoc X40 N39 ge_b33
  refine own_st (fr' := (mkF m 125 #[.val (.int p0), .val (.ref b6), .unset, .unset, .unset, .unset] [(.ref b33), (.ref b33)])) (fun t k => XS.dup X40.here hx rfl (hb hby at_124) rfl rfl k) ?_
  refine own_st (fr' := (mkF m 127 #[.val (.int p0), .val (.ref b6), .unset, .unset, .unset, .unset] [(.int (7 : Int32)), (.ref b33), (.ref b33)])) (fun t k => XS.bipush X40.here hx rfl (hb hby at_125) k) ?_
  refine own_st (fr' := (mkF m 128 #[.val (.int p0), .val (.ref b6), .unset, .unset, .unset, .unset] [(.int (1 : Int32)), (.int (7 : Int32)), (.ref b33), (.ref b33)])) (fun t k => XS.iconst X40.here hx rfl (hb hby at_127) k) ?_
  refine own_zastore X40 hx hZ e40 V40 (by decide) (by decide) (hb hby at_128) ?_
  intro T41 h41 X41 e41 W41 V41
  have N41 := Fr.snoc X41 N40 ge_b33
  refine own_st (fr' := (mkF m 130 #[.val (.int p0), .val (.ref b6), .unset, .unset, .unset, .unset] [(.ref b33), (.ref b33)])) (fun t k => XS.dup X41.here hx rfl (hb hby at_129) rfl rfl k) ?_
  refine own_st (fr' := (mkF m 132 #[.val (.int p0), .val (.ref b6), .unset, .unset, .unset, .unset] [(.int (8 : Int32)), (.ref b33), (.ref b33)])) (fun t k => XS.bipush X41.here hx rfl (hb hby at_130) k) ?_
  refine own_st (fr' := (mkF m 133 #[.val (.int p0), .val (.ref b6), .unset, .unset, .unset, .unset] [(.int (0 : Int32)), (.int (8 : Int32)), (.ref b33), (.ref b33)])) (fun t k => XS.iconst X41.here hx rfl (hb hby at_132) k) ?_
  refine own_zastore X41 hx hZ e41 V41 (by decide) (by decide) (hb hby at_133) ?_
  intro T42 h42 X42 e42 W42 V42
  have N42 := Fr.snoc X42 N41 ge_b33
  refine own_st (fr' := (mkF m 135 #[.val (.int p0), .val (.ref b6), .unset, .unset, .unset, .unset] [(.ref b33), (.ref b33)])) (fun t k => XS.dup X42.here hx rfl (hb hby at_134) rfl rfl k) ?_
  refine own_st (fr' := (mkF m 137 #[.val (.int p0), .val (.ref b6), .unset, .unset, .unset, .unset] [(.int (9 : Int32)), (.ref b33), (.ref b33)])) (fun t k => XS.bipush X42.here hx rfl (hb hby at_135) k) ?_
  refine own_st (fr' := (mkF m 138 #[.val (.int p0), .val (.ref b6), .unset, .unset, .unset, .unset] [(.int (0 : Int32)), (.int (9 : Int32)), (.ref b33), (.ref b33)])) (fun t k => XS.iconst X42.here hx rfl (hb hby at_137) k) ?_
  refine own_zastore X42 hx hZ e42 V42 (by decide) (by decide) (hb hby at_138) ?_
  intro T43 h43 X43 e43 W43 V43
  have N43 := Fr.snoc X43 N42 ge_b33
  refine own_st (fr' := (mkF m 140 #[.val (.int p0), .val (.ref b6), .unset, .unset, .unset, .unset] [(.ref b33), (.ref b33)])) (fun t k => XS.dup X43.here hx rfl (hb hby at_139) rfl rfl k) ?_
  refine own_st (fr' := (mkF m 142 #[.val (.int p0), .val (.ref b6), .unset, .unset, .unset, .unset] [(.int (10 : Int32)), (.ref b33), (.ref b33)])) (fun t k => XS.bipush X43.here hx rfl (hb hby at_140) k) ?_
  refine own_st (fr' := (mkF m 143 #[.val (.int p0), .val (.ref b6), .unset, .unset, .unset, .unset] [(.int (0 : Int32)), (.int (10 : Int32)), (.ref b33), (.ref b33)])) (fun t k => XS.iconst X43.here hx rfl (hb hby at_142) k) ?_
  refine own_zastore X43 hx hZ e43 V43 (by decide) (by decide) (hb hby at_143) ?_
  intro T44 h44 X44 e44 W44 V44
  have N44 := Fr.snoc X44 N43 ge_b33
  refine own_st (fr' := (mkF m 145 #[.val (.int p0), .val (.ref b6), .unset, .unset, .unset, .unset] [(.ref b33), (.ref b33)])) (fun t k => XS.dup X44.here hx rfl (hb hby at_144) rfl rfl k) ?_
  refine own_st (fr' := (mkF m 147 #[.val (.int p0), .val (.ref b6), .unset, .unset, .unset, .unset] [(.int (11 : Int32)), (.ref b33), (.ref b33)])) (fun t k => XS.bipush X44.here hx rfl (hb hby at_145) k) ?_
  refine own_st (fr' := (mkF m 148 #[.val (.int p0), .val (.ref b6), .unset, .unset, .unset, .unset] [(.int (1 : Int32)), (.int (11 : Int32)), (.ref b33), (.ref b33)])) (fun t k => XS.iconst X44.here hx rfl (hb hby at_147) k) ?_
  refine own_zastore X44 hx hZ e44 V44 (by decide) (by decide) (hb hby at_148) ?_
  intro T45 h45 X45 e45 W45 V45
  have N45 := Fr.snoc X45 N44 ge_b33
  refine own_st (fr' := (mkF m 150 #[.val (.int p0), .val (.ref b6), .unset, .unset, .unset, .unset] [(.ref b33), (.ref b33)])) (fun t k => XS.dup X45.here hx rfl (hb hby at_149) rfl rfl k) ?_
  refine own_st (fr' := (mkF m 152 #[.val (.int p0), .val (.ref b6), .unset, .unset, .unset, .unset] [(.int (12 : Int32)), (.ref b33), (.ref b33)])) (fun t k => XS.bipush X45.here hx rfl (hb hby at_150) k) ?_
  refine own_st (fr' := (mkF m 153 #[.val (.int p0), .val (.ref b6), .unset, .unset, .unset, .unset] [(.int (1 : Int32)), (.int (12 : Int32)), (.ref b33), (.ref b33)])) (fun t k => XS.iconst X45.here hx rfl (hb hby at_152) k) ?_
  refine own_zastore X45 hx hZ e45 V45 (by decide) (by decide) (hb hby at_153) ?_
  intro T46 h46 X46 e46 W46 V46
  have N46 := Fr.snoc X46 N45 ge_b33
  refine own_st (fr' := (mkF m 155 #[.val (.int p0), .val (.ref b6), .val (.ref b33), .unset, .unset, .unset] [])) (fun t k => XS.astoreN X46.here hx rfl (hb hby at_154) rfl rfl (l' := #[.val (.int p0), .val (.ref b6), .val (.ref b33), .unset, .unset, .unset]) rfl k) ?_
  refine own_st (fr' := (mkF m 156 #[.val (.int p0), .val (.ref b6), .val (.ref b33), .unset, .unset, .unset] [(.int p0)])) (fun t k => XS.iloadN X46.here hx rfl (hb hby at_155) rfl  k) ?_
  refine own_st (fr' := (mkF m 158 #[.val (.int p0), .val (.ref b6), .val (.ref b33), .unset, .unset, .unset] [(.int (2147483647 : Int32)), (.int p0)])) (fun t k => X46.ldcInt hx hown (mvT hZ (hw _ (List.mem_of_getElem? (i := 43) rfl))) (g := (mkF m 156 #[.val (.int p0), .val (.ref b6), .val (.ref b33), .unset, .unset, .unset] [(.int p0)])) rfl (hb hby at_156) t k) ?_
  refine own_st (fr' := (mkF m 159 #[.val (.int p0), .val (.ref b6), .val (.ref b33), .unset, .unset, .unset] [(.int (p0 &&& (2147483647 : Int32)))])) (fun t k => XS.iand X46.here hx rfl (hb hby at_158) rfl k) ?_
  refine own_st (fr' := (mkF m 161 #[.val (.int p0), .val (.ref b6), .val (.ref b33), .unset, .unset, .unset] [(.int (13 : Int32)), (.int (p0 &&& (2147483647 : Int32)))])) (fun t k => XS.bipush X46.here hx rfl (hb hby at_159) k) ?_
  refine own_st (fr' := (mkF m 162 #[.val (.int p0), .val (.ref b6), .val (.ref b33), .unset, .unset, .unset] [(.int ((p0 &&& (2147483647 : Int32)) % (13 : Int32)))])) (fun t k => iremM X46 hx rfl (hb hby at_161) rfl (by decide) k) ?_
  refine own_st (fr' := (mkF m 163 #[.val (.int p0), .val (.ref b6), .val (.ref b33), .val (.int ((p0 &&& (2147483647 : Int32)) % (13 : Int32))), .unset, .unset] [])) (fun t k => XS.istoreN X46.here hx rfl (hb hby at_162) rfl  (l' := #[.val (.int p0), .val (.ref b6), .val (.ref b33), .val (.int ((p0 &&& (2147483647 : Int32)) % (13 : Int32))), .unset, .unset]) rfl k) ?_
  have q1 := c_mask p0 2147483647 31 (by decide) (by decide)
  have q2 := c_irem (p0 &&& 2147483647) 13 13 rfl
  generalize ((p0 &&& (2147483647 : Int32)) % (13 : Int32)) = ix at q2 ⊢
  have hix : ix.toInt = 0 ∨ ix.toInt = 1 ∨ ix.toInt = 2 ∨ ix.toInt = 3 ∨ ix.toInt = 4 ∨ ix.toInt = 5 ∨ ix.toInt = 6 ∨ ix.toInt = 7 ∨ ix.toInt = 8 ∨ ix.toInt = 9 ∨ ix.toInt = 10 ∨ ix.toInt = 11 ∨ ix.toInt = 12 := by omega
  rcases hix with hix | hix | hix | hix | hix | hix | hix | hix | hix | hix | hix | hix | hix
  · obtain rfl : ix = (0 : Int32) := Int32.toInt_inj.mp hix
    refine own_st (fr' := (mkF m 164 #[.val (.int p0), .val (.ref b6), .val (.ref b33), .val (.int (0 : Int32)), .unset, .unset] [(.ref b6)])) (fun t k => XS.aloadN X46.here hx rfl (hb hby at_163) rfl rfl k) ?_
    refine own_st (fr' := (mkF m 165 #[.val (.int p0), .val (.ref b6), .val (.ref b33), .val (.int (0 : Int32)), .unset, .unset] [(.int (0 : Int32)), (.ref b6)])) (fun t k => XS.iloadN X46.here hx rfl (hb hby at_164) rfl  k) ?_
    refine own_aaload X46 hx hZ e46 ((((((((((((((V32.ext E33).other W34 ne33_b6).other W35 ne33_b6).other W36 ne33_b6).other W37 ne33_b6).other W38 ne33_b6).other W39 ne33_b6).other W40 ne33_b6).other W41 ne33_b6).other W42 ne33_b6).other W43 ne33_b6).other W44 ne33_b6).other W45 ne33_b6).other W46 ne33_b6) rfl (by decide) (by decide) (v := (.ref x0)) (rfl) (hb hby at_165) ?_
    refine own_st (fr' := (mkF m 168 #[.val (.int p0), .val (.ref b6), .val (.ref b33), .val (.int (0 : Int32)), .val (.ref x0), .unset] [])) (fun t k => XS.astore X46.here hx rfl (hb hby at_166) rfl rfl (l' := #[.val (.int p0), .val (.ref b6), .val (.ref b33), .val (.int (0 : Int32)), .val (.ref x0), .unset]) rfl k) ?_
    refine own_st (fr' := (mkF m 170 #[.val (.int p0), .val (.ref b6), .val (.ref b33), .val (.int (0 : Int32)), .val (.ref x0), .unset] [(.ref x0)])) (fun t k => XS.aload X46.here hx rfl (hb hby at_168) rfl rfl k) ?_
    refine own_callV X46 hx hZ (y := (⟨"com/example/precedence/precedence/xpath/Axis", "overlaps", "()Z"⟩ : MethodName)) (z := (⟨"com/example/precedence/precedence/xpath/Axis", "overlaps", "()Z"⟩ : MethodName)) hown (hw _ (List.mem_of_getElem? (i := 44) rfl)) (hw _ (List.mem_of_getElem? (i := 45) rfl)) (notFace_of_selects (args := #[]) (mvT hZ (hw _ (List.mem_of_getElem? (i := 47) rfl)))) (hw _ (List.mem_of_getElem? (i := 47) rfl)) (hw _ (List.mem_of_getElem? (i := 46) rfl)) (hw _ (List.mem_of_getElem? (i := 3) rfl)) (hw _ (List.mem_of_getElem? (i := 48) rfl)) (by decide) (a := x0) (argsL := []) (rest := []) (W := 0) (rm_ovl l Z a0 hw [] x0 x0 x8 x9 x10 h46 n0 (Nat.le_trans (Nat.le_trans (Nat.le_trans (Nat.le_trans (Nat.le_trans (Nat.le_trans (Nat.le_trans (Nat.le_trans (Nat.le_trans (Nat.le_trans (Nat.le_trans (Nat.le_trans (Nat.le_trans (Nat.le_trans (Nat.le_trans (Nat.le_trans (Nat.le_trans (Nat.le_trans (Nat.le_trans (Nat.le_trans (Nat.le_trans (Nat.le_trans (Nat.le_trans (Nat.le_trans (Nat.le_trans (Nat.le_trans (Nat.le_trans (Nat.le_trans Z0 E6.1) (Nat.le_of_eq (Wr.size W8).symm)) (Nat.le_of_eq (Wr.size W10).symm)) (Nat.le_of_eq (Wr.size W12).symm)) (Nat.le_of_eq (Wr.size W14).symm)) (Nat.le_of_eq (Wr.size W16).symm)) (Nat.le_of_eq (Wr.size W18).symm)) (Nat.le_of_eq (Wr.size W20).symm)) (Nat.le_of_eq (Wr.size W22).symm)) (Nat.le_of_eq (Wr.size W24).symm)) (Nat.le_of_eq (Wr.size W26).symm)) (Nat.le_of_eq (Wr.size W28).symm)) (Nat.le_of_eq (Wr.size W30).symm)) (Nat.le_of_eq (Wr.size W32).symm)) E33.1) (Nat.le_of_eq (Wr.size W34).symm)) (Nat.le_of_eq (Wr.size W35).symm)) (Nat.le_of_eq (Wr.size W36).symm)) (Nat.le_of_eq (Wr.size W37).symm)) (Nat.le_of_eq (Wr.size W38).symm)) (Nat.le_of_eq (Wr.size W39).symm)) (Nat.le_of_eq (Wr.size W40).symm)) (Nat.le_of_eq (Wr.size W41).symm)) (Nat.le_of_eq (Wr.size W42).symm)) (Nat.le_of_eq (Wr.size W43).symm)) (Nat.le_of_eq (Wr.size W44).symm)) (Nat.le_of_eq (Wr.size W45).symm)) (Nat.le_of_eq (Wr.size W46).symm)) (Sta.wr W46 (Sta.wr W45 (Sta.wr W44 (Sta.wr W43 (Sta.wr W42 (Sta.wr W41 (Sta.wr W40 (Sta.wr W39 (Sta.wr W38 (Sta.wr W37 (Sta.wr W36 (Sta.wr W35 (Sta.wr W34 (Sta.ext E33 (Sta.wr W32 (Sta.wr W30 (Sta.wr W28 (Sta.wr W26 (Sta.wr W24 (Sta.wr W22 (Sta.wr W20 (Sta.wr W18 (Sta.wr W16 (Sta.wr W14 (Sta.wr W12 (Sta.wr W10 (Sta.wr W8 (Sta.ext E6 S0)))))))))))))))))))))))))))) (Sta.wr W46 (Sta.wr W45 (Sta.wr W44 (Sta.wr W43 (Sta.wr W42 (Sta.wr W41 (Sta.wr W40 (Sta.wr W39 (Sta.wr W38 (Sta.wr W37 (Sta.wr W36 (Sta.wr W35 (Sta.wr W34 (Sta.ext E33 (Sta.wr W32 (Sta.wr W30 (Sta.wr W28 (Sta.wr W26 (Sta.wr W24 (Sta.wr W22 (Sta.wr W20 (Sta.wr W18 (Sta.wr W16 (Sta.wr W14 (Sta.wr W12 (Sta.wr W10 (Sta.wr W8 (Sta.ext E6 S8)))))))))))))))))))))))))))) (Sta.wr W46 (Sta.wr W45 (Sta.wr W44 (Sta.wr W43 (Sta.wr W42 (Sta.wr W41 (Sta.wr W40 (Sta.wr W39 (Sta.wr W38 (Sta.wr W37 (Sta.wr W36 (Sta.wr W35 (Sta.wr W34 (Sta.ext E33 (Sta.wr W32 (Sta.wr W30 (Sta.wr W28 (Sta.wr W26 (Sta.wr W24 (Sta.wr W22 (Sta.wr W20 (Sta.wr W18 (Sta.wr W16 (Sta.wr W14 (Sta.wr W12 (Sta.wr W10 (Sta.wr W8 (Sta.ext E6 S9)))))))))))))))))))))))))))) (Sta.wr W46 (Sta.wr W45 (Sta.wr W44 (Sta.wr W43 (Sta.wr W42 (Sta.wr W41 (Sta.wr W40 (Sta.wr W39 (Sta.wr W38 (Sta.wr W37 (Sta.wr W36 (Sta.wr W35 (Sta.wr W34 (Sta.ext E33 (Sta.wr W32 (Sta.wr W30 (Sta.wr W28 (Sta.wr W26 (Sta.wr W24 (Sta.wr W22 (Sta.wr W20 (Sta.wr W18 (Sta.wr W16 (Sta.wr W14 (Sta.wr W12 (Sta.wr W10 (Sta.wr W8 (Sta.ext E6 S10))))))))))))))))))))))))))))) e46 (Exa.wr W46 (Exa.wr W45 (Exa.wr W44 (Exa.wr W43 (Exa.wr W42 (Exa.wr W41 (Exa.wr W40 (Exa.wr W39 (Exa.wr W38 (Exa.wr W37 (Exa.wr W36 (Exa.wr W35 (Exa.wr W34 ((Exa.wr W32 (Exa.wr W30 (Exa.wr W28 (Exa.wr W26 (Exa.wr W24 (Exa.wr W22 (Exa.wr W20 (Exa.wr W18 (Exa.wr W16 (Exa.wr W14 (Exa.wr W12 (Exa.wr W10 (Exa.wr W8 (Ex0.ext E6)))))))))))))).ext E33)))))))))))))) (by rw [hml]; rfl) (lenOf pd_0 rfl) rfl (Nat.le_of_eq rfl) (hb hby at_170) (by decide) (by decide) (by decide) (by decide) ?_
    intro v47 T47 L47 X47 hQ47
    obtain ⟨rfl, Nq47, eq47⟩ := hQ47
    have N47 := Fr.app N46 Nq47
    rw [show (if x0 = x0 ∨ x0 = x8 ∨ x0 = x9 ∨ x0 = x10 then (0 : Int32) else 1) = 0 from if_pos (by simp)]
    refine own_st (fr' := (mkF m 175 #[.val (.int p0), .val (.ref b6), .val (.ref b33), .val (.int (0 : Int32)), .val (.ref x0), .val (.int (0 : Int32))] [])) (fun t k => XS.istore X47.here hx rfl (hb hby at_173) rfl  (l' := #[.val (.int p0), .val (.ref b6), .val (.ref b33), .val (.int (0 : Int32)), .val (.ref x0), .val (.int (0 : Int32))]) rfl k) ?_
    refine own_st (fr' := (mkF m 177 #[.val (.int p0), .val (.ref b6), .val (.ref b33), .val (.int (0 : Int32)), .val (.ref x0), .val (.int (0 : Int32))] [(.int (0 : Int32))])) (fun t k => XS.iload X47.here hx rfl (hb hby at_175) rfl  k) ?_
    refine own_st (fr' := (mkF m 178 #[.val (.int p0), .val (.ref b6), .val (.ref b33), .val (.int (0 : Int32)), .val (.ref x0), .val (.int (0 : Int32))] [(.ref b33), (.int (0 : Int32))])) (fun t k => XS.aloadN X47.here hx rfl (hb hby at_177) rfl rfl k) ?_
    refine own_st (fr' := (mkF m 179 #[.val (.int p0), .val (.ref b6), .val (.ref b33), .val (.int (0 : Int32)), .val (.ref x0), .val (.int (0 : Int32))] [(.int (0 : Int32)), (.ref b33), (.int (0 : Int32))])) (fun t k => XS.iloadN X47.here hx rfl (hb hby at_178) rfl  k) ?_
    refine own_zaload X47 hx hZ eq47 V46 (by decide) (by decide) (v := (.int (0 : Int32))) (rfl) (hb hby at_179) ?_
    refine own_st (fr' := (mkF m 183 #[.val (.int p0), .val (.ref b6), .val (.ref b33), .val (.int (0 : Int32)), .val (.ref x0), .val (.int (0 : Int32))] [])) (fun t k => XS.icmpNo X47.here hx rfl (hb hby at_180) rfl (own_teq (x := (0 : Int32)) (y := (0 : Int32)) (show 0 = 0 from rfl)).2 k) ?_
    refine own_st (fr' := (mkF m 185 #[.val (.int p0), .val (.ref b6), .val (.ref b33), .val (.int (0 : Int32)), .val (.ref x0), .val (.int (0 : Int32))] [(.ref x0)])) (fun t k => XS.aload X47.here hx rfl (hb hby at_183) rfl rfl k) ?_
    refine own_callV X47 hx hZ (y := (⟨"com/example/precedence/precedence/xpath/Axis", "reverse", "()Z"⟩ : MethodName)) (z := (⟨"com/example/precedence/precedence/xpath/Axis", "reverse", "()Z"⟩ : MethodName)) hown (hw _ (List.mem_of_getElem? (i := 50) rfl)) (hw _ (List.mem_of_getElem? (i := 51) rfl)) (notFace_of_selects (args := #[]) (mvT hZ (hw _ (List.mem_of_getElem? (i := 53) rfl)))) (hw _ (List.mem_of_getElem? (i := 53) rfl)) (hw _ (List.mem_of_getElem? (i := 52) rfl)) (hw _ (List.mem_of_getElem? (i := 3) rfl)) (hw _ (List.mem_of_getElem? (i := 54) rfl)) (by decide) (a := x0) (argsL := []) (rest := []) (W := 0) (rm_rev l Z a0 hw [] x0 0 h46 n0 (Nat.le_trans (Nat.le_trans (Nat.le_trans (Nat.le_trans (Nat.le_trans (Nat.le_trans (Nat.le_trans (Nat.le_trans (Nat.le_trans (Nat.le_trans (Nat.le_trans (Nat.le_trans (Nat.le_trans (Nat.le_trans (Nat.le_trans (Nat.le_trans (Nat.le_trans (Nat.le_trans (Nat.le_trans (Nat.le_trans (Nat.le_trans (Nat.le_trans (Nat.le_trans (Nat.le_trans (Nat.le_trans (Nat.le_trans (Nat.le_trans (Nat.le_trans Z0 E6.1) (Nat.le_of_eq (Wr.size W8).symm)) (Nat.le_of_eq (Wr.size W10).symm)) (Nat.le_of_eq (Wr.size W12).symm)) (Nat.le_of_eq (Wr.size W14).symm)) (Nat.le_of_eq (Wr.size W16).symm)) (Nat.le_of_eq (Wr.size W18).symm)) (Nat.le_of_eq (Wr.size W20).symm)) (Nat.le_of_eq (Wr.size W22).symm)) (Nat.le_of_eq (Wr.size W24).symm)) (Nat.le_of_eq (Wr.size W26).symm)) (Nat.le_of_eq (Wr.size W28).symm)) (Nat.le_of_eq (Wr.size W30).symm)) (Nat.le_of_eq (Wr.size W32).symm)) E33.1) (Nat.le_of_eq (Wr.size W34).symm)) (Nat.le_of_eq (Wr.size W35).symm)) (Nat.le_of_eq (Wr.size W36).symm)) (Nat.le_of_eq (Wr.size W37).symm)) (Nat.le_of_eq (Wr.size W38).symm)) (Nat.le_of_eq (Wr.size W39).symm)) (Nat.le_of_eq (Wr.size W40).symm)) (Nat.le_of_eq (Wr.size W41).symm)) (Nat.le_of_eq (Wr.size W42).symm)) (Nat.le_of_eq (Wr.size W43).symm)) (Nat.le_of_eq (Wr.size W44).symm)) (Nat.le_of_eq (Wr.size W45).symm)) (Nat.le_of_eq (Wr.size W46).symm)) (Fld.other W46 (Fld.other W45 (Fld.other W44 (Fld.other W43 (Fld.other W42 (Fld.other W41 (Fld.other W40 (Fld.other W39 (Fld.other W38 (Fld.other W37 (Fld.other W36 (Fld.other W35 (Fld.other W34 ((Fld.other W32 (Fld.other W30 (Fld.other W28 (Fld.other W26 (Fld.other W24 (Fld.other W22 (Fld.other W20 (Fld.other W18 (Fld.other W16 (Fld.other W14 (Fld.other W12 (Fld.other W10 (Fld.other W8 (F0.ext E6) (Or.inl ne6_x0)) (Or.inl ne6_x0)) (Or.inl ne6_x0)) (Or.inl ne6_x0)) (Or.inl ne6_x0)) (Or.inl ne6_x0)) (Or.inl ne6_x0)) (Or.inl ne6_x0)) (Or.inl ne6_x0)) (Or.inl ne6_x0)) (Or.inl ne6_x0)) (Or.inl ne6_x0)) (Or.inl ne6_x0)).ext E33) (Or.inl ne33_x0)) (Or.inl ne33_x0)) (Or.inl ne33_x0)) (Or.inl ne33_x0)) (Or.inl ne33_x0)) (Or.inl ne33_x0)) (Or.inl ne33_x0)) (Or.inl ne33_x0)) (Or.inl ne33_x0)) (Or.inl ne33_x0)) (Or.inl ne33_x0)) (Or.inl ne33_x0)) (Or.inl ne33_x0)) (Or.inl rfl)) eq47 (Exa.wr W46 (Exa.wr W45 (Exa.wr W44 (Exa.wr W43 (Exa.wr W42 (Exa.wr W41 (Exa.wr W40 (Exa.wr W39 (Exa.wr W38 (Exa.wr W37 (Exa.wr W36 (Exa.wr W35 (Exa.wr W34 ((Exa.wr W32 (Exa.wr W30 (Exa.wr W28 (Exa.wr W26 (Exa.wr W24 (Exa.wr W22 (Exa.wr W20 (Exa.wr W18 (Exa.wr W16 (Exa.wr W14 (Exa.wr W12 (Exa.wr W10 (Exa.wr W8 (Ex0.ext E6)))))))))))))).ext E33)))))))))))))) (by rw [hml]; rfl) (lenOf pd_0 rfl) rfl (Nat.le_of_eq rfl) (hb hby at_185) (by decide) (by decide) (by decide) (by decide) ?_
    intro v48 T48 L48 X48 hQ48
    obtain ⟨rfl, Nq48, eq48⟩ := hQ48
    have N48 := Fr.app N47 Nq48
    refine own_st (fr' := (mkF m 196 #[.val (.int p0), .val (.ref b6), .val (.ref b33), .val (.int (0 : Int32)), .val (.ref x0), .val (.int (0 : Int32))] [])) (fun t k => XS.ifYes X48.here hx rfl (pc0 := 188) (pc' := 196) rfl (hb hby at_188) rfl ((if0 _ _).trans (own_teq (x := (0 : Int32)) (y := (0 : Int32)) (show 0 = 0 from rfl)).1) (by decide) (by decide) k) ?_
    refine own_st (fr' := (mkF m 197 #[.val (.int p0), .val (.ref b6), .val (.ref b33), .val (.int (0 : Int32)), .val (.ref x0), .val (.int (0 : Int32))] [(.int (1 : Int32))])) (fun t k => XS.iconst X48.here hx rfl (hb hby at_196) k) ?_
    refine own_st (fr' := (mkF m 201 #[.val (.int p0), .val (.ref b6), .val (.ref b33), .val (.int (0 : Int32)), .val (.ref x0), .val (.int (0 : Int32))] [(.int (1 : Int32))])) (fun t k => XS.goto X48.here hx rfl (pc0 := 197) (pc' := 201) rfl (hb hby at_197) (by decide) (by decide) k) ?_
    exact own_retZ X48 hx hlk hret (Or.inr rfl) (hb hby at_201) (by decide) (by decide) (⟨rfl, N48⟩)
  · obtain rfl : ix = (1 : Int32) := Int32.toInt_inj.mp hix
    refine own_st (fr' := (mkF m 164 #[.val (.int p0), .val (.ref b6), .val (.ref b33), .val (.int (1 : Int32)), .unset, .unset] [(.ref b6)])) (fun t k => XS.aloadN X46.here hx rfl (hb hby at_163) rfl rfl k) ?_
    refine own_st (fr' := (mkF m 165 #[.val (.int p0), .val (.ref b6), .val (.ref b33), .val (.int (1 : Int32)), .unset, .unset] [(.int (1 : Int32)), (.ref b6)])) (fun t k => XS.iloadN X46.here hx rfl (hb hby at_164) rfl  k) ?_
    refine own_aaload X46 hx hZ e46 ((((((((((((((V32.ext E33).other W34 ne33_b6).other W35 ne33_b6).other W36 ne33_b6).other W37 ne33_b6).other W38 ne33_b6).other W39 ne33_b6).other W40 ne33_b6).other W41 ne33_b6).other W42 ne33_b6).other W43 ne33_b6).other W44 ne33_b6).other W45 ne33_b6).other W46 ne33_b6) rfl (by decide) (by decide) (v := (.ref x1)) (rfl) (hb hby at_165) ?_
    refine own_st (fr' := (mkF m 168 #[.val (.int p0), .val (.ref b6), .val (.ref b33), .val (.int (1 : Int32)), .val (.ref x1), .unset] [])) (fun t k => XS.astore X46.here hx rfl (hb hby at_166) rfl rfl (l' := #[.val (.int p0), .val (.ref b6), .val (.ref b33), .val (.int (1 : Int32)), .val (.ref x1), .unset]) rfl k) ?_
    refine own_st (fr' := (mkF m 170 #[.val (.int p0), .val (.ref b6), .val (.ref b33), .val (.int (1 : Int32)), .val (.ref x1), .unset] [(.ref x1)])) (fun t k => XS.aload X46.here hx rfl (hb hby at_168) rfl rfl k) ?_
    refine own_callV X46 hx hZ (y := (⟨"com/example/precedence/precedence/xpath/Axis", "overlaps", "()Z"⟩ : MethodName)) (z := (⟨"com/example/precedence/precedence/xpath/Axis", "overlaps", "()Z"⟩ : MethodName)) hown (hw _ (List.mem_of_getElem? (i := 44) rfl)) (hw _ (List.mem_of_getElem? (i := 45) rfl)) (notFace_of_selects (args := #[]) (mvT hZ (hw _ (List.mem_of_getElem? (i := 81) rfl)))) (hw _ (List.mem_of_getElem? (i := 81) rfl)) (hw _ (List.mem_of_getElem? (i := 46) rfl)) (hw _ (List.mem_of_getElem? (i := 3) rfl)) (hw _ (List.mem_of_getElem? (i := 48) rfl)) (by decide) (a := x1) (argsL := []) (rest := []) (W := 0) (rm_ovl l Z a0 hw [] x1 x0 x8 x9 x10 h46 n0 (Nat.le_trans (Nat.le_trans (Nat.le_trans (Nat.le_trans (Nat.le_trans (Nat.le_trans (Nat.le_trans (Nat.le_trans (Nat.le_trans (Nat.le_trans (Nat.le_trans (Nat.le_trans (Nat.le_trans (Nat.le_trans (Nat.le_trans (Nat.le_trans (Nat.le_trans (Nat.le_trans (Nat.le_trans (Nat.le_trans (Nat.le_trans (Nat.le_trans (Nat.le_trans (Nat.le_trans (Nat.le_trans (Nat.le_trans (Nat.le_trans (Nat.le_trans Z0 E6.1) (Nat.le_of_eq (Wr.size W8).symm)) (Nat.le_of_eq (Wr.size W10).symm)) (Nat.le_of_eq (Wr.size W12).symm)) (Nat.le_of_eq (Wr.size W14).symm)) (Nat.le_of_eq (Wr.size W16).symm)) (Nat.le_of_eq (Wr.size W18).symm)) (Nat.le_of_eq (Wr.size W20).symm)) (Nat.le_of_eq (Wr.size W22).symm)) (Nat.le_of_eq (Wr.size W24).symm)) (Nat.le_of_eq (Wr.size W26).symm)) (Nat.le_of_eq (Wr.size W28).symm)) (Nat.le_of_eq (Wr.size W30).symm)) (Nat.le_of_eq (Wr.size W32).symm)) E33.1) (Nat.le_of_eq (Wr.size W34).symm)) (Nat.le_of_eq (Wr.size W35).symm)) (Nat.le_of_eq (Wr.size W36).symm)) (Nat.le_of_eq (Wr.size W37).symm)) (Nat.le_of_eq (Wr.size W38).symm)) (Nat.le_of_eq (Wr.size W39).symm)) (Nat.le_of_eq (Wr.size W40).symm)) (Nat.le_of_eq (Wr.size W41).symm)) (Nat.le_of_eq (Wr.size W42).symm)) (Nat.le_of_eq (Wr.size W43).symm)) (Nat.le_of_eq (Wr.size W44).symm)) (Nat.le_of_eq (Wr.size W45).symm)) (Nat.le_of_eq (Wr.size W46).symm)) (Sta.wr W46 (Sta.wr W45 (Sta.wr W44 (Sta.wr W43 (Sta.wr W42 (Sta.wr W41 (Sta.wr W40 (Sta.wr W39 (Sta.wr W38 (Sta.wr W37 (Sta.wr W36 (Sta.wr W35 (Sta.wr W34 (Sta.ext E33 (Sta.wr W32 (Sta.wr W30 (Sta.wr W28 (Sta.wr W26 (Sta.wr W24 (Sta.wr W22 (Sta.wr W20 (Sta.wr W18 (Sta.wr W16 (Sta.wr W14 (Sta.wr W12 (Sta.wr W10 (Sta.wr W8 (Sta.ext E6 S0)))))))))))))))))))))))))))) (Sta.wr W46 (Sta.wr W45 (Sta.wr W44 (Sta.wr W43 (Sta.wr W42 (Sta.wr W41 (Sta.wr W40 (Sta.wr W39 (Sta.wr W38 (Sta.wr W37 (Sta.wr W36 (Sta.wr W35 (Sta.wr W34 (Sta.ext E33 (Sta.wr W32 (Sta.wr W30 (Sta.wr W28 (Sta.wr W26 (Sta.wr W24 (Sta.wr W22 (Sta.wr W20 (Sta.wr W18 (Sta.wr W16 (Sta.wr W14 (Sta.wr W12 (Sta.wr W10 (Sta.wr W8 (Sta.ext E6 S8)))))))))))))))))))))))))))) (Sta.wr W46 (Sta.wr W45 (Sta.wr W44 (Sta.wr W43 (Sta.wr W42 (Sta.wr W41 (Sta.wr W40 (Sta.wr W39 (Sta.wr W38 (Sta.wr W37 (Sta.wr W36 (Sta.wr W35 (Sta.wr W34 (Sta.ext E33 (Sta.wr W32 (Sta.wr W30 (Sta.wr W28 (Sta.wr W26 (Sta.wr W24 (Sta.wr W22 (Sta.wr W20 (Sta.wr W18 (Sta.wr W16 (Sta.wr W14 (Sta.wr W12 (Sta.wr W10 (Sta.wr W8 (Sta.ext E6 S9)))))))))))))))))))))))))))) (Sta.wr W46 (Sta.wr W45 (Sta.wr W44 (Sta.wr W43 (Sta.wr W42 (Sta.wr W41 (Sta.wr W40 (Sta.wr W39 (Sta.wr W38 (Sta.wr W37 (Sta.wr W36 (Sta.wr W35 (Sta.wr W34 (Sta.ext E33 (Sta.wr W32 (Sta.wr W30 (Sta.wr W28 (Sta.wr W26 (Sta.wr W24 (Sta.wr W22 (Sta.wr W20 (Sta.wr W18 (Sta.wr W16 (Sta.wr W14 (Sta.wr W12 (Sta.wr W10 (Sta.wr W8 (Sta.ext E6 S10))))))))))))))))))))))))))))) e46 (Exa.wr W46 (Exa.wr W45 (Exa.wr W44 (Exa.wr W43 (Exa.wr W42 (Exa.wr W41 (Exa.wr W40 (Exa.wr W39 (Exa.wr W38 (Exa.wr W37 (Exa.wr W36 (Exa.wr W35 (Exa.wr W34 ((Exa.wr W32 (Exa.wr W30 (Exa.wr W28 (Exa.wr W26 (Exa.wr W24 (Exa.wr W22 (Exa.wr W20 (Exa.wr W18 (Exa.wr W16 (Exa.wr W14 (Exa.wr W12 (Exa.wr W10 (Exa.wr W8 (Ex1.ext E6)))))))))))))).ext E33)))))))))))))) (by rw [hml]; rfl) (lenOf pd_0 rfl) rfl (Nat.le_of_eq rfl) (hb hby at_170) (by decide) (by decide) (by decide) (by decide) ?_
    intro v49 T49 L49 X49 hQ49
    obtain ⟨rfl, Nq49, eq49⟩ := hQ49
    have N49 := Fr.app N46 Nq49
    rw [show (if x1 = x0 ∨ x1 = x8 ∨ x1 = x9 ∨ x1 = x10 then (0 : Int32) else 1) = 1 from if_neg (by simp [ne_exa Ex1 Ex0 (by decide), ne_exa Ex1 Ex8 (by decide), ne_exa Ex1 Ex9 (by decide), ne_exa Ex1 Ex10 (by decide)])]
    refine own_st (fr' := (mkF m 175 #[.val (.int p0), .val (.ref b6), .val (.ref b33), .val (.int (1 : Int32)), .val (.ref x1), .val (.int (1 : Int32))] [])) (fun t k => XS.istore X49.here hx rfl (hb hby at_173) rfl  (l' := #[.val (.int p0), .val (.ref b6), .val (.ref b33), .val (.int (1 : Int32)), .val (.ref x1), .val (.int (1 : Int32))]) rfl k) ?_
    refine own_st (fr' := (mkF m 177 #[.val (.int p0), .val (.ref b6), .val (.ref b33), .val (.int (1 : Int32)), .val (.ref x1), .val (.int (1 : Int32))] [(.int (1 : Int32))])) (fun t k => XS.iload X49.here hx rfl (hb hby at_175) rfl  k) ?_
    refine own_st (fr' := (mkF m 178 #[.val (.int p0), .val (.ref b6), .val (.ref b33), .val (.int (1 : Int32)), .val (.ref x1), .val (.int (1 : Int32))] [(.ref b33), (.int (1 : Int32))])) (fun t k => XS.aloadN X49.here hx rfl (hb hby at_177) rfl rfl k) ?_
    refine own_st (fr' := (mkF m 179 #[.val (.int p0), .val (.ref b6), .val (.ref b33), .val (.int (1 : Int32)), .val (.ref x1), .val (.int (1 : Int32))] [(.int (1 : Int32)), (.ref b33), (.int (1 : Int32))])) (fun t k => XS.iloadN X49.here hx rfl (hb hby at_178) rfl  k) ?_
    refine own_zaload X49 hx hZ eq49 V46 (by decide) (by decide) (v := (.int (1 : Int32))) (rfl) (hb hby at_179) ?_
    refine own_st (fr' := (mkF m 183 #[.val (.int p0), .val (.ref b6), .val (.ref b33), .val (.int (1 : Int32)), .val (.ref x1), .val (.int (1 : Int32))] [])) (fun t k => XS.icmpNo X49.here hx rfl (hb hby at_180) rfl (own_teq (x := (1 : Int32)) (y := (1 : Int32)) (show 1 = 1 from rfl)).2 k) ?_
    refine own_st (fr' := (mkF m 185 #[.val (.int p0), .val (.ref b6), .val (.ref b33), .val (.int (1 : Int32)), .val (.ref x1), .val (.int (1 : Int32))] [(.ref x1)])) (fun t k => XS.aload X49.here hx rfl (hb hby at_183) rfl rfl k) ?_
    refine own_callV X49 hx hZ (y := (⟨"com/example/precedence/precedence/xpath/Axis", "reverse", "()Z"⟩ : MethodName)) (z := (⟨"com/example/precedence/precedence/xpath/Axis", "reverse", "()Z"⟩ : MethodName)) hown (hw _ (List.mem_of_getElem? (i := 50) rfl)) (hw _ (List.mem_of_getElem? (i := 51) rfl)) (notFace_of_selects (args := #[]) (mvT hZ (hw _ (List.mem_of_getElem? (i := 82) rfl)))) (hw _ (List.mem_of_getElem? (i := 82) rfl)) (hw _ (List.mem_of_getElem? (i := 52) rfl)) (hw _ (List.mem_of_getElem? (i := 3) rfl)) (hw _ (List.mem_of_getElem? (i := 54) rfl)) (by decide) (a := x1) (argsL := []) (rest := []) (W := 0) (rm_rev l Z a0 hw [] x1 0 h46 n0 (Nat.le_trans (Nat.le_trans (Nat.le_trans (Nat.le_trans (Nat.le_trans (Nat.le_trans (Nat.le_trans (Nat.le_trans (Nat.le_trans (Nat.le_trans (Nat.le_trans (Nat.le_trans (Nat.le_trans (Nat.le_trans (Nat.le_trans (Nat.le_trans (Nat.le_trans (Nat.le_trans (Nat.le_trans (Nat.le_trans (Nat.le_trans (Nat.le_trans (Nat.le_trans (Nat.le_trans (Nat.le_trans (Nat.le_trans (Nat.le_trans (Nat.le_trans Z0 E6.1) (Nat.le_of_eq (Wr.size W8).symm)) (Nat.le_of_eq (Wr.size W10).symm)) (Nat.le_of_eq (Wr.size W12).symm)) (Nat.le_of_eq (Wr.size W14).symm)) (Nat.le_of_eq (Wr.size W16).symm)) (Nat.le_of_eq (Wr.size W18).symm)) (Nat.le_of_eq (Wr.size W20).symm)) (Nat.le_of_eq (Wr.size W22).symm)) (Nat.le_of_eq (Wr.size W24).symm)) (Nat.le_of_eq (Wr.size W26).symm)) (Nat.le_of_eq (Wr.size W28).symm)) (Nat.le_of_eq (Wr.size W30).symm)) (Nat.le_of_eq (Wr.size W32).symm)) E33.1) (Nat.le_of_eq (Wr.size W34).symm)) (Nat.le_of_eq (Wr.size W35).symm)) (Nat.le_of_eq (Wr.size W36).symm)) (Nat.le_of_eq (Wr.size W37).symm)) (Nat.le_of_eq (Wr.size W38).symm)) (Nat.le_of_eq (Wr.size W39).symm)) (Nat.le_of_eq (Wr.size W40).symm)) (Nat.le_of_eq (Wr.size W41).symm)) (Nat.le_of_eq (Wr.size W42).symm)) (Nat.le_of_eq (Wr.size W43).symm)) (Nat.le_of_eq (Wr.size W44).symm)) (Nat.le_of_eq (Wr.size W45).symm)) (Nat.le_of_eq (Wr.size W46).symm)) (Fld.other W46 (Fld.other W45 (Fld.other W44 (Fld.other W43 (Fld.other W42 (Fld.other W41 (Fld.other W40 (Fld.other W39 (Fld.other W38 (Fld.other W37 (Fld.other W36 (Fld.other W35 (Fld.other W34 ((Fld.other W32 (Fld.other W30 (Fld.other W28 (Fld.other W26 (Fld.other W24 (Fld.other W22 (Fld.other W20 (Fld.other W18 (Fld.other W16 (Fld.other W14 (Fld.other W12 (Fld.other W10 (Fld.other W8 (F1.ext E6) (Or.inl ne6_x1)) (Or.inl ne6_x1)) (Or.inl ne6_x1)) (Or.inl ne6_x1)) (Or.inl ne6_x1)) (Or.inl ne6_x1)) (Or.inl ne6_x1)) (Or.inl ne6_x1)) (Or.inl ne6_x1)) (Or.inl ne6_x1)) (Or.inl ne6_x1)) (Or.inl ne6_x1)) (Or.inl ne6_x1)).ext E33) (Or.inl ne33_x1)) (Or.inl ne33_x1)) (Or.inl ne33_x1)) (Or.inl ne33_x1)) (Or.inl ne33_x1)) (Or.inl ne33_x1)) (Or.inl ne33_x1)) (Or.inl ne33_x1)) (Or.inl ne33_x1)) (Or.inl ne33_x1)) (Or.inl ne33_x1)) (Or.inl ne33_x1)) (Or.inl ne33_x1)) (Or.inl rfl)) eq49 (Exa.wr W46 (Exa.wr W45 (Exa.wr W44 (Exa.wr W43 (Exa.wr W42 (Exa.wr W41 (Exa.wr W40 (Exa.wr W39 (Exa.wr W38 (Exa.wr W37 (Exa.wr W36 (Exa.wr W35 (Exa.wr W34 ((Exa.wr W32 (Exa.wr W30 (Exa.wr W28 (Exa.wr W26 (Exa.wr W24 (Exa.wr W22 (Exa.wr W20 (Exa.wr W18 (Exa.wr W16 (Exa.wr W14 (Exa.wr W12 (Exa.wr W10 (Exa.wr W8 (Ex1.ext E6)))))))))))))).ext E33)))))))))))))) (by rw [hml]; rfl) (lenOf pd_0 rfl) rfl (Nat.le_of_eq rfl) (hb hby at_185) (by decide) (by decide) (by decide) (by decide) ?_
    intro v50 T50 L50 X50 hQ50
    obtain ⟨rfl, Nq50, eq50⟩ := hQ50
    have N50 := Fr.app N49 Nq50
    refine own_st (fr' := (mkF m 196 #[.val (.int p0), .val (.ref b6), .val (.ref b33), .val (.int (1 : Int32)), .val (.ref x1), .val (.int (1 : Int32))] [])) (fun t k => XS.ifYes X50.here hx rfl (pc0 := 188) (pc' := 196) rfl (hb hby at_188) rfl ((if0 _ _).trans (own_teq (x := (0 : Int32)) (y := (0 : Int32)) (show 0 = 0 from rfl)).1) (by decide) (by decide) k) ?_
    refine own_st (fr' := (mkF m 197 #[.val (.int p0), .val (.ref b6), .val (.ref b33), .val (.int (1 : Int32)), .val (.ref x1), .val (.int (1 : Int32))] [(.int (1 : Int32))])) (fun t k => XS.iconst X50.here hx rfl (hb hby at_196) k) ?_
    refine own_st (fr' := (mkF m 201 #[.val (.int p0), .val (.ref b6), .val (.ref b33), .val (.int (1 : Int32)), .val (.ref x1), .val (.int (1 : Int32))] [(.int (1 : Int32))])) (fun t k => XS.goto X50.here hx rfl (pc0 := 197) (pc' := 201) rfl (hb hby at_197) (by decide) (by decide) k) ?_
    exact own_retZ X50 hx hlk hret (Or.inr rfl) (hb hby at_201) (by decide) (by decide) (⟨rfl, N50⟩)
  · obtain rfl : ix = (2 : Int32) := Int32.toInt_inj.mp hix
    refine own_st (fr' := (mkF m 164 #[.val (.int p0), .val (.ref b6), .val (.ref b33), .val (.int (2 : Int32)), .unset, .unset] [(.ref b6)])) (fun t k => XS.aloadN X46.here hx rfl (hb hby at_163) rfl rfl k) ?_
    refine own_st (fr' := (mkF m 165 #[.val (.int p0), .val (.ref b6), .val (.ref b33), .val (.int (2 : Int32)), .unset, .unset] [(.int (2 : Int32)), (.ref b6)])) (fun t k => XS.iloadN X46.here hx rfl (hb hby at_164) rfl  k) ?_
    refine own_aaload X46 hx hZ e46 ((((((((((((((V32.ext E33).other W34 ne33_b6).other W35 ne33_b6).other W36 ne33_b6).other W37 ne33_b6).other W38 ne33_b6).other W39 ne33_b6).other W40 ne33_b6).other W41 ne33_b6).other W42 ne33_b6).other W43 ne33_b6).other W44 ne33_b6).other W45 ne33_b6).other W46 ne33_b6) rfl (by decide) (by decide) (v := (.ref x2)) (rfl) (hb hby at_165) ?_
    refine own_st (fr' := (mkF m 168 #[.val (.int p0), .val (.ref b6), .val (.ref b33), .val (.int (2 : Int32)), .val (.ref x2), .unset] [])) (fun t k => XS.astore X46.here hx rfl (hb hby at_166) rfl rfl (l' := #[.val (.int p0), .val (.ref b6), .val (.ref b33), .val (.int (2 : Int32)), .val (.ref x2), .unset]) rfl k) ?_
    refine own_st (fr' := (mkF m 170 #[.val (.int p0), .val (.ref b6), .val (.ref b33), .val (.int (2 : Int32)), .val (.ref x2), .unset] [(.ref x2)])) (fun t k => XS.aload X46.here hx rfl (hb hby at_168) rfl rfl k) ?_
    refine own_callV X46 hx hZ (y := (⟨"com/example/precedence/precedence/xpath/Axis", "overlaps", "()Z"⟩ : MethodName)) (z := (⟨"com/example/precedence/precedence/xpath/Axis", "overlaps", "()Z"⟩ : MethodName)) hown (hw _ (List.mem_of_getElem? (i := 44) rfl)) (hw _ (List.mem_of_getElem? (i := 45) rfl)) (notFace_of_selects (args := #[]) (mvT hZ (hw _ (List.mem_of_getElem? (i := 75) rfl)))) (hw _ (List.mem_of_getElem? (i := 75) rfl)) (hw _ (List.mem_of_getElem? (i := 46) rfl)) (hw _ (List.mem_of_getElem? (i := 3) rfl)) (hw _ (List.mem_of_getElem? (i := 48) rfl)) (by decide) (a := x2) (argsL := []) (rest := []) (W := 0) (rm_ovl l Z a0 hw [] x2 x0 x8 x9 x10 h46 n0 (Nat.le_trans (Nat.le_trans (Nat.le_trans (Nat.le_trans (Nat.le_trans (Nat.le_trans (Nat.le_trans (Nat.le_trans (Nat.le_trans (Nat.le_trans (Nat.le_trans (Nat.le_trans (Nat.le_trans (Nat.le_trans (Nat.le_trans (Nat.le_trans (Nat.le_trans (Nat.le_trans (Nat.le_trans (Nat.le_trans (Nat.le_trans (Nat.le_trans (Nat.le_trans (Nat.le_trans (Nat.le_trans (Nat.le_trans (Nat.le_trans (Nat.le_trans Z0 E6.1) (Nat.le_of_eq (Wr.size W8).symm)) (Nat.le_of_eq (Wr.size W10).symm)) (Nat.le_of_eq (Wr.size W12).symm)) (Nat.le_of_eq (Wr.size W14).symm)) (Nat.le_of_eq (Wr.size W16).symm)) (Nat.le_of_eq (Wr.size W18).symm)) (Nat.le_of_eq (Wr.size W20).symm)) (Nat.le_of_eq (Wr.size W22).symm)) (Nat.le_of_eq (Wr.size W24).symm)) (Nat.le_of_eq (Wr.size W26).symm)) (Nat.le_of_eq (Wr.size W28).symm)) (Nat.le_of_eq (Wr.size W30).symm)) (Nat.le_of_eq (Wr.size W32).symm)) E33.1) (Nat.le_of_eq (Wr.size W34).symm)) (Nat.le_of_eq (Wr.size W35).symm)) (Nat.le_of_eq (Wr.size W36).symm)) (Nat.le_of_eq (Wr.size W37).symm)) (Nat.le_of_eq (Wr.size W38).symm)) (Nat.le_of_eq (Wr.size W39).symm)) (Nat.le_of_eq (Wr.size W40).symm)) (Nat.le_of_eq (Wr.size W41).symm)) (Nat.le_of_eq (Wr.size W42).symm)) (Nat.le_of_eq (Wr.size W43).symm)) (Nat.le_of_eq (Wr.size W44).symm)) (Nat.le_of_eq (Wr.size W45).symm)) (Nat.le_of_eq (Wr.size W46).symm)) (Sta.wr W46 (Sta.wr W45 (Sta.wr W44 (Sta.wr W43 (Sta.wr W42 (Sta.wr W41 (Sta.wr W40 (Sta.wr W39 (Sta.wr W38 (Sta.wr W37 (Sta.wr W36 (Sta.wr W35 (Sta.wr W34 (Sta.ext E33 (Sta.wr W32 (Sta.wr W30 (Sta.wr W28 (Sta.wr W26 (Sta.wr W24 (Sta.wr W22 (Sta.wr W20 (Sta.wr W18 (Sta.wr W16 (Sta.wr W14 (Sta.wr W12 (Sta.wr W10 (Sta.wr W8 (Sta.ext E6 S0)))))))))))))))))))))))))))) (Sta.wr W46 (Sta.wr W45 (Sta.wr W44 (Sta.wr W43 (Sta.wr W42 (Sta.wr W41 (Sta.wr W40 (Sta.wr W39 (Sta.wr W38 (Sta.wr W37 (Sta.wr W36 (Sta.wr W35 (Sta.wr W34 (Sta.ext E33 (Sta.wr W32 (Sta.wr W30 (Sta.wr W28 (Sta.wr W26 (Sta.wr W24 (Sta.wr W22 (Sta.wr W20 (Sta.wr W18 (Sta.wr W16 (Sta.wr W14 (Sta.wr W12 (Sta.wr W10 (Sta.wr W8 (Sta.ext E6 S8)))))))))))))))))))))))))))) (Sta.wr W46 (Sta.wr W45 (Sta.wr W44 (Sta.wr W43 (Sta.wr W42 (Sta.wr W41 (Sta.wr W40 (Sta.wr W39 (Sta.wr W38 (Sta.wr W37 (Sta.wr W36 (Sta.wr W35 (Sta.wr W34 (Sta.ext E33 (Sta.wr W32 (Sta.wr W30 (Sta.wr W28 (Sta.wr W26 (Sta.wr W24 (Sta.wr W22 (Sta.wr W20 (Sta.wr W18 (Sta.wr W16 (Sta.wr W14 (Sta.wr W12 (Sta.wr W10 (Sta.wr W8 (Sta.ext E6 S9)))))))))))))))))))))))))))) (Sta.wr W46 (Sta.wr W45 (Sta.wr W44 (Sta.wr W43 (Sta.wr W42 (Sta.wr W41 (Sta.wr W40 (Sta.wr W39 (Sta.wr W38 (Sta.wr W37 (Sta.wr W36 (Sta.wr W35 (Sta.wr W34 (Sta.ext E33 (Sta.wr W32 (Sta.wr W30 (Sta.wr W28 (Sta.wr W26 (Sta.wr W24 (Sta.wr W22 (Sta.wr W20 (Sta.wr W18 (Sta.wr W16 (Sta.wr W14 (Sta.wr W12 (Sta.wr W10 (Sta.wr W8 (Sta.ext E6 S10))))))))))))))))))))))))))))) e46 (Exa.wr W46 (Exa.wr W45 (Exa.wr W44 (Exa.wr W43 (Exa.wr W42 (Exa.wr W41 (Exa.wr W40 (Exa.wr W39 (Exa.wr W38 (Exa.wr W37 (Exa.wr W36 (Exa.wr W35 (Exa.wr W34 ((Exa.wr W32 (Exa.wr W30 (Exa.wr W28 (Exa.wr W26 (Exa.wr W24 (Exa.wr W22 (Exa.wr W20 (Exa.wr W18 (Exa.wr W16 (Exa.wr W14 (Exa.wr W12 (Exa.wr W10 (Exa.wr W8 (Ex2.ext E6)))))))))))))).ext E33)))))))))))))) (by rw [hml]; rfl) (lenOf pd_0 rfl) rfl (Nat.le_of_eq rfl) (hb hby at_170) (by decide) (by decide) (by decide) (by decide) ?_
    intro v51 T51 L51 X51 hQ51
    obtain ⟨rfl, Nq51, eq51⟩ := hQ51
    have N51 := Fr.app N46 Nq51
    rw [show (if x2 = x0 ∨ x2 = x8 ∨ x2 = x9 ∨ x2 = x10 then (0 : Int32) else 1) = 1 from if_neg (by simp [ne_exa Ex2 Ex0 (by decide), ne_exa Ex2 Ex8 (by decide), ne_exa Ex2 Ex9 (by decide), ne_exa Ex2 Ex10 (by decide)])]
    refine own_st (fr' := (mkF m 175 #[.val (.int p0), .val (.ref b6), .val (.ref b33), .val (.int (2 : Int32)), .val (.ref x2), .val (.int (1 : Int32))] [])) (fun t k => XS.istore X51.here hx rfl (hb hby at_173) rfl  (l' := #[.val (.int p0), .val (.ref b6), .val (.ref b33), .val (.int (2 : Int32)), .val (.ref x2), .val (.int (1 : Int32))]) rfl k) ?_
    refine own_st (fr' := (mkF m 177 #[.val (.int p0), .val (.ref b6), .val (.ref b33), .val (.int (2 : Int32)), .val (.ref x2), .val (.int (1 : Int32))] [(.int (1 : Int32))])) (fun t k => XS.iload X51.here hx rfl (hb hby at_175) rfl  k) ?_
    refine own_st (fr' := (mkF m 178 #[.val (.int p0), .val (.ref b6), .val (.ref b33), .val (.int (2 : Int32)), .val (.ref x2), .val (.int (1 : Int32))] [(.ref b33), (.int (1 : Int32))])) (fun t k => XS.aloadN X51.here hx rfl (hb hby at_177) rfl rfl k) ?_
    refine own_st (fr' := (mkF m 179 #[.val (.int p0), .val (.ref b6), .val (.ref b33), .val (.int (2 : Int32)), .val (.ref x2), .val (.int (1 : Int32))] [(.int (2 : Int32)), (.ref b33), (.int (1 : Int32))])) (fun t k => XS.iloadN X51.here hx rfl (hb hby at_178) rfl  k) ?_
    refine own_zaload X51 hx hZ eq51 V46 (by decide) (by decide) (v := (.int (1 : Int32))) (rfl) (hb hby at_179) ?_
    refine own_st (fr' := (mkF m 183 #[.val (.int p0), .val (.ref b6), .val (.ref b33), .val (.int (2 : Int32)), .val (.ref x2), .val (.int (1 : Int32))] [])) (fun t k => XS.icmpNo X51.here hx rfl (hb hby at_180) rfl (own_teq (x := (1 : Int32)) (y := (1 : Int32)) (show 1 = 1 from rfl)).2 k) ?_
    refine own_st (fr' := (mkF m 185 #[.val (.int p0), .val (.ref b6), .val (.ref b33), .val (.int (2 : Int32)), .val (.ref x2), .val (.int (1 : Int32))] [(.ref x2)])) (fun t k => XS.aload X51.here hx rfl (hb hby at_183) rfl rfl k) ?_
    refine own_callV X51 hx hZ (y := (⟨"com/example/precedence/precedence/xpath/Axis", "reverse", "()Z"⟩ : MethodName)) (z := (⟨"com/example/precedence/precedence/xpath/Axis", "reverse", "()Z"⟩ : MethodName)) hown (hw _ (List.mem_of_getElem? (i := 50) rfl)) (hw _ (List.mem_of_getElem? (i := 51) rfl)) (notFace_of_selects (args := #[]) (mvT hZ (hw _ (List.mem_of_getElem? (i := 76) rfl)))) (hw _ (List.mem_of_getElem? (i := 76) rfl)) (hw _ (List.mem_of_getElem? (i := 52) rfl)) (hw _ (List.mem_of_getElem? (i := 3) rfl)) (hw _ (List.mem_of_getElem? (i := 54) rfl)) (by decide) (a := x2) (argsL := []) (rest := []) (W := 0) (rm_rev l Z a0 hw [] x2 0 h46 n0 (Nat.le_trans (Nat.le_trans (Nat.le_trans (Nat.le_trans (Nat.le_trans (Nat.le_trans (Nat.le_trans (Nat.le_trans (Nat.le_trans (Nat.le_trans (Nat.le_trans (Nat.le_trans (Nat.le_trans (Nat.le_trans (Nat.le_trans (Nat.le_trans (Nat.le_trans (Nat.le_trans (Nat.le_trans (Nat.le_trans (Nat.le_trans (Nat.le_trans (Nat.le_trans (Nat.le_trans (Nat.le_trans (Nat.le_trans (Nat.le_trans (Nat.le_trans Z0 E6.1) (Nat.le_of_eq (Wr.size W8).symm)) (Nat.le_of_eq (Wr.size W10).symm)) (Nat.le_of_eq (Wr.size W12).symm)) (Nat.le_of_eq (Wr.size W14).symm)) (Nat.le_of_eq (Wr.size W16).symm)) (Nat.le_of_eq (Wr.size W18).symm)) (Nat.le_of_eq (Wr.size W20).symm)) (Nat.le_of_eq (Wr.size W22).symm)) (Nat.le_of_eq (Wr.size W24).symm)) (Nat.le_of_eq (Wr.size W26).symm)) (Nat.le_of_eq (Wr.size W28).symm)) (Nat.le_of_eq (Wr.size W30).symm)) (Nat.le_of_eq (Wr.size W32).symm)) E33.1) (Nat.le_of_eq (Wr.size W34).symm)) (Nat.le_of_eq (Wr.size W35).symm)) (Nat.le_of_eq (Wr.size W36).symm)) (Nat.le_of_eq (Wr.size W37).symm)) (Nat.le_of_eq (Wr.size W38).symm)) (Nat.le_of_eq (Wr.size W39).symm)) (Nat.le_of_eq (Wr.size W40).symm)) (Nat.le_of_eq (Wr.size W41).symm)) (Nat.le_of_eq (Wr.size W42).symm)) (Nat.le_of_eq (Wr.size W43).symm)) (Nat.le_of_eq (Wr.size W44).symm)) (Nat.le_of_eq (Wr.size W45).symm)) (Nat.le_of_eq (Wr.size W46).symm)) (Fld.other W46 (Fld.other W45 (Fld.other W44 (Fld.other W43 (Fld.other W42 (Fld.other W41 (Fld.other W40 (Fld.other W39 (Fld.other W38 (Fld.other W37 (Fld.other W36 (Fld.other W35 (Fld.other W34 ((Fld.other W32 (Fld.other W30 (Fld.other W28 (Fld.other W26 (Fld.other W24 (Fld.other W22 (Fld.other W20 (Fld.other W18 (Fld.other W16 (Fld.other W14 (Fld.other W12 (Fld.other W10 (Fld.other W8 (F2.ext E6) (Or.inl ne6_x2)) (Or.inl ne6_x2)) (Or.inl ne6_x2)) (Or.inl ne6_x2)) (Or.inl ne6_x2)) (Or.inl ne6_x2)) (Or.inl ne6_x2)) (Or.inl ne6_x2)) (Or.inl ne6_x2)) (Or.inl ne6_x2)) (Or.inl ne6_x2)) (Or.inl ne6_x2)) (Or.inl ne6_x2)).ext E33) (Or.inl ne33_x2)) (Or.inl ne33_x2)) (Or.inl ne33_x2)) (Or.inl ne33_x2)) (Or.inl ne33_x2)) (Or.inl ne33_x2)) (Or.inl ne33_x2)) (Or.inl ne33_x2)) (Or.inl ne33_x2)) (Or.inl ne33_x2)) (Or.inl ne33_x2)) (Or.inl ne33_x2)) (Or.inl ne33_x2)) (Or.inl rfl)) eq51 (Exa.wr W46 (Exa.wr W45 (Exa.wr W44 (Exa.wr W43 (Exa.wr W42 (Exa.wr W41 (Exa.wr W40 (Exa.wr W39 (Exa.wr W38 (Exa.wr W37 (Exa.wr W36 (Exa.wr W35 (Exa.wr W34 ((Exa.wr W32 (Exa.wr W30 (Exa.wr W28 (Exa.wr W26 (Exa.wr W24 (Exa.wr W22 (Exa.wr W20 (Exa.wr W18 (Exa.wr W16 (Exa.wr W14 (Exa.wr W12 (Exa.wr W10 (Exa.wr W8 (Ex2.ext E6)))))))))))))).ext E33)))))))))))))) (by rw [hml]; rfl) (lenOf pd_0 rfl) rfl (Nat.le_of_eq rfl) (hb hby at_185) (by decide) (by decide) (by decide) (by decide) ?_
    intro v52 T52 L52 X52 hQ52
    obtain ⟨rfl, Nq52, eq52⟩ := hQ52
    have N52 := Fr.app N51 Nq52
    refine own_st (fr' := (mkF m 196 #[.val (.int p0), .val (.ref b6), .val (.ref b33), .val (.int (2 : Int32)), .val (.ref x2), .val (.int (1 : Int32))] [])) (fun t k => XS.ifYes X52.here hx rfl (pc0 := 188) (pc' := 196) rfl (hb hby at_188) rfl ((if0 _ _).trans (own_teq (x := (0 : Int32)) (y := (0 : Int32)) (show 0 = 0 from rfl)).1) (by decide) (by decide) k) ?_
    refine own_st (fr' := (mkF m 197 #[.val (.int p0), .val (.ref b6), .val (.ref b33), .val (.int (2 : Int32)), .val (.ref x2), .val (.int (1 : Int32))] [(.int (1 : Int32))])) (fun t k => XS.iconst X52.here hx rfl (hb hby at_196) k) ?_
    refine own_st (fr' := (mkF m 201 #[.val (.int p0), .val (.ref b6), .val (.ref b33), .val (.int (2 : Int32)), .val (.ref x2), .val (.int (1 : Int32))] [(.int (1 : Int32))])) (fun t k => XS.goto X52.here hx rfl (pc0 := 197) (pc' := 201) rfl (hb hby at_197) (by decide) (by decide) k) ?_
    exact own_retZ X52 hx hlk hret (Or.inr rfl) (hb hby at_201) (by decide) (by decide) (⟨rfl, N52⟩)
  · obtain rfl : ix = (3 : Int32) := Int32.toInt_inj.mp hix
    refine own_st (fr' := (mkF m 164 #[.val (.int p0), .val (.ref b6), .val (.ref b33), .val (.int (3 : Int32)), .unset, .unset] [(.ref b6)])) (fun t k => XS.aloadN X46.here hx rfl (hb hby at_163) rfl rfl k) ?_
    refine own_st (fr' := (mkF m 165 #[.val (.int p0), .val (.ref b6), .val (.ref b33), .val (.int (3 : Int32)), .unset, .unset] [(.int (3 : Int32)), (.ref b6)])) (fun t k => XS.iloadN X46.here hx rfl (hb hby at_164) rfl  k) ?_
    refine own_aaload X46 hx hZ e46 ((((((((((((((V32.ext E33).other W34 ne33_b6).other W35 ne33_b6).other W36 ne33_b6).other W37 ne33_b6).other W38 ne33_b6).other W39 ne33_b6).other W40 ne33_b6).other W41 ne33_b6).other W42 ne33_b6).other W43 ne33_b6).other W44 ne33_b6).other W45 ne33_b6).other W46 ne33_b6) rfl (by decide) (by decide) (v := (.ref x3)) (rfl) (hb hby at_165) ?_
    refine own_st (fr' := (mkF m 168 #[.val (.int p0), .val (.ref b6), .val (.ref b33), .val (.int (3 : Int32)), .val (.ref x3), .unset] [])) (fun t k => XS.astore X46.here hx rfl (hb hby at_166) rfl rfl (l' := #[.val (.int p0), .val (.ref b6), .val (.ref b33), .val (.int (3 : Int32)), .val (.ref x3), .unset]) rfl k) ?_
    refine own_st (fr' := (mkF m 170 #[.val (.int p0), .val (.ref b6), .val (.ref b33), .val (.int (3 : Int32)), .val (.ref x3), .unset] [(.ref x3)])) (fun t k => XS.aload X46.here hx rfl (hb hby at_168) rfl rfl k) ?_
    refine own_callV X46 hx hZ (y := (⟨"com/example/precedence/precedence/xpath/Axis", "overlaps", "()Z"⟩ : MethodName)) (z := (⟨"com/example/precedence/precedence/xpath/Axis", "overlaps", "()Z"⟩ : MethodName)) hown (hw _ (List.mem_of_getElem? (i := 44) rfl)) (hw _ (List.mem_of_getElem? (i := 45) rfl)) (notFace_of_selects (args := #[]) (mvT hZ (hw _ (List.mem_of_getElem? (i := 57) rfl)))) (hw _ (List.mem_of_getElem? (i := 57) rfl)) (hw _ (List.mem_of_getElem? (i := 46) rfl)) (hw _ (List.mem_of_getElem? (i := 3) rfl)) (hw _ (List.mem_of_getElem? (i := 48) rfl)) (by decide) (a := x3) (argsL := []) (rest := []) (W := 0) (rm_ovl l Z a0 hw [] x3 x0 x8 x9 x10 h46 n0 (Nat.le_trans (Nat.le_trans (Nat.le_trans (Nat.le_trans (Nat.le_trans (Nat.le_trans (Nat.le_trans (Nat.le_trans (Nat.le_trans (Nat.le_trans (Nat.le_trans (Nat.le_trans (Nat.le_trans (Nat.le_trans (Nat.le_trans (Nat.le_trans (Nat.le_trans (Nat.le_trans (Nat.le_trans (Nat.le_trans (Nat.le_trans (Nat.le_trans (Nat.le_trans (Nat.le_trans (Nat.le_trans (Nat.le_trans (Nat.le_trans (Nat.le_trans Z0 E6.1) (Nat.le_of_eq (Wr.size W8).symm)) (Nat.le_of_eq (Wr.size W10).symm)) (Nat.le_of_eq (Wr.size W12).symm)) (Nat.le_of_eq (Wr.size W14).symm)) (Nat.le_of_eq (Wr.size W16).symm)) (Nat.le_of_eq (Wr.size W18).symm)) (Nat.le_of_eq (Wr.size W20).symm)) (Nat.le_of_eq (Wr.size W22).symm)) (Nat.le_of_eq (Wr.size W24).symm)) (Nat.le_of_eq (Wr.size W26).symm)) (Nat.le_of_eq (Wr.size W28).symm)) (Nat.le_of_eq (Wr.size W30).symm)) (Nat.le_of_eq (Wr.size W32).symm)) E33.1) (Nat.le_of_eq (Wr.size W34).symm)) (Nat.le_of_eq (Wr.size W35).symm)) (Nat.le_of_eq (Wr.size W36).symm)) (Nat.le_of_eq (Wr.size W37).symm)) (Nat.le_of_eq (Wr.size W38).symm)) (Nat.le_of_eq (Wr.size W39).symm)) (Nat.le_of_eq (Wr.size W40).symm)) (Nat.le_of_eq (Wr.size W41).symm)) (Nat.le_of_eq (Wr.size W42).symm)) (Nat.le_of_eq (Wr.size W43).symm)) (Nat.le_of_eq (Wr.size W44).symm)) (Nat.le_of_eq (Wr.size W45).symm)) (Nat.le_of_eq (Wr.size W46).symm)) (Sta.wr W46 (Sta.wr W45 (Sta.wr W44 (Sta.wr W43 (Sta.wr W42 (Sta.wr W41 (Sta.wr W40 (Sta.wr W39 (Sta.wr W38 (Sta.wr W37 (Sta.wr W36 (Sta.wr W35 (Sta.wr W34 (Sta.ext E33 (Sta.wr W32 (Sta.wr W30 (Sta.wr W28 (Sta.wr W26 (Sta.wr W24 (Sta.wr W22 (Sta.wr W20 (Sta.wr W18 (Sta.wr W16 (Sta.wr W14 (Sta.wr W12 (Sta.wr W10 (Sta.wr W8 (Sta.ext E6 S0)))))))))))))))))))))))))))) (Sta.wr W46 (Sta.wr W45 (Sta.wr W44 (Sta.wr W43 (Sta.wr W42 (Sta.wr W41 (Sta.wr W40 (Sta.wr W39 (Sta.wr W38 (Sta.wr W37 (Sta.wr W36 (Sta.wr W35 (Sta.wr W34 (Sta.ext E33 (Sta.wr W32 (Sta.wr W30 (Sta.wr W28 (Sta.wr W26 (Sta.wr W24 (Sta.wr W22 (Sta.wr W20 (Sta.wr W18 (Sta.wr W16 (Sta.wr W14 (Sta.wr W12 (Sta.wr W10 (Sta.wr W8 (Sta.ext E6 S8)))))))))))))))))))))))))))) (Sta.wr W46 (Sta.wr W45 (Sta.wr W44 (Sta.wr W43 (Sta.wr W42 (Sta.wr W41 (Sta.wr W40 (Sta.wr W39 (Sta.wr W38 (Sta.wr W37 (Sta.wr W36 (Sta.wr W35 (Sta.wr W34 (Sta.ext E33 (Sta.wr W32 (Sta.wr W30 (Sta.wr W28 (Sta.wr W26 (Sta.wr W24 (Sta.wr W22 (Sta.wr W20 (Sta.wr W18 (Sta.wr W16 (Sta.wr W14 (Sta.wr W12 (Sta.wr W10 (Sta.wr W8 (Sta.ext E6 S9)))))))))))))))))))))))))))) (Sta.wr W46 (Sta.wr W45 (Sta.wr W44 (Sta.wr W43 (Sta.wr W42 (Sta.wr W41 (Sta.wr W40 (Sta.wr W39 (Sta.wr W38 (Sta.wr W37 (Sta.wr W36 (Sta.wr W35 (Sta.wr W34 (Sta.ext E33 (Sta.wr W32 (Sta.wr W30 (Sta.wr W28 (Sta.wr W26 (Sta.wr W24 (Sta.wr W22 (Sta.wr W20 (Sta.wr W18 (Sta.wr W16 (Sta.wr W14 (Sta.wr W12 (Sta.wr W10 (Sta.wr W8 (Sta.ext E6 S10))))))))))))))))))))))))))))) e46 (Exa.wr W46 (Exa.wr W45 (Exa.wr W44 (Exa.wr W43 (Exa.wr W42 (Exa.wr W41 (Exa.wr W40 (Exa.wr W39 (Exa.wr W38 (Exa.wr W37 (Exa.wr W36 (Exa.wr W35 (Exa.wr W34 ((Exa.wr W32 (Exa.wr W30 (Exa.wr W28 (Exa.wr W26 (Exa.wr W24 (Exa.wr W22 (Exa.wr W20 (Exa.wr W18 (Exa.wr W16 (Exa.wr W14 (Exa.wr W12 (Exa.wr W10 (Exa.wr W8 (Ex3.ext E6)))))))))))))).ext E33)))))))))))))) (by rw [hml]; rfl) (lenOf pd_0 rfl) rfl (Nat.le_of_eq rfl) (hb hby at_170) (by decide) (by decide) (by decide) (by decide) ?_
    intro v53 T53 L53 X53 hQ53
    obtain ⟨rfl, Nq53, eq53⟩ := hQ53
    have N53 := Fr.app N46 Nq53
    rw [show (if x3 = x0 ∨ x3 = x8 ∨ x3 = x9 ∨ x3 = x10 then (0 : Int32) else 1) = 1 from if_neg (by simp [ne_exa Ex3 Ex0 (by decide), ne_exa Ex3 Ex8 (by decide), ne_exa Ex3 Ex9 (by decide), ne_exa Ex3 Ex10 (by decide)])]
    refine own_st (fr' := (mkF m 175 #[.val (.int p0), .val (.ref b6), .val (.ref b33), .val (.int (3 : Int32)), .val (.ref x3), .val (.int (1 : Int32))] [])) (fun t k => XS.istore X53.here hx rfl (hb hby at_173) rfl  (l' := #[.val (.int p0), .val (.ref b6), .val (.ref b33), .val (.int (3 : Int32)), .val (.ref x3), .val (.int (1 : Int32))]) rfl k) ?_
    refine own_st (fr' := (mkF m 177 #[.val (.int p0), .val (.ref b6), .val (.ref b33), .val (.int (3 : Int32)), .val (.ref x3), .val (.int (1 : Int32))] [(.int (1 : Int32))])) (fun t k => XS.iload X53.here hx rfl (hb hby at_175) rfl  k) ?_
    refine own_st (fr' := (mkF m 178 #[.val (.int p0), .val (.ref b6), .val (.ref b33), .val (.int (3 : Int32)), .val (.ref x3), .val (.int (1 : Int32))] [(.ref b33), (.int (1 : Int32))])) (fun t k => XS.aloadN X53.here hx rfl (hb hby at_177) rfl rfl k) ?_
    refine own_st (fr' := (mkF m 179 #[.val (.int p0), .val (.ref b6), .val (.ref b33), .val (.int (3 : Int32)), .val (.ref x3), .val (.int (1 : Int32))] [(.int (3 : Int32)), (.ref b33), (.int (1 : Int32))])) (fun t k => XS.iloadN X53.here hx rfl (hb hby at_178) rfl  k) ?_
    refine own_zaload X53 hx hZ eq53 V46 (by decide) (by decide) (v := (.int (1 : Int32))) (rfl) (hb hby at_179) ?_
    refine own_st (fr' := (mkF m 183 #[.val (.int p0), .val (.ref b6), .val (.ref b33), .val (.int (3 : Int32)), .val (.ref x3), .val (.int (1 : Int32))] [])) (fun t k => XS.icmpNo X53.here hx rfl (hb hby at_180) rfl (own_teq (x := (1 : Int32)) (y := (1 : Int32)) (show 1 = 1 from rfl)).2 k) ?_
    refine own_st (fr' := (mkF m 185 #[.val (.int p0), .val (.ref b6), .val (.ref b33), .val (.int (3 : Int32)), .val (.ref x3), .val (.int (1 : Int32))] [(.ref x3)])) (fun t k => XS.aload X53.here hx rfl (hb hby at_183) rfl rfl k) ?_
    refine own_callV X53 hx hZ (y := (⟨"com/example/precedence/precedence/xpath/Axis", "reverse", "()Z"⟩ : MethodName)) (z := (⟨"com/example/precedence/precedence/xpath/Axis", "reverse", "()Z"⟩ : MethodName)) hown (hw _ (List.mem_of_getElem? (i := 50) rfl)) (hw _ (List.mem_of_getElem? (i := 51) rfl)) (notFace_of_selects (args := #[]) (mvT hZ (hw _ (List.mem_of_getElem? (i := 61) rfl)))) (hw _ (List.mem_of_getElem? (i := 61) rfl)) (hw _ (List.mem_of_getElem? (i := 52) rfl)) (hw _ (List.mem_of_getElem? (i := 3) rfl)) (hw _ (List.mem_of_getElem? (i := 54) rfl)) (by decide) (a := x3) (argsL := []) (rest := []) (W := 0) (rm_rev l Z a0 hw [] x3 1 h46 n0 (Nat.le_trans (Nat.le_trans (Nat.le_trans (Nat.le_trans (Nat.le_trans (Nat.le_trans (Nat.le_trans (Nat.le_trans (Nat.le_trans (Nat.le_trans (Nat.le_trans (Nat.le_trans (Nat.le_trans (Nat.le_trans (Nat.le_trans (Nat.le_trans (Nat.le_trans (Nat.le_trans (Nat.le_trans (Nat.le_trans (Nat.le_trans (Nat.le_trans (Nat.le_trans (Nat.le_trans (Nat.le_trans (Nat.le_trans (Nat.le_trans (Nat.le_trans Z0 E6.1) (Nat.le_of_eq (Wr.size W8).symm)) (Nat.le_of_eq (Wr.size W10).symm)) (Nat.le_of_eq (Wr.size W12).symm)) (Nat.le_of_eq (Wr.size W14).symm)) (Nat.le_of_eq (Wr.size W16).symm)) (Nat.le_of_eq (Wr.size W18).symm)) (Nat.le_of_eq (Wr.size W20).symm)) (Nat.le_of_eq (Wr.size W22).symm)) (Nat.le_of_eq (Wr.size W24).symm)) (Nat.le_of_eq (Wr.size W26).symm)) (Nat.le_of_eq (Wr.size W28).symm)) (Nat.le_of_eq (Wr.size W30).symm)) (Nat.le_of_eq (Wr.size W32).symm)) E33.1) (Nat.le_of_eq (Wr.size W34).symm)) (Nat.le_of_eq (Wr.size W35).symm)) (Nat.le_of_eq (Wr.size W36).symm)) (Nat.le_of_eq (Wr.size W37).symm)) (Nat.le_of_eq (Wr.size W38).symm)) (Nat.le_of_eq (Wr.size W39).symm)) (Nat.le_of_eq (Wr.size W40).symm)) (Nat.le_of_eq (Wr.size W41).symm)) (Nat.le_of_eq (Wr.size W42).symm)) (Nat.le_of_eq (Wr.size W43).symm)) (Nat.le_of_eq (Wr.size W44).symm)) (Nat.le_of_eq (Wr.size W45).symm)) (Nat.le_of_eq (Wr.size W46).symm)) (Fld.other W46 (Fld.other W45 (Fld.other W44 (Fld.other W43 (Fld.other W42 (Fld.other W41 (Fld.other W40 (Fld.other W39 (Fld.other W38 (Fld.other W37 (Fld.other W36 (Fld.other W35 (Fld.other W34 ((Fld.other W32 (Fld.other W30 (Fld.other W28 (Fld.other W26 (Fld.other W24 (Fld.other W22 (Fld.other W20 (Fld.other W18 (Fld.other W16 (Fld.other W14 (Fld.other W12 (Fld.other W10 (Fld.other W8 (F3.ext E6) (Or.inl ne6_x3)) (Or.inl ne6_x3)) (Or.inl ne6_x3)) (Or.inl ne6_x3)) (Or.inl ne6_x3)) (Or.inl ne6_x3)) (Or.inl ne6_x3)) (Or.inl ne6_x3)) (Or.inl ne6_x3)) (Or.inl ne6_x3)) (Or.inl ne6_x3)) (Or.inl ne6_x3)) (Or.inl ne6_x3)).ext E33) (Or.inl ne33_x3)) (Or.inl ne33_x3)) (Or.inl ne33_x3)) (Or.inl ne33_x3)) (Or.inl ne33_x3)) (Or.inl ne33_x3)) (Or.inl ne33_x3)) (Or.inl ne33_x3)) (Or.inl ne33_x3)) (Or.inl ne33_x3)) (Or.inl ne33_x3)) (Or.inl ne33_x3)) (Or.inl ne33_x3)) (Or.inr rfl)) eq53 (Exa.wr W46 (Exa.wr W45 (Exa.wr W44 (Exa.wr W43 (Exa.wr W42 (Exa.wr W41 (Exa.wr W40 (Exa.wr W39 (Exa.wr W38 (Exa.wr W37 (Exa.wr W36 (Exa.wr W35 (Exa.wr W34 ((Exa.wr W32 (Exa.wr W30 (Exa.wr W28 (Exa.wr W26 (Exa.wr W24 (Exa.wr W22 (Exa.wr W20 (Exa.wr W18 (Exa.wr W16 (Exa.wr W14 (Exa.wr W12 (Exa.wr W10 (Exa.wr W8 (Ex3.ext E6)))))))))))))).ext E33)))))))))))))) (by rw [hml]; rfl) (lenOf pd_0 rfl) rfl (Nat.le_of_eq rfl) (hb hby at_185) (by decide) (by decide) (by decide) (by decide) ?_
    intro v54 T54 L54 X54 hQ54
    obtain ⟨rfl, Nq54, eq54⟩ := hQ54
    have N54 := Fr.app N53 Nq54
    refine own_st (fr' := (mkF m 191 #[.val (.int p0), .val (.ref b6), .val (.ref b33), .val (.int (3 : Int32)), .val (.ref x3), .val (.int (1 : Int32))] [])) (fun t k => XS.ifNo X54.here hx rfl (hb hby at_188) rfl ((if0 _ _).trans (own_feq (x := (1 : Int32)) (y := (0 : Int32)) (show ¬ 1 = 0 from by decide)).1) k) ?_
    refine own_st (fr' := (mkF m 193 #[.val (.int p0), .val (.ref b6), .val (.ref b33), .val (.int (3 : Int32)), .val (.ref x3), .val (.int (1 : Int32))] [(.int (1 : Int32))])) (fun t k => XS.iload X54.here hx rfl (hb hby at_191) rfl  k) ?_
    refine own_st (fr' := (mkF m 196 #[.val (.int p0), .val (.ref b6), .val (.ref b33), .val (.int (3 : Int32)), .val (.ref x3), .val (.int (1 : Int32))] [])) (fun t k => XS.ifNo X54.here hx rfl (hb hby at_193) rfl ((if0 _ _).trans (own_feq (x := (1 : Int32)) (y := (0 : Int32)) (show ¬ 1 = 0 from by decide)).1) k) ?_
    refine own_st (fr' := (mkF m 197 #[.val (.int p0), .val (.ref b6), .val (.ref b33), .val (.int (3 : Int32)), .val (.ref x3), .val (.int (1 : Int32))] [(.int (1 : Int32))])) (fun t k => XS.iconst X54.here hx rfl (hb hby at_196) k) ?_
    refine own_st (fr' := (mkF m 201 #[.val (.int p0), .val (.ref b6), .val (.ref b33), .val (.int (3 : Int32)), .val (.ref x3), .val (.int (1 : Int32))] [(.int (1 : Int32))])) (fun t k => XS.goto X54.here hx rfl (pc0 := 197) (pc' := 201) rfl (hb hby at_197) (by decide) (by decide) k) ?_
    exact own_retZ X54 hx hlk hret (Or.inr rfl) (hb hby at_201) (by decide) (by decide) (⟨rfl, N54⟩)
  · obtain rfl : ix = (4 : Int32) := Int32.toInt_inj.mp hix
    refine own_st (fr' := (mkF m 164 #[.val (.int p0), .val (.ref b6), .val (.ref b33), .val (.int (4 : Int32)), .unset, .unset] [(.ref b6)])) (fun t k => XS.aloadN X46.here hx rfl (hb hby at_163) rfl rfl k) ?_
    refine own_st (fr' := (mkF m 165 #[.val (.int p0), .val (.ref b6), .val (.ref b33), .val (.int (4 : Int32)), .unset, .unset] [(.int (4 : Int32)), (.ref b6)])) (fun t k => XS.iloadN X46.here hx rfl (hb hby at_164) rfl  k) ?_
    refine own_aaload X46 hx hZ e46 ((((((((((((((V32.ext E33).other W34 ne33_b6).other W35 ne33_b6).other W36 ne33_b6).other W37 ne33_b6).other W38 ne33_b6).other W39 ne33_b6).other W40 ne33_b6).other W41 ne33_b6).other W42 ne33_b6).other W43 ne33_b6).other W44 ne33_b6).other W45 ne33_b6).other W46 ne33_b6) rfl (by decide) (by decide) (v := (.ref x4)) (rfl) (hb hby at_165) ?_
    refine own_st (fr' := (mkF m 168 #[.val (.int p0), .val (.ref b6), .val (.ref b33), .val (.int (4 : Int32)), .val (.ref x4), .unset] [])) (fun t k => XS.astore X46.here hx rfl (hb hby at_166) rfl rfl (l' := #[.val (.int p0), .val (.ref b6), .val (.ref b33), .val (.int (4 : Int32)), .val (.ref x4), .unset]) rfl k) ?_
    refine own_st (fr' := (mkF m 170 #[.val (.int p0), .val (.ref b6), .val (.ref b33), .val (.int (4 : Int32)), .val (.ref x4), .unset] [(.ref x4)])) (fun t k => XS.aload X46.here hx rfl (hb hby at_168) rfl rfl k) ?_
    refine own_callV X46 hx hZ (y := (⟨"com/example/precedence/precedence/xpath/Axis", "overlaps", "()Z"⟩ : MethodName)) (z := (⟨"com/example/precedence/precedence/xpath/Axis", "overlaps", "()Z"⟩ : MethodName)) hown (hw _ (List.mem_of_getElem? (i := 44) rfl)) (hw _ (List.mem_of_getElem? (i := 45) rfl)) (notFace_of_selects (args := #[]) (mvT hZ (hw _ (List.mem_of_getElem? (i := 93) rfl)))) (hw _ (List.mem_of_getElem? (i := 93) rfl)) (hw _ (List.mem_of_getElem? (i := 46) rfl)) (hw _ (List.mem_of_getElem? (i := 3) rfl)) (hw _ (List.mem_of_getElem? (i := 48) rfl)) (by decide) (a := x4) (argsL := []) (rest := []) (W := 0) (rm_ovl l Z a0 hw [] x4 x0 x8 x9 x10 h46 n0 (Nat.le_trans (Nat.le_trans (Nat.le_trans (Nat.le_trans (Nat.le_trans (Nat.le_trans (Nat.le_trans (Nat.le_trans (Nat.le_trans (Nat.le_trans (Nat.le_trans (Nat.le_trans (Nat.le_trans (Nat.le_trans (Nat.le_trans (Nat.le_trans (Nat.le_trans (Nat.le_trans (Nat.le_trans (Nat.le_trans (Nat.le_trans (Nat.le_trans (Nat.le_trans (Nat.le_trans (Nat.le_trans (Nat.le_trans (Nat.le_trans (Nat.le_trans Z0 E6.1) (Nat.le_of_eq (Wr.size W8).symm)) (Nat.le_of_eq (Wr.size W10).symm)) (Nat.le_of_eq (Wr.size W12).symm)) (Nat.le_of_eq (Wr.size W14).symm)) (Nat.le_of_eq (Wr.size W16).symm)) (Nat.le_of_eq (Wr.size W18).symm)) (Nat.le_of_eq (Wr.size W20).symm)) (Nat.le_of_eq (Wr.size W22).symm)) (Nat.le_of_eq (Wr.size W24).symm)) (Nat.le_of_eq (Wr.size W26).symm)) (Nat.le_of_eq (Wr.size W28).symm)) (Nat.le_of_eq (Wr.size W30).symm)) (Nat.le_of_eq (Wr.size W32).symm)) E33.1) (Nat.le_of_eq (Wr.size W34).symm)) (Nat.le_of_eq (Wr.size W35).symm)) (Nat.le_of_eq (Wr.size W36).symm)) (Nat.le_of_eq (Wr.size W37).symm)) (Nat.le_of_eq (Wr.size W38).symm)) (Nat.le_of_eq (Wr.size W39).symm)) (Nat.le_of_eq (Wr.size W40).symm)) (Nat.le_of_eq (Wr.size W41).symm)) (Nat.le_of_eq (Wr.size W42).symm)) (Nat.le_of_eq (Wr.size W43).symm)) (Nat.le_of_eq (Wr.size W44).symm)) (Nat.le_of_eq (Wr.size W45).symm)) (Nat.le_of_eq (Wr.size W46).symm)) (Sta.wr W46 (Sta.wr W45 (Sta.wr W44 (Sta.wr W43 (Sta.wr W42 (Sta.wr W41 (Sta.wr W40 (Sta.wr W39 (Sta.wr W38 (Sta.wr W37 (Sta.wr W36 (Sta.wr W35 (Sta.wr W34 (Sta.ext E33 (Sta.wr W32 (Sta.wr W30 (Sta.wr W28 (Sta.wr W26 (Sta.wr W24 (Sta.wr W22 (Sta.wr W20 (Sta.wr W18 (Sta.wr W16 (Sta.wr W14 (Sta.wr W12 (Sta.wr W10 (Sta.wr W8 (Sta.ext E6 S0)))))))))))))))))))))))))))) (Sta.wr W46 (Sta.wr W45 (Sta.wr W44 (Sta.wr W43 (Sta.wr W42 (Sta.wr W41 (Sta.wr W40 (Sta.wr W39 (Sta.wr W38 (Sta.wr W37 (Sta.wr W36 (Sta.wr W35 (Sta.wr W34 (Sta.ext E33 (Sta.wr W32 (Sta.wr W30 (Sta.wr W28 (Sta.wr W26 (Sta.wr W24 (Sta.wr W22 (Sta.wr W20 (Sta.wr W18 (Sta.wr W16 (Sta.wr W14 (Sta.wr W12 (Sta.wr W10 (Sta.wr W8 (Sta.ext E6 S8)))))))))))))))))))))))))))) (Sta.wr W46 (Sta.wr W45 (Sta.wr W44 (Sta.wr W43 (Sta.wr W42 (Sta.wr W41 (Sta.wr W40 (Sta.wr W39 (Sta.wr W38 (Sta.wr W37 (Sta.wr W36 (Sta.wr W35 (Sta.wr W34 (Sta.ext E33 (Sta.wr W32 (Sta.wr W30 (Sta.wr W28 (Sta.wr W26 (Sta.wr W24 (Sta.wr W22 (Sta.wr W20 (Sta.wr W18 (Sta.wr W16 (Sta.wr W14 (Sta.wr W12 (Sta.wr W10 (Sta.wr W8 (Sta.ext E6 S9)))))))))))))))))))))))))))) (Sta.wr W46 (Sta.wr W45 (Sta.wr W44 (Sta.wr W43 (Sta.wr W42 (Sta.wr W41 (Sta.wr W40 (Sta.wr W39 (Sta.wr W38 (Sta.wr W37 (Sta.wr W36 (Sta.wr W35 (Sta.wr W34 (Sta.ext E33 (Sta.wr W32 (Sta.wr W30 (Sta.wr W28 (Sta.wr W26 (Sta.wr W24 (Sta.wr W22 (Sta.wr W20 (Sta.wr W18 (Sta.wr W16 (Sta.wr W14 (Sta.wr W12 (Sta.wr W10 (Sta.wr W8 (Sta.ext E6 S10))))))))))))))))))))))))))))) e46 (Exa.wr W46 (Exa.wr W45 (Exa.wr W44 (Exa.wr W43 (Exa.wr W42 (Exa.wr W41 (Exa.wr W40 (Exa.wr W39 (Exa.wr W38 (Exa.wr W37 (Exa.wr W36 (Exa.wr W35 (Exa.wr W34 ((Exa.wr W32 (Exa.wr W30 (Exa.wr W28 (Exa.wr W26 (Exa.wr W24 (Exa.wr W22 (Exa.wr W20 (Exa.wr W18 (Exa.wr W16 (Exa.wr W14 (Exa.wr W12 (Exa.wr W10 (Exa.wr W8 (Ex4.ext E6)))))))))))))).ext E33)))))))))))))) (by rw [hml]; rfl) (lenOf pd_0 rfl) rfl (Nat.le_of_eq rfl) (hb hby at_170) (by decide) (by decide) (by decide) (by decide) ?_
    intro v55 T55 L55 X55 hQ55
    obtain ⟨rfl, Nq55, eq55⟩ := hQ55
    have N55 := Fr.app N46 Nq55
    rw [show (if x4 = x0 ∨ x4 = x8 ∨ x4 = x9 ∨ x4 = x10 then (0 : Int32) else 1) = 1 from if_neg (by simp [ne_exa Ex4 Ex0 (by decide), ne_exa Ex4 Ex8 (by decide), ne_exa Ex4 Ex9 (by decide), ne_exa Ex4 Ex10 (by decide)])]
    refine own_st (fr' := (mkF m 175 #[.val (.int p0), .val (.ref b6), .val (.ref b33), .val (.int (4 : Int32)), .val (.ref x4), .val (.int (1 : Int32))] [])) (fun t k => XS.istore X55.here hx rfl (hb hby at_173) rfl  (l' := #[.val (.int p0), .val (.ref b6), .val (.ref b33), .val (.int (4 : Int32)), .val (.ref x4), .val (.int (1 : Int32))]) rfl k) ?_
    refine own_st (fr' := (mkF m 177 #[.val (.int p0), .val (.ref b6), .val (.ref b33), .val (.int (4 : Int32)), .val (.ref x4), .val (.int (1 : Int32))] [(.int (1 : Int32))])) (fun t k => XS.iload X55.here hx rfl (hb hby at_175) rfl  k) ?_
    refine own_st (fr' := (mkF m 178 #[.val (.int p0), .val (.ref b6), .val (.ref b33), .val (.int (4 : Int32)), .val (.ref x4), .val (.int (1 : Int32))] [(.ref b33), (.int (1 : Int32))])) (fun t k => XS.aloadN X55.here hx rfl (hb hby at_177) rfl rfl k) ?_
    refine own_st (fr' := (mkF m 179 #[.val (.int p0), .val (.ref b6), .val (.ref b33), .val (.int (4 : Int32)), .val (.ref x4), .val (.int (1 : Int32))] [(.int (4 : Int32)), (.ref b33), (.int (1 : Int32))])) (fun t k => XS.iloadN X55.here hx rfl (hb hby at_178) rfl  k) ?_
    refine own_zaload X55 hx hZ eq55 V46 (by decide) (by decide) (v := (.int (1 : Int32))) (rfl) (hb hby at_179) ?_
    refine own_st (fr' := (mkF m 183 #[.val (.int p0), .val (.ref b6), .val (.ref b33), .val (.int (4 : Int32)), .val (.ref x4), .val (.int (1 : Int32))] [])) (fun t k => XS.icmpNo X55.here hx rfl (hb hby at_180) rfl (own_teq (x := (1 : Int32)) (y := (1 : Int32)) (show 1 = 1 from rfl)).2 k) ?_
    refine own_st (fr' := (mkF m 185 #[.val (.int p0), .val (.ref b6), .val (.ref b33), .val (.int (4 : Int32)), .val (.ref x4), .val (.int (1 : Int32))] [(.ref x4)])) (fun t k => XS.aload X55.here hx rfl (hb hby at_183) rfl rfl k) ?_
    refine own_callV X55 hx hZ (y := (⟨"com/example/precedence/precedence/xpath/Axis", "reverse", "()Z"⟩ : MethodName)) (z := (⟨"com/example/precedence/precedence/xpath/Axis", "reverse", "()Z"⟩ : MethodName)) hown (hw _ (List.mem_of_getElem? (i := 50) rfl)) (hw _ (List.mem_of_getElem? (i := 51) rfl)) (notFace_of_selects (args := #[]) (mvT hZ (hw _ (List.mem_of_getElem? (i := 94) rfl)))) (hw _ (List.mem_of_getElem? (i := 94) rfl)) (hw _ (List.mem_of_getElem? (i := 52) rfl)) (hw _ (List.mem_of_getElem? (i := 3) rfl)) (hw _ (List.mem_of_getElem? (i := 54) rfl)) (by decide) (a := x4) (argsL := []) (rest := []) (W := 0) (rm_rev l Z a0 hw [] x4 0 h46 n0 (Nat.le_trans (Nat.le_trans (Nat.le_trans (Nat.le_trans (Nat.le_trans (Nat.le_trans (Nat.le_trans (Nat.le_trans (Nat.le_trans (Nat.le_trans (Nat.le_trans (Nat.le_trans (Nat.le_trans (Nat.le_trans (Nat.le_trans (Nat.le_trans (Nat.le_trans (Nat.le_trans (Nat.le_trans (Nat.le_trans (Nat.le_trans (Nat.le_trans (Nat.le_trans (Nat.le_trans (Nat.le_trans (Nat.le_trans (Nat.le_trans (Nat.le_trans Z0 E6.1) (Nat.le_of_eq (Wr.size W8).symm)) (Nat.le_of_eq (Wr.size W10).symm)) (Nat.le_of_eq (Wr.size W12).symm)) (Nat.le_of_eq (Wr.size W14).symm)) (Nat.le_of_eq (Wr.size W16).symm)) (Nat.le_of_eq (Wr.size W18).symm)) (Nat.le_of_eq (Wr.size W20).symm)) (Nat.le_of_eq (Wr.size W22).symm)) (Nat.le_of_eq (Wr.size W24).symm)) (Nat.le_of_eq (Wr.size W26).symm)) (Nat.le_of_eq (Wr.size W28).symm)) (Nat.le_of_eq (Wr.size W30).symm)) (Nat.le_of_eq (Wr.size W32).symm)) E33.1) (Nat.le_of_eq (Wr.size W34).symm)) (Nat.le_of_eq (Wr.size W35).symm)) (Nat.le_of_eq (Wr.size W36).symm)) (Nat.le_of_eq (Wr.size W37).symm)) (Nat.le_of_eq (Wr.size W38).symm)) (Nat.le_of_eq (Wr.size W39).symm)) (Nat.le_of_eq (Wr.size W40).symm)) (Nat.le_of_eq (Wr.size W41).symm)) (Nat.le_of_eq (Wr.size W42).symm)) (Nat.le_of_eq (Wr.size W43).symm)) (Nat.le_of_eq (Wr.size W44).symm)) (Nat.le_of_eq (Wr.size W45).symm)) (Nat.le_of_eq (Wr.size W46).symm)) (Fld.other W46 (Fld.other W45 (Fld.other W44 (Fld.other W43 (Fld.other W42 (Fld.other W41 (Fld.other W40 (Fld.other W39 (Fld.other W38 (Fld.other W37 (Fld.other W36 (Fld.other W35 (Fld.other W34 ((Fld.other W32 (Fld.other W30 (Fld.other W28 (Fld.other W26 (Fld.other W24 (Fld.other W22 (Fld.other W20 (Fld.other W18 (Fld.other W16 (Fld.other W14 (Fld.other W12 (Fld.other W10 (Fld.other W8 (F4.ext E6) (Or.inl ne6_x4)) (Or.inl ne6_x4)) (Or.inl ne6_x4)) (Or.inl ne6_x4)) (Or.inl ne6_x4)) (Or.inl ne6_x4)) (Or.inl ne6_x4)) (Or.inl ne6_x4)) (Or.inl ne6_x4)) (Or.inl ne6_x4)) (Or.inl ne6_x4)) (Or.inl ne6_x4)) (Or.inl ne6_x4)).ext E33) (Or.inl ne33_x4)) (Or.inl ne33_x4)) (Or.inl ne33_x4)) (Or.inl ne33_x4)) (Or.inl ne33_x4)) (Or.inl ne33_x4)) (Or.inl ne33_x4)) (Or.inl ne33_x4)) (Or.inl ne33_x4)) (Or.inl ne33_x4)) (Or.inl ne33_x4)) (Or.inl ne33_x4)) (Or.inl ne33_x4)) (Or.inl rfl)) eq55 (Exa.wr W46 (Exa.wr W45 (Exa.wr W44 (Exa.wr W43 (Exa.wr W42 (Exa.wr W41 (Exa.wr W40 (Exa.wr W39 (Exa.wr W38 (Exa.wr W37 (Exa.wr W36 (Exa.wr W35 (Exa.wr W34 ((Exa.wr W32 (Exa.wr W30 (Exa.wr W28 (Exa.wr W26 (Exa.wr W24 (Exa.wr W22 (Exa.wr W20 (Exa.wr W18 (Exa.wr W16 (Exa.wr W14 (Exa.wr W12 (Exa.wr W10 (Exa.wr W8 (Ex4.ext E6)))))))))))))).ext E33)))))))))))))) (by rw [hml]; rfl) (lenOf pd_0 rfl) rfl (Nat.le_of_eq rfl) (hb hby at_185) (by decide) (by decide) (by decide) (by decide) ?_
    intro v56 T56 L56 X56 hQ56
    obtain ⟨rfl, Nq56, eq56⟩ := hQ56
    have N56 := Fr.app N55 Nq56
    refine own_st (fr' := (mkF m 196 #[.val (.int p0), .val (.ref b6), .val (.ref b33), .val (.int (4 : Int32)), .val (.ref x4), .val (.int (1 : Int32))] [])) (fun t k => XS.ifYes X56.here hx rfl (pc0 := 188) (pc' := 196) rfl (hb hby at_188) rfl ((if0 _ _).trans (own_teq (x := (0 : Int32)) (y := (0 : Int32)) (show 0 = 0 from rfl)).1) (by decide) (by decide) k) ?_
    refine own_st (fr' := (mkF m 197 #[.val (.int p0), .val (.ref b6), .val (.ref b33), .val (.int (4 : Int32)), .val (.ref x4), .val (.int (1 : Int32))] [(.int (1 : Int32))])) (fun t k => XS.iconst X56.here hx rfl (hb hby at_196) k) ?_
    refine own_st (fr' := (mkF m 201 #[.val (.int p0), .val (.ref b6), .val (.ref b33), .val (.int (4 : Int32)), .val (.ref x4), .val (.int (1 : Int32))] [(.int (1 : Int32))])) (fun t k => XS.goto X56.here hx rfl (pc0 := 197) (pc' := 201) rfl (hb hby at_197) (by decide) (by decide) k) ?_
    exact own_retZ X56 hx hlk hret (Or.inr rfl) (hb hby at_201) (by decide) (by decide) (⟨rfl, N56⟩)
  · obtain rfl : ix = (5 : Int32) := Int32.toInt_inj.mp hix
    refine own_st (fr' := (mkF m 164 #[.val (.int p0), .val (.ref b6), .val (.ref b33), .val (.int (5 : Int32)), .unset, .unset] [(.ref b6)])) (fun t k => XS.aloadN X46.here hx rfl (hb hby at_163) rfl rfl k) ?_
    refine own_st (fr' := (mkF m 165 #[.val (.int p0), .val (.ref b6), .val (.ref b33), .val (.int (5 : Int32)), .unset, .unset] [(.int (5 : Int32)), (.ref b6)])) (fun t k => XS.iloadN X46.here hx rfl (hb hby at_164) rfl  k) ?_
    refine own_aaload X46 hx hZ e46 ((((((((((((((V32.ext E33).other W34 ne33_b6).other W35 ne33_b6).other W36 ne33_b6).other W37 ne33_b6).other W38 ne33_b6).other W39 ne33_b6).other W40 ne33_b6).other W41 ne33_b6).other W42 ne33_b6).other W43 ne33_b6).other W44 ne33_b6).other W45 ne33_b6).other W46 ne33_b6) rfl (by decide) (by decide) (v := (.ref x5)) (rfl) (hb hby at_165) ?_
    refine own_st (fr' := (mkF m 168 #[.val (.int p0), .val (.ref b6), .val (.ref b33), .val (.int (5 : Int32)), .val (.ref x5), .unset] [])) (fun t k => XS.astore X46.here hx rfl (hb hby at_166) rfl rfl (l' := #[.val (.int p0), .val (.ref b6), .val (.ref b33), .val (.int (5 : Int32)), .val (.ref x5), .unset]) rfl k) ?_
    refine own_st (fr' := (mkF m 170 #[.val (.int p0), .val (.ref b6), .val (.ref b33), .val (.int (5 : Int32)), .val (.ref x5), .unset] [(.ref x5)])) (fun t k => XS.aload X46.here hx rfl (hb hby at_168) rfl rfl k) ?_
    refine own_callV X46 hx hZ (y := (⟨"com/example/precedence/precedence/xpath/Axis", "overlaps", "()Z"⟩ : MethodName)) (z := (⟨"com/example/precedence/precedence/xpath/Axis", "overlaps", "()Z"⟩ : MethodName)) hown (hw _ (List.mem_of_getElem? (i := 44) rfl)) (hw _ (List.mem_of_getElem? (i := 45) rfl)) (notFace_of_selects (args := #[]) (mvT hZ (hw _ (List.mem_of_getElem? (i := 66) rfl)))) (hw _ (List.mem_of_getElem? (i := 66) rfl)) (hw _ (List.mem_of_getElem? (i := 46) rfl)) (hw _ (List.mem_of_getElem? (i := 3) rfl)) (hw _ (List.mem_of_getElem? (i := 48) rfl)) (by decide) (a := x5) (argsL := []) (rest := []) (W := 0) (rm_ovl l Z a0 hw [] x5 x0 x8 x9 x10 h46 n0 (Nat.le_trans (Nat.le_trans (Nat.le_trans (Nat.le_trans (Nat.le_trans (Nat.le_trans (Nat.le_trans (Nat.le_trans (Nat.le_trans (Nat.le_trans (Nat.le_trans (Nat.le_trans (Nat.le_trans (Nat.le_trans (Nat.le_trans (Nat.le_trans (Nat.le_trans (Nat.le_trans (Nat.le_trans (Nat.le_trans (Nat.le_trans (Nat.le_trans (Nat.le_trans (Nat.le_trans (Nat.le_trans (Nat.le_trans (Nat.le_trans (Nat.le_trans Z0 E6.1) (Nat.le_of_eq (Wr.size W8).symm)) (Nat.le_of_eq (Wr.size W10).symm)) (Nat.le_of_eq (Wr.size W12).symm)) (Nat.le_of_eq (Wr.size W14).symm)) (Nat.le_of_eq (Wr.size W16).symm)) (Nat.le_of_eq (Wr.size W18).symm)) (Nat.le_of_eq (Wr.size W20).symm)) (Nat.le_of_eq (Wr.size W22).symm)) (Nat.le_of_eq (Wr.size W24).symm)) (Nat.le_of_eq (Wr.size W26).symm)) (Nat.le_of_eq (Wr.size W28).symm)) (Nat.le_of_eq (Wr.size W30).symm)) (Nat.le_of_eq (Wr.size W32).symm)) E33.1) (Nat.le_of_eq (Wr.size W34).symm)) (Nat.le_of_eq (Wr.size W35).symm)) (Nat.le_of_eq (Wr.size W36).symm)) (Nat.le_of_eq (Wr.size W37).symm)) (Nat.le_of_eq (Wr.size W38).symm)) (Nat.le_of_eq (Wr.size W39).symm)) (Nat.le_of_eq (Wr.size W40).symm)) (Nat.le_of_eq (Wr.size W41).symm)) (Nat.le_of_eq (Wr.size W42).symm)) (Nat.le_of_eq (Wr.size W43).symm)) (Nat.le_of_eq (Wr.size W44).symm)) (Nat.le_of_eq (Wr.size W45).symm)) (Nat.le_of_eq (Wr.size W46).symm)) (Sta.wr W46 (Sta.wr W45 (Sta.wr W44 (Sta.wr W43 (Sta.wr W42 (Sta.wr W41 (Sta.wr W40 (Sta.wr W39 (Sta.wr W38 (Sta.wr W37 (Sta.wr W36 (Sta.wr W35 (Sta.wr W34 (Sta.ext E33 (Sta.wr W32 (Sta.wr W30 (Sta.wr W28 (Sta.wr W26 (Sta.wr W24 (Sta.wr W22 (Sta.wr W20 (Sta.wr W18 (Sta.wr W16 (Sta.wr W14 (Sta.wr W12 (Sta.wr W10 (Sta.wr W8 (Sta.ext E6 S0)))))))))))))))))))))))))))) (Sta.wr W46 (Sta.wr W45 (Sta.wr W44 (Sta.wr W43 (Sta.wr W42 (Sta.wr W41 (Sta.wr W40 (Sta.wr W39 (Sta.wr W38 (Sta.wr W37 (Sta.wr W36 (Sta.wr W35 (Sta.wr W34 (Sta.ext E33 (Sta.wr W32 (Sta.wr W30 (Sta.wr W28 (Sta.wr W26 (Sta.wr W24 (Sta.wr W22 (Sta.wr W20 (Sta.wr W18 (Sta.wr W16 (Sta.wr W14 (Sta.wr W12 (Sta.wr W10 (Sta.wr W8 (Sta.ext E6 S8)))))))))))))))))))))))))))) (Sta.wr W46 (Sta.wr W45 (Sta.wr W44 (Sta.wr W43 (Sta.wr W42 (Sta.wr W41 (Sta.wr W40 (Sta.wr W39 (Sta.wr W38 (Sta.wr W37 (Sta.wr W36 (Sta.wr W35 (Sta.wr W34 (Sta.ext E33 (Sta.wr W32 (Sta.wr W30 (Sta.wr W28 (Sta.wr W26 (Sta.wr W24 (Sta.wr W22 (Sta.wr W20 (Sta.wr W18 (Sta.wr W16 (Sta.wr W14 (Sta.wr W12 (Sta.wr W10 (Sta.wr W8 (Sta.ext E6 S9)))))))))))))))))))))))))))) (Sta.wr W46 (Sta.wr W45 (Sta.wr W44 (Sta.wr W43 (Sta.wr W42 (Sta.wr W41 (Sta.wr W40 (Sta.wr W39 (Sta.wr W38 (Sta.wr W37 (Sta.wr W36 (Sta.wr W35 (Sta.wr W34 (Sta.ext E33 (Sta.wr W32 (Sta.wr W30 (Sta.wr W28 (Sta.wr W26 (Sta.wr W24 (Sta.wr W22 (Sta.wr W20 (Sta.wr W18 (Sta.wr W16 (Sta.wr W14 (Sta.wr W12 (Sta.wr W10 (Sta.wr W8 (Sta.ext E6 S10))))))))))))))))))))))))))))) e46 (Exa.wr W46 (Exa.wr W45 (Exa.wr W44 (Exa.wr W43 (Exa.wr W42 (Exa.wr W41 (Exa.wr W40 (Exa.wr W39 (Exa.wr W38 (Exa.wr W37 (Exa.wr W36 (Exa.wr W35 (Exa.wr W34 ((Exa.wr W32 (Exa.wr W30 (Exa.wr W28 (Exa.wr W26 (Exa.wr W24 (Exa.wr W22 (Exa.wr W20 (Exa.wr W18 (Exa.wr W16 (Exa.wr W14 (Exa.wr W12 (Exa.wr W10 (Exa.wr W8 (Ex5.ext E6)))))))))))))).ext E33)))))))))))))) (by rw [hml]; rfl) (lenOf pd_0 rfl) rfl (Nat.le_of_eq rfl) (hb hby at_170) (by decide) (by decide) (by decide) (by decide) ?_
    intro v57 T57 L57 X57 hQ57
    obtain ⟨rfl, Nq57, eq57⟩ := hQ57
    have N57 := Fr.app N46 Nq57
    rw [show (if x5 = x0 ∨ x5 = x8 ∨ x5 = x9 ∨ x5 = x10 then (0 : Int32) else 1) = 1 from if_neg (by simp [ne_exa Ex5 Ex0 (by decide), ne_exa Ex5 Ex8 (by decide), ne_exa Ex5 Ex9 (by decide), ne_exa Ex5 Ex10 (by decide)])]
    refine own_st (fr' := (mkF m 175 #[.val (.int p0), .val (.ref b6), .val (.ref b33), .val (.int (5 : Int32)), .val (.ref x5), .val (.int (1 : Int32))] [])) (fun t k => XS.istore X57.here hx rfl (hb hby at_173) rfl  (l' := #[.val (.int p0), .val (.ref b6), .val (.ref b33), .val (.int (5 : Int32)), .val (.ref x5), .val (.int (1 : Int32))]) rfl k) ?_
    refine own_st (fr' := (mkF m 177 #[.val (.int p0), .val (.ref b6), .val (.ref b33), .val (.int (5 : Int32)), .val (.ref x5), .val (.int (1 : Int32))] [(.int (1 : Int32))])) (fun t k => XS.iload X57.here hx rfl (hb hby at_175) rfl  k) ?_
    refine own_st (fr' := (mkF m 178 #[.val (.int p0), .val (.ref b6), .val (.ref b33), .val (.int (5 : Int32)), .val (.ref x5), .val (.int (1 : Int32))] [(.ref b33), (.int (1 : Int32))])) (fun t k => XS.aloadN X57.here hx rfl (hb hby at_177) rfl rfl k) ?_
    refine own_st (fr' := (mkF m 179 #[.val (.int p0), .val (.ref b6), .val (.ref b33), .val (.int (5 : Int32)), .val (.ref x5), .val (.int (1 : Int32))] [(.int (5 : Int32)), (.ref b33), (.int (1 : Int32))])) (fun t k => XS.iloadN X57.here hx rfl (hb hby at_178) rfl  k) ?_
    refine own_zaload X57 hx hZ eq57 V46 (by decide) (by decide) (v := (.int (1 : Int32))) (rfl) (hb hby at_179) ?_
    refine own_st (fr' := (mkF m 183 #[.val (.int p0), .val (.ref b6), .val (.ref b33), .val (.int (5 : Int32)), .val (.ref x5), .val (.int (1 : Int32))] [])) (fun t k => XS.icmpNo X57.here hx rfl (hb hby at_180) rfl (own_teq (x := (1 : Int32)) (y := (1 : Int32)) (show 1 = 1 from rfl)).2 k) ?_
    refine own_st (fr' := (mkF m 185 #[.val (.int p0), .val (.ref b6), .val (.ref b33), .val (.int (5 : Int32)), .val (.ref x5), .val (.int (1 : Int32))] [(.ref x5)])) (fun t k => XS.aload X57.here hx rfl (hb hby at_183) rfl rfl k) ?_
    refine own_callV X57 hx hZ (y := (⟨"com/example/precedence/precedence/xpath/Axis", "reverse", "()Z"⟩ : MethodName)) (z := (⟨"com/example/precedence/precedence/xpath/Axis", "reverse", "()Z"⟩ : MethodName)) hown (hw _ (List.mem_of_getElem? (i := 50) rfl)) (hw _ (List.mem_of_getElem? (i := 51) rfl)) (notFace_of_selects (args := #[]) (mvT hZ (hw _ (List.mem_of_getElem? (i := 67) rfl)))) (hw _ (List.mem_of_getElem? (i := 67) rfl)) (hw _ (List.mem_of_getElem? (i := 52) rfl)) (hw _ (List.mem_of_getElem? (i := 3) rfl)) (hw _ (List.mem_of_getElem? (i := 54) rfl)) (by decide) (a := x5) (argsL := []) (rest := []) (W := 0) (rm_rev l Z a0 hw [] x5 1 h46 n0 (Nat.le_trans (Nat.le_trans (Nat.le_trans (Nat.le_trans (Nat.le_trans (Nat.le_trans (Nat.le_trans (Nat.le_trans (Nat.le_trans (Nat.le_trans (Nat.le_trans (Nat.le_trans (Nat.le_trans (Nat.le_trans (Nat.le_trans (Nat.le_trans (Nat.le_trans (Nat.le_trans (Nat.le_trans (Nat.le_trans (Nat.le_trans (Nat.le_trans (Nat.le_trans (Nat.le_trans (Nat.le_trans (Nat.le_trans (Nat.le_trans (Nat.le_trans Z0 E6.1) (Nat.le_of_eq (Wr.size W8).symm)) (Nat.le_of_eq (Wr.size W10).symm)) (Nat.le_of_eq (Wr.size W12).symm)) (Nat.le_of_eq (Wr.size W14).symm)) (Nat.le_of_eq (Wr.size W16).symm)) (Nat.le_of_eq (Wr.size W18).symm)) (Nat.le_of_eq (Wr.size W20).symm)) (Nat.le_of_eq (Wr.size W22).symm)) (Nat.le_of_eq (Wr.size W24).symm)) (Nat.le_of_eq (Wr.size W26).symm)) (Nat.le_of_eq (Wr.size W28).symm)) (Nat.le_of_eq (Wr.size W30).symm)) (Nat.le_of_eq (Wr.size W32).symm)) E33.1) (Nat.le_of_eq (Wr.size W34).symm)) (Nat.le_of_eq (Wr.size W35).symm)) (Nat.le_of_eq (Wr.size W36).symm)) (Nat.le_of_eq (Wr.size W37).symm)) (Nat.le_of_eq (Wr.size W38).symm)) (Nat.le_of_eq (Wr.size W39).symm)) (Nat.le_of_eq (Wr.size W40).symm)) (Nat.le_of_eq (Wr.size W41).symm)) (Nat.le_of_eq (Wr.size W42).symm)) (Nat.le_of_eq (Wr.size W43).symm)) (Nat.le_of_eq (Wr.size W44).symm)) (Nat.le_of_eq (Wr.size W45).symm)) (Nat.le_of_eq (Wr.size W46).symm)) (Fld.other W46 (Fld.other W45 (Fld.other W44 (Fld.other W43 (Fld.other W42 (Fld.other W41 (Fld.other W40 (Fld.other W39 (Fld.other W38 (Fld.other W37 (Fld.other W36 (Fld.other W35 (Fld.other W34 ((Fld.other W32 (Fld.other W30 (Fld.other W28 (Fld.other W26 (Fld.other W24 (Fld.other W22 (Fld.other W20 (Fld.other W18 (Fld.other W16 (Fld.other W14 (Fld.other W12 (Fld.other W10 (Fld.other W8 (F5.ext E6) (Or.inl ne6_x5)) (Or.inl ne6_x5)) (Or.inl ne6_x5)) (Or.inl ne6_x5)) (Or.inl ne6_x5)) (Or.inl ne6_x5)) (Or.inl ne6_x5)) (Or.inl ne6_x5)) (Or.inl ne6_x5)) (Or.inl ne6_x5)) (Or.inl ne6_x5)) (Or.inl ne6_x5)) (Or.inl ne6_x5)).ext E33) (Or.inl ne33_x5)) (Or.inl ne33_x5)) (Or.inl ne33_x5)) (Or.inl ne33_x5)) (Or.inl ne33_x5)) (Or.inl ne33_x5)) (Or.inl ne33_x5)) (Or.inl ne33_x5)) (Or.inl ne33_x5)) (Or.inl ne33_x5)) (Or.inl ne33_x5)) (Or.inl ne33_x5)) (Or.inl ne33_x5)) (Or.inr rfl)) eq57 (Exa.wr W46 (Exa.wr W45 (Exa.wr W44 (Exa.wr W43 (Exa.wr W42 (Exa.wr W41 (Exa.wr W40 (Exa.wr W39 (Exa.wr W38 (Exa.wr W37 (Exa.wr W36 (Exa.wr W35 (Exa.wr W34 ((Exa.wr W32 (Exa.wr W30 (Exa.wr W28 (Exa.wr W26 (Exa.wr W24 (Exa.wr W22 (Exa.wr W20 (Exa.wr W18 (Exa.wr W16 (Exa.wr W14 (Exa.wr W12 (Exa.wr W10 (Exa.wr W8 (Ex5.ext E6)))))))))))))).ext E33)))))))))))))) (by rw [hml]; rfl) (lenOf pd_0 rfl) rfl (Nat.le_of_eq rfl) (hb hby at_185) (by decide) (by decide) (by decide) (by decide) ?_
    intro v58 T58 L58 X58 hQ58
    obtain ⟨rfl, Nq58, eq58⟩ := hQ58
    have N58 := Fr.app N57 Nq58
    refine own_st (fr' := (mkF m 191 #[.val (.int p0), .val (.ref b6), .val (.ref b33), .val (.int (5 : Int32)), .val (.ref x5), .val (.int (1 : Int32))] [])) (fun t k => XS.ifNo X58.here hx rfl (hb hby at_188) rfl ((if0 _ _).trans (own_feq (x := (1 : Int32)) (y := (0 : Int32)) (show ¬ 1 = 0 from by decide)).1) k) ?_
    refine own_st (fr' := (mkF m 193 #[.val (.int p0), .val (.ref b6), .val (.ref b33), .val (.int (5 : Int32)), .val (.ref x5), .val (.int (1 : Int32))] [(.int (1 : Int32))])) (fun t k => XS.iload X58.here hx rfl (hb hby at_191) rfl  k) ?_
    refine own_st (fr' := (mkF m 196 #[.val (.int p0), .val (.ref b6), .val (.ref b33), .val (.int (5 : Int32)), .val (.ref x5), .val (.int (1 : Int32))] [])) (fun t k => XS.ifNo X58.here hx rfl (hb hby at_193) rfl ((if0 _ _).trans (own_feq (x := (1 : Int32)) (y := (0 : Int32)) (show ¬ 1 = 0 from by decide)).1) k) ?_
    refine own_st (fr' := (mkF m 197 #[.val (.int p0), .val (.ref b6), .val (.ref b33), .val (.int (5 : Int32)), .val (.ref x5), .val (.int (1 : Int32))] [(.int (1 : Int32))])) (fun t k => XS.iconst X58.here hx rfl (hb hby at_196) k) ?_
    refine own_st (fr' := (mkF m 201 #[.val (.int p0), .val (.ref b6), .val (.ref b33), .val (.int (5 : Int32)), .val (.ref x5), .val (.int (1 : Int32))] [(.int (1 : Int32))])) (fun t k => XS.goto X58.here hx rfl (pc0 := 197) (pc' := 201) rfl (hb hby at_197) (by decide) (by decide) k) ?_
    exact own_retZ X58 hx hlk hret (Or.inr rfl) (hb hby at_201) (by decide) (by decide) (⟨rfl, N58⟩)
  · obtain rfl : ix = (6 : Int32) := Int32.toInt_inj.mp hix
    refine own_st (fr' := (mkF m 164 #[.val (.int p0), .val (.ref b6), .val (.ref b33), .val (.int (6 : Int32)), .unset, .unset] [(.ref b6)])) (fun t k => XS.aloadN X46.here hx rfl (hb hby at_163) rfl rfl k) ?_
    refine own_st (fr' := (mkF m 165 #[.val (.int p0), .val (.ref b6), .val (.ref b33), .val (.int (6 : Int32)), .unset, .unset] [(.int (6 : Int32)), (.ref b6)])) (fun t k => XS.iloadN X46.here hx rfl (hb hby at_164) rfl  k) ?_
    refine own_aaload X46 hx hZ e46 ((((((((((((((V32.ext E33).other W34 ne33_b6).other W35 ne33_b6).other W36 ne33_b6).other W37 ne33_b6).other W38 ne33_b6).other W39 ne33_b6).other W40 ne33_b6).other W41 ne33_b6).other W42 ne33_b6).other W43 ne33_b6).other W44 ne33_b6).other W45 ne33_b6).other W46 ne33_b6) rfl (by decide) (by decide) (v := (.ref x6)) (rfl) (hb hby at_165) ?_
    refine own_st (fr' := (mkF m 168 #[.val (.int p0), .val (.ref b6), .val (.ref b33), .val (.int (6 : Int32)), .val (.ref x6), .unset] [])) (fun t k => XS.astore X46.here hx rfl (hb hby at_166) rfl rfl (l' := #[.val (.int p0), .val (.ref b6), .val (.ref b33), .val (.int (6 : Int32)), .val (.ref x6), .unset]) rfl k) ?_
    refine own_st (fr' := (mkF m 170 #[.val (.int p0), .val (.ref b6), .val (.ref b33), .val (.int (6 : Int32)), .val (.ref x6), .unset] [(.ref x6)])) (fun t k => XS.aload X46.here hx rfl (hb hby at_168) rfl rfl k) ?_
    refine own_callV X46 hx hZ (y := (⟨"com/example/precedence/precedence/xpath/Axis", "overlaps", "()Z"⟩ : MethodName)) (z := (⟨"com/example/precedence/precedence/xpath/Axis", "overlaps", "()Z"⟩ : MethodName)) hown (hw _ (List.mem_of_getElem? (i := 44) rfl)) (hw _ (List.mem_of_getElem? (i := 45) rfl)) (notFace_of_selects (args := #[]) (mvT hZ (hw _ (List.mem_of_getElem? (i := 63) rfl)))) (hw _ (List.mem_of_getElem? (i := 63) rfl)) (hw _ (List.mem_of_getElem? (i := 46) rfl)) (hw _ (List.mem_of_getElem? (i := 3) rfl)) (hw _ (List.mem_of_getElem? (i := 48) rfl)) (by decide) (a := x6) (argsL := []) (rest := []) (W := 0) (rm_ovl l Z a0 hw [] x6 x0 x8 x9 x10 h46 n0 (Nat.le_trans (Nat.le_trans (Nat.le_trans (Nat.le_trans (Nat.le_trans (Nat.le_trans (Nat.le_trans (Nat.le_trans (Nat.le_trans (Nat.le_trans (Nat.le_trans (Nat.le_trans (Nat.le_trans (Nat.le_trans (Nat.le_trans (Nat.le_trans (Nat.le_trans (Nat.le_trans (Nat.le_trans (Nat.le_trans (Nat.le_trans (Nat.le_trans (Nat.le_trans (Nat.le_trans (Nat.le_trans (Nat.le_trans (Nat.le_trans (Nat.le_trans Z0 E6.1) (Nat.le_of_eq (Wr.size W8).symm)) (Nat.le_of_eq (Wr.size W10).symm)) (Nat.le_of_eq (Wr.size W12).symm)) (Nat.le_of_eq (Wr.size W14).symm)) (Nat.le_of_eq (Wr.size W16).symm)) (Nat.le_of_eq (Wr.size W18).symm)) (Nat.le_of_eq (Wr.size W20).symm)) (Nat.le_of_eq (Wr.size W22).symm)) (Nat.le_of_eq (Wr.size W24).symm)) (Nat.le_of_eq (Wr.size W26).symm)) (Nat.le_of_eq (Wr.size W28).symm)) (Nat.le_of_eq (Wr.size W30).symm)) (Nat.le_of_eq (Wr.size W32).symm)) E33.1) (Nat.le_of_eq (Wr.size W34).symm)) (Nat.le_of_eq (Wr.size W35).symm)) (Nat.le_of_eq (Wr.size W36).symm)) (Nat.le_of_eq (Wr.size W37).symm)) (Nat.le_of_eq (Wr.size W38).symm)) (Nat.le_of_eq (Wr.size W39).symm)) (Nat.le_of_eq (Wr.size W40).symm)) (Nat.le_of_eq (Wr.size W41).symm)) (Nat.le_of_eq (Wr.size W42).symm)) (Nat.le_of_eq (Wr.size W43).symm)) (Nat.le_of_eq (Wr.size W44).symm)) (Nat.le_of_eq (Wr.size W45).symm)) (Nat.le_of_eq (Wr.size W46).symm)) (Sta.wr W46 (Sta.wr W45 (Sta.wr W44 (Sta.wr W43 (Sta.wr W42 (Sta.wr W41 (Sta.wr W40 (Sta.wr W39 (Sta.wr W38 (Sta.wr W37 (Sta.wr W36 (Sta.wr W35 (Sta.wr W34 (Sta.ext E33 (Sta.wr W32 (Sta.wr W30 (Sta.wr W28 (Sta.wr W26 (Sta.wr W24 (Sta.wr W22 (Sta.wr W20 (Sta.wr W18 (Sta.wr W16 (Sta.wr W14 (Sta.wr W12 (Sta.wr W10 (Sta.wr W8 (Sta.ext E6 S0)))))))))))))))))))))))))))) (Sta.wr W46 (Sta.wr W45 (Sta.wr W44 (Sta.wr W43 (Sta.wr W42 (Sta.wr W41 (Sta.wr W40 (Sta.wr W39 (Sta.wr W38 (Sta.wr W37 (Sta.wr W36 (Sta.wr W35 (Sta.wr W34 (Sta.ext E33 (Sta.wr W32 (Sta.wr W30 (Sta.wr W28 (Sta.wr W26 (Sta.wr W24 (Sta.wr W22 (Sta.wr W20 (Sta.wr W18 (Sta.wr W16 (Sta.wr W14 (Sta.wr W12 (Sta.wr W10 (Sta.wr W8 (Sta.ext E6 S8)))))))))))))))))))))))))))) (Sta.wr W46 (Sta.wr W45 (Sta.wr W44 (Sta.wr W43 (Sta.wr W42 (Sta.wr W41 (Sta.wr W40 (Sta.wr W39 (Sta.wr W38 (Sta.wr W37 (Sta.wr W36 (Sta.wr W35 (Sta.wr W34 (Sta.ext E33 (Sta.wr W32 (Sta.wr W30 (Sta.wr W28 (Sta.wr W26 (Sta.wr W24 (Sta.wr W22 (Sta.wr W20 (Sta.wr W18 (Sta.wr W16 (Sta.wr W14 (Sta.wr W12 (Sta.wr W10 (Sta.wr W8 (Sta.ext E6 S9)))))))))))))))))))))))))))) (Sta.wr W46 (Sta.wr W45 (Sta.wr W44 (Sta.wr W43 (Sta.wr W42 (Sta.wr W41 (Sta.wr W40 (Sta.wr W39 (Sta.wr W38 (Sta.wr W37 (Sta.wr W36 (Sta.wr W35 (Sta.wr W34 (Sta.ext E33 (Sta.wr W32 (Sta.wr W30 (Sta.wr W28 (Sta.wr W26 (Sta.wr W24 (Sta.wr W22 (Sta.wr W20 (Sta.wr W18 (Sta.wr W16 (Sta.wr W14 (Sta.wr W12 (Sta.wr W10 (Sta.wr W8 (Sta.ext E6 S10))))))))))))))))))))))))))))) e46 (Exa.wr W46 (Exa.wr W45 (Exa.wr W44 (Exa.wr W43 (Exa.wr W42 (Exa.wr W41 (Exa.wr W40 (Exa.wr W39 (Exa.wr W38 (Exa.wr W37 (Exa.wr W36 (Exa.wr W35 (Exa.wr W34 ((Exa.wr W32 (Exa.wr W30 (Exa.wr W28 (Exa.wr W26 (Exa.wr W24 (Exa.wr W22 (Exa.wr W20 (Exa.wr W18 (Exa.wr W16 (Exa.wr W14 (Exa.wr W12 (Exa.wr W10 (Exa.wr W8 (Ex6.ext E6)))))))))))))).ext E33)))))))))))))) (by rw [hml]; rfl) (lenOf pd_0 rfl) rfl (Nat.le_of_eq rfl) (hb hby at_170) (by decide) (by decide) (by decide) (by decide) ?_
    intro v59 T59 L59 X59 hQ59
    obtain ⟨rfl, Nq59, eq59⟩ := hQ59
    have N59 := Fr.app N46 Nq59
    rw [show (if x6 = x0 ∨ x6 = x8 ∨ x6 = x9 ∨ x6 = x10 then (0 : Int32) else 1) = 1 from if_neg (by simp [ne_exa Ex6 Ex0 (by decide), ne_exa Ex6 Ex8 (by decide), ne_exa Ex6 Ex9 (by decide), ne_exa Ex6 Ex10 (by decide)])]
    refine own_st (fr' := (mkF m 175 #[.val (.int p0), .val (.ref b6), .val (.ref b33), .val (.int (6 : Int32)), .val (.ref x6), .val (.int (1 : Int32))] [])) (fun t k => XS.istore X59.here hx rfl (hb hby at_173) rfl  (l' := #[.val (.int p0), .val (.ref b6), .val (.ref b33), .val (.int (6 : Int32)), .val (.ref x6), .val (.int (1 : Int32))]) rfl k) ?_
    refine own_st (fr' := (mkF m 177 #[.val (.int p0), .val (.ref b6), .val (.ref b33), .val (.int (6 : Int32)), .val (.ref x6), .val (.int (1 : Int32))] [(.int (1 : Int32))])) (fun t k => XS.iload X59.here hx rfl (hb hby at_175) rfl  k) ?_
    refine own_st (fr' := (mkF m 178 #[.val (.int p0), .val (.ref b6), .val (.ref b33), .val (.int (6 : Int32)), .val (.ref x6), .val (.int (1 : Int32))] [(.ref b33), (.int (1 : Int32))])) (fun t k => XS.aloadN X59.here hx rfl (hb hby at_177) rfl rfl k) ?_
    refine own_st (fr' := (mkF m 179 #[.val (.int p0), .val (.ref b6), .val (.ref b33), .val (.int (6 : Int32)), .val (.ref x6), .val (.int (1 : Int32))] [(.int (6 : Int32)), (.ref b33), (.int (1 : Int32))])) (fun t k => XS.iloadN X59.here hx rfl (hb hby at_178) rfl  k) ?_
    refine own_zaload X59 hx hZ eq59 V46 (by decide) (by decide) (v := (.int (1 : Int32))) (rfl) (hb hby at_179) ?_
    refine own_st (fr' := (mkF m 183 #[.val (.int p0), .val (.ref b6), .val (.ref b33), .val (.int (6 : Int32)), .val (.ref x6), .val (.int (1 : Int32))] [])) (fun t k => XS.icmpNo X59.here hx rfl (hb hby at_180) rfl (own_teq (x := (1 : Int32)) (y := (1 : Int32)) (show 1 = 1 from rfl)).2 k) ?_
    refine own_st (fr' := (mkF m 185 #[.val (.int p0), .val (.ref b6), .val (.ref b33), .val (.int (6 : Int32)), .val (.ref x6), .val (.int (1 : Int32))] [(.ref x6)])) (fun t k => XS.aload X59.here hx rfl (hb hby at_183) rfl rfl k) ?_
    refine own_callV X59 hx hZ (y := (⟨"com/example/precedence/precedence/xpath/Axis", "reverse", "()Z"⟩ : MethodName)) (z := (⟨"com/example/precedence/precedence/xpath/Axis", "reverse", "()Z"⟩ : MethodName)) hown (hw _ (List.mem_of_getElem? (i := 50) rfl)) (hw _ (List.mem_of_getElem? (i := 51) rfl)) (notFace_of_selects (args := #[]) (mvT hZ (hw _ (List.mem_of_getElem? (i := 64) rfl)))) (hw _ (List.mem_of_getElem? (i := 64) rfl)) (hw _ (List.mem_of_getElem? (i := 52) rfl)) (hw _ (List.mem_of_getElem? (i := 3) rfl)) (hw _ (List.mem_of_getElem? (i := 54) rfl)) (by decide) (a := x6) (argsL := []) (rest := []) (W := 0) (rm_rev l Z a0 hw [] x6 0 h46 n0 (Nat.le_trans (Nat.le_trans (Nat.le_trans (Nat.le_trans (Nat.le_trans (Nat.le_trans (Nat.le_trans (Nat.le_trans (Nat.le_trans (Nat.le_trans (Nat.le_trans (Nat.le_trans (Nat.le_trans (Nat.le_trans (Nat.le_trans (Nat.le_trans (Nat.le_trans (Nat.le_trans (Nat.le_trans (Nat.le_trans (Nat.le_trans (Nat.le_trans (Nat.le_trans (Nat.le_trans (Nat.le_trans (Nat.le_trans (Nat.le_trans (Nat.le_trans Z0 E6.1) (Nat.le_of_eq (Wr.size W8).symm)) (Nat.le_of_eq (Wr.size W10).symm)) (Nat.le_of_eq (Wr.size W12).symm)) (Nat.le_of_eq (Wr.size W14).symm)) (Nat.le_of_eq (Wr.size W16).symm)) (Nat.le_of_eq (Wr.size W18).symm)) (Nat.le_of_eq (Wr.size W20).symm)) (Nat.le_of_eq (Wr.size W22).symm)) (Nat.le_of_eq (Wr.size W24).symm)) (Nat.le_of_eq (Wr.size W26).symm)) (Nat.le_of_eq (Wr.size W28).symm)) (Nat.le_of_eq (Wr.size W30).symm)) (Nat.le_of_eq (Wr.size W32).symm)) E33.1) (Nat.le_of_eq (Wr.size W34).symm)) (Nat.le_of_eq (Wr.size W35).symm)) (Nat.le_of_eq (Wr.size W36).symm)) (Nat.le_of_eq (Wr.size W37).symm)) (Nat.le_of_eq (Wr.size W38).symm)) (Nat.le_of_eq (Wr.size W39).symm)) (Nat.le_of_eq (Wr.size W40).symm)) (Nat.le_of_eq (Wr.size W41).symm)) (Nat.le_of_eq (Wr.size W42).symm)) (Nat.le_of_eq (Wr.size W43).symm)) (Nat.le_of_eq (Wr.size W44).symm)) (Nat.le_of_eq (Wr.size W45).symm)) (Nat.le_of_eq (Wr.size W46).symm)) (Fld.other W46 (Fld.other W45 (Fld.other W44 (Fld.other W43 (Fld.other W42 (Fld.other W41 (Fld.other W40 (Fld.other W39 (Fld.other W38 (Fld.other W37 (Fld.other W36 (Fld.other W35 (Fld.other W34 ((Fld.other W32 (Fld.other W30 (Fld.other W28 (Fld.other W26 (Fld.other W24 (Fld.other W22 (Fld.other W20 (Fld.other W18 (Fld.other W16 (Fld.other W14 (Fld.other W12 (Fld.other W10 (Fld.other W8 (F6.ext E6) (Or.inl ne6_x6)) (Or.inl ne6_x6)) (Or.inl ne6_x6)) (Or.inl ne6_x6)) (Or.inl ne6_x6)) (Or.inl ne6_x6)) (Or.inl ne6_x6)) (Or.inl ne6_x6)) (Or.inl ne6_x6)) (Or.inl ne6_x6)) (Or.inl ne6_x6)) (Or.inl ne6_x6)) (Or.inl ne6_x6)).ext E33) (Or.inl ne33_x6)) (Or.inl ne33_x6)) (Or.inl ne33_x6)) (Or.inl ne33_x6)) (Or.inl ne33_x6)) (Or.inl ne33_x6)) (Or.inl ne33_x6)) (Or.inl ne33_x6)) (Or.inl ne33_x6)) (Or.inl ne33_x6)) (Or.inl ne33_x6)) (Or.inl ne33_x6)) (Or.inl ne33_x6)) (Or.inl rfl)) eq59 (Exa.wr W46 (Exa.wr W45 (Exa.wr W44 (Exa.wr W43 (Exa.wr W42 (Exa.wr W41 (Exa.wr W40 (Exa.wr W39 (Exa.wr W38 (Exa.wr W37 (Exa.wr W36 (Exa.wr W35 (Exa.wr W34 ((Exa.wr W32 (Exa.wr W30 (Exa.wr W28 (Exa.wr W26 (Exa.wr W24 (Exa.wr W22 (Exa.wr W20 (Exa.wr W18 (Exa.wr W16 (Exa.wr W14 (Exa.wr W12 (Exa.wr W10 (Exa.wr W8 (Ex6.ext E6)))))))))))))).ext E33)))))))))))))) (by rw [hml]; rfl) (lenOf pd_0 rfl) rfl (Nat.le_of_eq rfl) (hb hby at_185) (by decide) (by decide) (by decide) (by decide) ?_
    intro v60 T60 L60 X60 hQ60
    obtain ⟨rfl, Nq60, eq60⟩ := hQ60
    have N60 := Fr.app N59 Nq60
    refine own_st (fr' := (mkF m 196 #[.val (.int p0), .val (.ref b6), .val (.ref b33), .val (.int (6 : Int32)), .val (.ref x6), .val (.int (1 : Int32))] [])) (fun t k => XS.ifYes X60.here hx rfl (pc0 := 188) (pc' := 196) rfl (hb hby at_188) rfl ((if0 _ _).trans (own_teq (x := (0 : Int32)) (y := (0 : Int32)) (show 0 = 0 from rfl)).1) (by decide) (by decide) k) ?_
    refine own_st (fr' := (mkF m 197 #[.val (.int p0), .val (.ref b6), .val (.ref b33), .val (.int (6 : Int32)), .val (.ref x6), .val (.int (1 : Int32))] [(.int (1 : Int32))])) (fun t k => XS.iconst X60.here hx rfl (hb hby at_196) k) ?_
    refine own_st (fr' := (mkF m 201 #[.val (.int p0), .val (.ref b6), .val (.ref b33), .val (.int (6 : Int32)), .val (.ref x6), .val (.int (1 : Int32))] [(.int (1 : Int32))])) (fun t k => XS.goto X60.here hx rfl (pc0 := 197) (pc' := 201) rfl (hb hby at_197) (by decide) (by decide) k) ?_
    exact own_retZ X60 hx hlk hret (Or.inr rfl) (hb hby at_201) (by decide) (by decide) (⟨rfl, N60⟩)
  · obtain rfl : ix = (7 : Int32) := Int32.toInt_inj.mp hix
    refine own_st (fr' := (mkF m 164 #[.val (.int p0), .val (.ref b6), .val (.ref b33), .val (.int (7 : Int32)), .unset, .unset] [(.ref b6)])) (fun t k => XS.aloadN X46.here hx rfl (hb hby at_163) rfl rfl k) ?_
    refine own_st (fr' := (mkF m 165 #[.val (.int p0), .val (.ref b6), .val (.ref b33), .val (.int (7 : Int32)), .unset, .unset] [(.int (7 : Int32)), (.ref b6)])) (fun t k => XS.iloadN X46.here hx rfl (hb hby at_164) rfl  k) ?_
    refine own_aaload X46 hx hZ e46 ((((((((((((((V32.ext E33).other W34 ne33_b6).other W35 ne33_b6).other W36 ne33_b6).other W37 ne33_b6).other W38 ne33_b6).other W39 ne33_b6).other W40 ne33_b6).other W41 ne33_b6).other W42 ne33_b6).other W43 ne33_b6).other W44 ne33_b6).other W45 ne33_b6).other W46 ne33_b6) rfl (by decide) (by decide) (v := (.ref x7)) (rfl) (hb hby at_165) ?_
    refine own_st (fr' := (mkF m 168 #[.val (.int p0), .val (.ref b6), .val (.ref b33), .val (.int (7 : Int32)), .val (.ref x7), .unset] [])) (fun t k => XS.astore X46.here hx rfl (hb hby at_166) rfl rfl (l' := #[.val (.int p0), .val (.ref b6), .val (.ref b33), .val (.int (7 : Int32)), .val (.ref x7), .unset]) rfl k) ?_
    refine own_st (fr' := (mkF m 170 #[.val (.int p0), .val (.ref b6), .val (.ref b33), .val (.int (7 : Int32)), .val (.ref x7), .unset] [(.ref x7)])) (fun t k => XS.aload X46.here hx rfl (hb hby at_168) rfl rfl k) ?_
    refine own_callV X46 hx hZ (y := (⟨"com/example/precedence/precedence/xpath/Axis", "overlaps", "()Z"⟩ : MethodName)) (z := (⟨"com/example/precedence/precedence/xpath/Axis", "overlaps", "()Z"⟩ : MethodName)) hown (hw _ (List.mem_of_getElem? (i := 44) rfl)) (hw _ (List.mem_of_getElem? (i := 45) rfl)) (notFace_of_selects (args := #[]) (mvT hZ (hw _ (List.mem_of_getElem? (i := 69) rfl)))) (hw _ (List.mem_of_getElem? (i := 69) rfl)) (hw _ (List.mem_of_getElem? (i := 46) rfl)) (hw _ (List.mem_of_getElem? (i := 3) rfl)) (hw _ (List.mem_of_getElem? (i := 48) rfl)) (by decide) (a := x7) (argsL := []) (rest := []) (W := 0) (rm_ovl l Z a0 hw [] x7 x0 x8 x9 x10 h46 n0 (Nat.le_trans (Nat.le_trans (Nat.le_trans (Nat.le_trans (Nat.le_trans (Nat.le_trans (Nat.le_trans (Nat.le_trans (Nat.le_trans (Nat.le_trans (Nat.le_trans (Nat.le_trans (Nat.le_trans (Nat.le_trans (Nat.le_trans (Nat.le_trans (Nat.le_trans (Nat.le_trans (Nat.le_trans (Nat.le_trans (Nat.le_trans (Nat.le_trans (Nat.le_trans (Nat.le_trans (Nat.le_trans (Nat.le_trans (Nat.le_trans (Nat.le_trans Z0 E6.1) (Nat.le_of_eq (Wr.size W8).symm)) (Nat.le_of_eq (Wr.size W10).symm)) (Nat.le_of_eq (Wr.size W12).symm)) (Nat.le_of_eq (Wr.size W14).symm)) (Nat.le_of_eq (Wr.size W16).symm)) (Nat.le_of_eq (Wr.size W18).symm)) (Nat.le_of_eq (Wr.size W20).symm)) (Nat.le_of_eq (Wr.size W22).symm)) (Nat.le_of_eq (Wr.size W24).symm)) (Nat.le_of_eq (Wr.size W26).symm)) (Nat.le_of_eq (Wr.size W28).symm)) (Nat.le_of_eq (Wr.size W30).symm)) (Nat.le_of_eq (Wr.size W32).symm)) E33.1) (Nat.le_of_eq (Wr.size W34).symm)) (Nat.le_of_eq (Wr.size W35).symm)) (Nat.le_of_eq (Wr.size W36).symm)) (Nat.le_of_eq (Wr.size W37).symm)) (Nat.le_of_eq (Wr.size W38).symm)) (Nat.le_of_eq (Wr.size W39).symm)) (Nat.le_of_eq (Wr.size W40).symm)) (Nat.le_of_eq (Wr.size W41).symm)) (Nat.le_of_eq (Wr.size W42).symm)) (Nat.le_of_eq (Wr.size W43).symm)) (Nat.le_of_eq (Wr.size W44).symm)) (Nat.le_of_eq (Wr.size W45).symm)) (Nat.le_of_eq (Wr.size W46).symm)) (Sta.wr W46 (Sta.wr W45 (Sta.wr W44 (Sta.wr W43 (Sta.wr W42 (Sta.wr W41 (Sta.wr W40 (Sta.wr W39 (Sta.wr W38 (Sta.wr W37 (Sta.wr W36 (Sta.wr W35 (Sta.wr W34 (Sta.ext E33 (Sta.wr W32 (Sta.wr W30 (Sta.wr W28 (Sta.wr W26 (Sta.wr W24 (Sta.wr W22 (Sta.wr W20 (Sta.wr W18 (Sta.wr W16 (Sta.wr W14 (Sta.wr W12 (Sta.wr W10 (Sta.wr W8 (Sta.ext E6 S0)))))))))))))))))))))))))))) (Sta.wr W46 (Sta.wr W45 (Sta.wr W44 (Sta.wr W43 (Sta.wr W42 (Sta.wr W41 (Sta.wr W40 (Sta.wr W39 (Sta.wr W38 (Sta.wr W37 (Sta.wr W36 (Sta.wr W35 (Sta.wr W34 (Sta.ext E33 (Sta.wr W32 (Sta.wr W30 (Sta.wr W28 (Sta.wr W26 (Sta.wr W24 (Sta.wr W22 (Sta.wr W20 (Sta.wr W18 (Sta.wr W16 (Sta.wr W14 (Sta.wr W12 (Sta.wr W10 (Sta.wr W8 (Sta.ext E6 S8)))))))))))))))))))))))))))) (Sta.wr W46 (Sta.wr W45 (Sta.wr W44 (Sta.wr W43 (Sta.wr W42 (Sta.wr W41 (Sta.wr W40 (Sta.wr W39 (Sta.wr W38 (Sta.wr W37 (Sta.wr W36 (Sta.wr W35 (Sta.wr W34 (Sta.ext E33 (Sta.wr W32 (Sta.wr W30 (Sta.wr W28 (Sta.wr W26 (Sta.wr W24 (Sta.wr W22 (Sta.wr W20 (Sta.wr W18 (Sta.wr W16 (Sta.wr W14 (Sta.wr W12 (Sta.wr W10 (Sta.wr W8 (Sta.ext E6 S9)))))))))))))))))))))))))))) (Sta.wr W46 (Sta.wr W45 (Sta.wr W44 (Sta.wr W43 (Sta.wr W42 (Sta.wr W41 (Sta.wr W40 (Sta.wr W39 (Sta.wr W38 (Sta.wr W37 (Sta.wr W36 (Sta.wr W35 (Sta.wr W34 (Sta.ext E33 (Sta.wr W32 (Sta.wr W30 (Sta.wr W28 (Sta.wr W26 (Sta.wr W24 (Sta.wr W22 (Sta.wr W20 (Sta.wr W18 (Sta.wr W16 (Sta.wr W14 (Sta.wr W12 (Sta.wr W10 (Sta.wr W8 (Sta.ext E6 S10))))))))))))))))))))))))))))) e46 (Exa.wr W46 (Exa.wr W45 (Exa.wr W44 (Exa.wr W43 (Exa.wr W42 (Exa.wr W41 (Exa.wr W40 (Exa.wr W39 (Exa.wr W38 (Exa.wr W37 (Exa.wr W36 (Exa.wr W35 (Exa.wr W34 ((Exa.wr W32 (Exa.wr W30 (Exa.wr W28 (Exa.wr W26 (Exa.wr W24 (Exa.wr W22 (Exa.wr W20 (Exa.wr W18 (Exa.wr W16 (Exa.wr W14 (Exa.wr W12 (Exa.wr W10 (Exa.wr W8 (Ex7.ext E6)))))))))))))).ext E33)))))))))))))) (by rw [hml]; rfl) (lenOf pd_0 rfl) rfl (Nat.le_of_eq rfl) (hb hby at_170) (by decide) (by decide) (by decide) (by decide) ?_
    intro v61 T61 L61 X61 hQ61
    obtain ⟨rfl, Nq61, eq61⟩ := hQ61
    have N61 := Fr.app N46 Nq61
    rw [show (if x7 = x0 ∨ x7 = x8 ∨ x7 = x9 ∨ x7 = x10 then (0 : Int32) else 1) = 1 from if_neg (by simp [ne_exa Ex7 Ex0 (by decide), ne_exa Ex7 Ex8 (by decide), ne_exa Ex7 Ex9 (by decide), ne_exa Ex7 Ex10 (by decide)])]
    refine own_st (fr' := (mkF m 175 #[.val (.int p0), .val (.ref b6), .val (.ref b33), .val (.int (7 : Int32)), .val (.ref x7), .val (.int (1 : Int32))] [])) (fun t k => XS.istore X61.here hx rfl (hb hby at_173) rfl  (l' := #[.val (.int p0), .val (.ref b6), .val (.ref b33), .val (.int (7 : Int32)), .val (.ref x7), .val (.int (1 : Int32))]) rfl k) ?_
    refine own_st (fr' := (mkF m 177 #[.val (.int p0), .val (.ref b6), .val (.ref b33), .val (.int (7 : Int32)), .val (.ref x7), .val (.int (1 : Int32))] [(.int (1 : Int32))])) (fun t k => XS.iload X61.here hx rfl (hb hby at_175) rfl  k) ?_
    refine own_st (fr' := (mkF m 178 #[.val (.int p0), .val (.ref b6), .val (.ref b33), .val (.int (7 : Int32)), .val (.ref x7), .val (.int (1 : Int32))] [(.ref b33), (.int (1 : Int32))])) (fun t k => XS.aloadN X61.here hx rfl (hb hby at_177) rfl rfl k) ?_
    refine own_st (fr' := (mkF m 179 #[.val (.int p0), .val (.ref b6), .val (.ref b33), .val (.int (7 : Int32)), .val (.ref x7), .val (.int (1 : Int32))] [(.int (7 : Int32)), (.ref b33), (.int (1 : Int32))])) (fun t k => XS.iloadN X61.here hx rfl (hb hby at_178) rfl  k) ?_
    refine own_zaload X61 hx hZ eq61 V46 (by decide) (by decide) (v := (.int (1 : Int32))) (rfl) (hb hby at_179) ?_
    refine own_st (fr' := (mkF m 183 #[.val (.int p0), .val (.ref b6), .val (.ref b33), .val (.int (7 : Int32)), .val (.ref x7), .val (.int (1 : Int32))] [])) (fun t k => XS.icmpNo X61.here hx rfl (hb hby at_180) rfl (own_teq (x := (1 : Int32)) (y := (1 : Int32)) (show 1 = 1 from rfl)).2 k) ?_
    refine own_st (fr' := (mkF m 185 #[.val (.int p0), .val (.ref b6), .val (.ref b33), .val (.int (7 : Int32)), .val (.ref x7), .val (.int (1 : Int32))] [(.ref x7)])) (fun t k => XS.aload X61.here hx rfl (hb hby at_183) rfl rfl k) ?_
    refine own_callV X61 hx hZ (y := (⟨"com/example/precedence/precedence/xpath/Axis", "reverse", "()Z"⟩ : MethodName)) (z := (⟨"com/example/precedence/precedence/xpath/Axis", "reverse", "()Z"⟩ : MethodName)) hown (hw _ (List.mem_of_getElem? (i := 50) rfl)) (hw _ (List.mem_of_getElem? (i := 51) rfl)) (notFace_of_selects (args := #[]) (mvT hZ (hw _ (List.mem_of_getElem? (i := 70) rfl)))) (hw _ (List.mem_of_getElem? (i := 70) rfl)) (hw _ (List.mem_of_getElem? (i := 52) rfl)) (hw _ (List.mem_of_getElem? (i := 3) rfl)) (hw _ (List.mem_of_getElem? (i := 54) rfl)) (by decide) (a := x7) (argsL := []) (rest := []) (W := 0) (rm_rev l Z a0 hw [] x7 1 h46 n0 (Nat.le_trans (Nat.le_trans (Nat.le_trans (Nat.le_trans (Nat.le_trans (Nat.le_trans (Nat.le_trans (Nat.le_trans (Nat.le_trans (Nat.le_trans (Nat.le_trans (Nat.le_trans (Nat.le_trans (Nat.le_trans (Nat.le_trans (Nat.le_trans (Nat.le_trans (Nat.le_trans (Nat.le_trans (Nat.le_trans (Nat.le_trans (Nat.le_trans (Nat.le_trans (Nat.le_trans (Nat.le_trans (Nat.le_trans (Nat.le_trans (Nat.le_trans Z0 E6.1) (Nat.le_of_eq (Wr.size W8).symm)) (Nat.le_of_eq (Wr.size W10).symm)) (Nat.le_of_eq (Wr.size W12).symm)) (Nat.le_of_eq (Wr.size W14).symm)) (Nat.le_of_eq (Wr.size W16).symm)) (Nat.le_of_eq (Wr.size W18).symm)) (Nat.le_of_eq (Wr.size W20).symm)) (Nat.le_of_eq (Wr.size W22).symm)) (Nat.le_of_eq (Wr.size W24).symm)) (Nat.le_of_eq (Wr.size W26).symm)) (Nat.le_of_eq (Wr.size W28).symm)) (Nat.le_of_eq (Wr.size W30).symm)) (Nat.le_of_eq (Wr.size W32).symm)) E33.1) (Nat.le_of_eq (Wr.size W34).symm)) (Nat.le_of_eq (Wr.size W35).symm)) (Nat.le_of_eq (Wr.size W36).symm)) (Nat.le_of_eq (Wr.size W37).symm)) (Nat.le_of_eq (Wr.size W38).symm)) (Nat.le_of_eq (Wr.size W39).symm)) (Nat.le_of_eq (Wr.size W40).symm)) (Nat.le_of_eq (Wr.size W41).symm)) (Nat.le_of_eq (Wr.size W42).symm)) (Nat.le_of_eq (Wr.size W43).symm)) (Nat.le_of_eq (Wr.size W44).symm)) (Nat.le_of_eq (Wr.size W45).symm)) (Nat.le_of_eq (Wr.size W46).symm)) (Fld.other W46 (Fld.other W45 (Fld.other W44 (Fld.other W43 (Fld.other W42 (Fld.other W41 (Fld.other W40 (Fld.other W39 (Fld.other W38 (Fld.other W37 (Fld.other W36 (Fld.other W35 (Fld.other W34 ((Fld.other W32 (Fld.other W30 (Fld.other W28 (Fld.other W26 (Fld.other W24 (Fld.other W22 (Fld.other W20 (Fld.other W18 (Fld.other W16 (Fld.other W14 (Fld.other W12 (Fld.other W10 (Fld.other W8 (F7.ext E6) (Or.inl ne6_x7)) (Or.inl ne6_x7)) (Or.inl ne6_x7)) (Or.inl ne6_x7)) (Or.inl ne6_x7)) (Or.inl ne6_x7)) (Or.inl ne6_x7)) (Or.inl ne6_x7)) (Or.inl ne6_x7)) (Or.inl ne6_x7)) (Or.inl ne6_x7)) (Or.inl ne6_x7)) (Or.inl ne6_x7)).ext E33) (Or.inl ne33_x7)) (Or.inl ne33_x7)) (Or.inl ne33_x7)) (Or.inl ne33_x7)) (Or.inl ne33_x7)) (Or.inl ne33_x7)) (Or.inl ne33_x7)) (Or.inl ne33_x7)) (Or.inl ne33_x7)) (Or.inl ne33_x7)) (Or.inl ne33_x7)) (Or.inl ne33_x7)) (Or.inl ne33_x7)) (Or.inr rfl)) eq61 (Exa.wr W46 (Exa.wr W45 (Exa.wr W44 (Exa.wr W43 (Exa.wr W42 (Exa.wr W41 (Exa.wr W40 (Exa.wr W39 (Exa.wr W38 (Exa.wr W37 (Exa.wr W36 (Exa.wr W35 (Exa.wr W34 ((Exa.wr W32 (Exa.wr W30 (Exa.wr W28 (Exa.wr W26 (Exa.wr W24 (Exa.wr W22 (Exa.wr W20 (Exa.wr W18 (Exa.wr W16 (Exa.wr W14 (Exa.wr W12 (Exa.wr W10 (Exa.wr W8 (Ex7.ext E6)))))))))))))).ext E33)))))))))))))) (by rw [hml]; rfl) (lenOf pd_0 rfl) rfl (Nat.le_of_eq rfl) (hb hby at_185) (by decide) (by decide) (by decide) (by decide) ?_
    intro v62 T62 L62 X62 hQ62
    obtain ⟨rfl, Nq62, eq62⟩ := hQ62
    have N62 := Fr.app N61 Nq62
    refine own_st (fr' := (mkF m 191 #[.val (.int p0), .val (.ref b6), .val (.ref b33), .val (.int (7 : Int32)), .val (.ref x7), .val (.int (1 : Int32))] [])) (fun t k => XS.ifNo X62.here hx rfl (hb hby at_188) rfl ((if0 _ _).trans (own_feq (x := (1 : Int32)) (y := (0 : Int32)) (show ¬ 1 = 0 from by decide)).1) k) ?_
    refine own_st (fr' := (mkF m 193 #[.val (.int p0), .val (.ref b6), .val (.ref b33), .val (.int (7 : Int32)), .val (.ref x7), .val (.int (1 : Int32))] [(.int (1 : Int32))])) (fun t k => XS.iload X62.here hx rfl (hb hby at_191) rfl  k) ?_
    refine own_st (fr' := (mkF m 196 #[.val (.int p0), .val (.ref b6), .val (.ref b33), .val (.int (7 : Int32)), .val (.ref x7), .val (.int (1 : Int32))] [])) (fun t k => XS.ifNo X62.here hx rfl (hb hby at_193) rfl ((if0 _ _).trans (own_feq (x := (1 : Int32)) (y := (0 : Int32)) (show ¬ 1 = 0 from by decide)).1) k) ?_
    refine own_st (fr' := (mkF m 197 #[.val (.int p0), .val (.ref b6), .val (.ref b33), .val (.int (7 : Int32)), .val (.ref x7), .val (.int (1 : Int32))] [(.int (1 : Int32))])) (fun t k => XS.iconst X62.here hx rfl (hb hby at_196) k) ?_
    refine own_st (fr' := (mkF m 201 #[.val (.int p0), .val (.ref b6), .val (.ref b33), .val (.int (7 : Int32)), .val (.ref x7), .val (.int (1 : Int32))] [(.int (1 : Int32))])) (fun t k => XS.goto X62.here hx rfl (pc0 := 197) (pc' := 201) rfl (hb hby at_197) (by decide) (by decide) k) ?_
    exact own_retZ X62 hx hlk hret (Or.inr rfl) (hb hby at_201) (by decide) (by decide) (⟨rfl, N62⟩)
  · obtain rfl : ix = (8 : Int32) := Int32.toInt_inj.mp hix
    refine own_st (fr' := (mkF m 164 #[.val (.int p0), .val (.ref b6), .val (.ref b33), .val (.int (8 : Int32)), .unset, .unset] [(.ref b6)])) (fun t k => XS.aloadN X46.here hx rfl (hb hby at_163) rfl rfl k) ?_
    refine own_st (fr' := (mkF m 165 #[.val (.int p0), .val (.ref b6), .val (.ref b33), .val (.int (8 : Int32)), .unset, .unset] [(.int (8 : Int32)), (.ref b6)])) (fun t k => XS.iloadN X46.here hx rfl (hb hby at_164) rfl  k) ?_
    refine own_aaload X46 hx hZ e46 ((((((((((((((V32.ext E33).other W34 ne33_b6).other W35 ne33_b6).other W36 ne33_b6).other W37 ne33_b6).other W38 ne33_b6).other W39 ne33_b6).other W40 ne33_b6).other W41 ne33_b6).other W42 ne33_b6).other W43 ne33_b6).other W44 ne33_b6).other W45 ne33_b6).other W46 ne33_b6) rfl (by decide) (by decide) (v := (.ref x8)) (rfl) (hb hby at_165) ?_
    refine own_st (fr' := (mkF m 168 #[.val (.int p0), .val (.ref b6), .val (.ref b33), .val (.int (8 : Int32)), .val (.ref x8), .unset] [])) (fun t k => XS.astore X46.here hx rfl (hb hby at_166) rfl rfl (l' := #[.val (.int p0), .val (.ref b6), .val (.ref b33), .val (.int (8 : Int32)), .val (.ref x8), .unset]) rfl k) ?_
    refine own_st (fr' := (mkF m 170 #[.val (.int p0), .val (.ref b6), .val (.ref b33), .val (.int (8 : Int32)), .val (.ref x8), .unset] [(.ref x8)])) (fun t k => XS.aload X46.here hx rfl (hb hby at_168) rfl rfl k) ?_
    refine own_callV X46 hx hZ (y := (⟨"com/example/precedence/precedence/xpath/Axis", "overlaps", "()Z"⟩ : MethodName)) (z := (⟨"com/example/precedence/precedence/xpath/Axis", "overlaps", "()Z"⟩ : MethodName)) hown (hw _ (List.mem_of_getElem? (i := 44) rfl)) (hw _ (List.mem_of_getElem? (i := 45) rfl)) (notFace_of_selects (args := #[]) (mvT hZ (hw _ (List.mem_of_getElem? (i := 84) rfl)))) (hw _ (List.mem_of_getElem? (i := 84) rfl)) (hw _ (List.mem_of_getElem? (i := 46) rfl)) (hw _ (List.mem_of_getElem? (i := 3) rfl)) (hw _ (List.mem_of_getElem? (i := 48) rfl)) (by decide) (a := x8) (argsL := []) (rest := []) (W := 0) (rm_ovl l Z a0 hw [] x8 x0 x8 x9 x10 h46 n0 (Nat.le_trans (Nat.le_trans (Nat.le_trans (Nat.le_trans (Nat.le_trans (Nat.le_trans (Nat.le_trans (Nat.le_trans (Nat.le_trans (Nat.le_trans (Nat.le_trans (Nat.le_trans (Nat.le_trans (Nat.le_trans (Nat.le_trans (Nat.le_trans (Nat.le_trans (Nat.le_trans (Nat.le_trans (Nat.le_trans (Nat.le_trans (Nat.le_trans (Nat.le_trans (Nat.le_trans (Nat.le_trans (Nat.le_trans (Nat.le_trans (Nat.le_trans Z0 E6.1) (Nat.le_of_eq (Wr.size W8).symm)) (Nat.le_of_eq (Wr.size W10).symm)) (Nat.le_of_eq (Wr.size W12).symm)) (Nat.le_of_eq (Wr.size W14).symm)) (Nat.le_of_eq (Wr.size W16).symm)) (Nat.le_of_eq (Wr.size W18).symm)) (Nat.le_of_eq (Wr.size W20).symm)) (Nat.le_of_eq (Wr.size W22).symm)) (Nat.le_of_eq (Wr.size W24).symm)) (Nat.le_of_eq (Wr.size W26).symm)) (Nat.le_of_eq (Wr.size W28).symm)) (Nat.le_of_eq (Wr.size W30).symm)) (Nat.le_of_eq (Wr.size W32).symm)) E33.1) (Nat.le_of_eq (Wr.size W34).symm)) (Nat.le_of_eq (Wr.size W35).symm)) (Nat.le_of_eq (Wr.size W36).symm)) (Nat.le_of_eq (Wr.size W37).symm)) (Nat.le_of_eq (Wr.size W38).symm)) (Nat.le_of_eq (Wr.size W39).symm)) (Nat.le_of_eq (Wr.size W40).symm)) (Nat.le_of_eq (Wr.size W41).symm)) (Nat.le_of_eq (Wr.size W42).symm)) (Nat.le_of_eq (Wr.size W43).symm)) (Nat.le_of_eq (Wr.size W44).symm)) (Nat.le_of_eq (Wr.size W45).symm)) (Nat.le_of_eq (Wr.size W46).symm)) (Sta.wr W46 (Sta.wr W45 (Sta.wr W44 (Sta.wr W43 (Sta.wr W42 (Sta.wr W41 (Sta.wr W40 (Sta.wr W39 (Sta.wr W38 (Sta.wr W37 (Sta.wr W36 (Sta.wr W35 (Sta.wr W34 (Sta.ext E33 (Sta.wr W32 (Sta.wr W30 (Sta.wr W28 (Sta.wr W26 (Sta.wr W24 (Sta.wr W22 (Sta.wr W20 (Sta.wr W18 (Sta.wr W16 (Sta.wr W14 (Sta.wr W12 (Sta.wr W10 (Sta.wr W8 (Sta.ext E6 S0)))))))))))))))))))))))))))) (Sta.wr W46 (Sta.wr W45 (Sta.wr W44 (Sta.wr W43 (Sta.wr W42 (Sta.wr W41 (Sta.wr W40 (Sta.wr W39 (Sta.wr W38 (Sta.wr W37 (Sta.wr W36 (Sta.wr W35 (Sta.wr W34 (Sta.ext E33 (Sta.wr W32 (Sta.wr W30 (Sta.wr W28 (Sta.wr W26 (Sta.wr W24 (Sta.wr W22 (Sta.wr W20 (Sta.wr W18 (Sta.wr W16 (Sta.wr W14 (Sta.wr W12 (Sta.wr W10 (Sta.wr W8 (Sta.ext E6 S8)))))))))))))))))))))))))))) (Sta.wr W46 (Sta.wr W45 (Sta.wr W44 (Sta.wr W43 (Sta.wr W42 (Sta.wr W41 (Sta.wr W40 (Sta.wr W39 (Sta.wr W38 (Sta.wr W37 (Sta.wr W36 (Sta.wr W35 (Sta.wr W34 (Sta.ext E33 (Sta.wr W32 (Sta.wr W30 (Sta.wr W28 (Sta.wr W26 (Sta.wr W24 (Sta.wr W22 (Sta.wr W20 (Sta.wr W18 (Sta.wr W16 (Sta.wr W14 (Sta.wr W12 (Sta.wr W10 (Sta.wr W8 (Sta.ext E6 S9)))))))))))))))))))))))))))) (Sta.wr W46 (Sta.wr W45 (Sta.wr W44 (Sta.wr W43 (Sta.wr W42 (Sta.wr W41 (Sta.wr W40 (Sta.wr W39 (Sta.wr W38 (Sta.wr W37 (Sta.wr W36 (Sta.wr W35 (Sta.wr W34 (Sta.ext E33 (Sta.wr W32 (Sta.wr W30 (Sta.wr W28 (Sta.wr W26 (Sta.wr W24 (Sta.wr W22 (Sta.wr W20 (Sta.wr W18 (Sta.wr W16 (Sta.wr W14 (Sta.wr W12 (Sta.wr W10 (Sta.wr W8 (Sta.ext E6 S10))))))))))))))))))))))))))))) e46 (Exa.wr W46 (Exa.wr W45 (Exa.wr W44 (Exa.wr W43 (Exa.wr W42 (Exa.wr W41 (Exa.wr W40 (Exa.wr W39 (Exa.wr W38 (Exa.wr W37 (Exa.wr W36 (Exa.wr W35 (Exa.wr W34 ((Exa.wr W32 (Exa.wr W30 (Exa.wr W28 (Exa.wr W26 (Exa.wr W24 (Exa.wr W22 (Exa.wr W20 (Exa.wr W18 (Exa.wr W16 (Exa.wr W14 (Exa.wr W12 (Exa.wr W10 (Exa.wr W8 (Ex8.ext E6)))))))))))))).ext E33)))))))))))))) (by rw [hml]; rfl) (lenOf pd_0 rfl) rfl (Nat.le_of_eq rfl) (hb hby at_170) (by decide) (by decide) (by decide) (by decide) ?_
    intro v63 T63 L63 X63 hQ63
    obtain ⟨rfl, Nq63, eq63⟩ := hQ63
    have N63 := Fr.app N46 Nq63
    rw [show (if x8 = x0 ∨ x8 = x8 ∨ x8 = x9 ∨ x8 = x10 then (0 : Int32) else 1) = 0 from if_pos (by simp)]
    refine own_st (fr' := (mkF m 175 #[.val (.int p0), .val (.ref b6), .val (.ref b33), .val (.int (8 : Int32)), .val (.ref x8), .val (.int (0 : Int32))] [])) (fun t k => XS.istore X63.here hx rfl (hb hby at_173) rfl  (l' := #[.val (.int p0), .val (.ref b6), .val (.ref b33), .val (.int (8 : Int32)), .val (.ref x8), .val (.int (0 : Int32))]) rfl k) ?_
    refine own_st (fr' := (mkF m 177 #[.val (.int p0), .val (.ref b6), .val (.ref b33), .val (.int (8 : Int32)), .val (.ref x8), .val (.int (0 : Int32))] [(.int (0 : Int32))])) (fun t k => XS.iload X63.here hx rfl (hb hby at_175) rfl  k) ?_
    refine own_st (fr' := (mkF m 178 #[.val (.int p0), .val (.ref b6), .val (.ref b33), .val (.int (8 : Int32)), .val (.ref x8), .val (.int (0 : Int32))] [(.ref b33), (.int (0 : Int32))])) (fun t k => XS.aloadN X63.here hx rfl (hb hby at_177) rfl rfl k) ?_
    refine own_st (fr' := (mkF m 179 #[.val (.int p0), .val (.ref b6), .val (.ref b33), .val (.int (8 : Int32)), .val (.ref x8), .val (.int (0 : Int32))] [(.int (8 : Int32)), (.ref b33), (.int (0 : Int32))])) (fun t k => XS.iloadN X63.here hx rfl (hb hby at_178) rfl  k) ?_
    refine own_zaload X63 hx hZ eq63 V46 (by decide) (by decide) (v := (.int (0 : Int32))) (rfl) (hb hby at_179) ?_
    refine own_st (fr' := (mkF m 183 #[.val (.int p0), .val (.ref b6), .val (.ref b33), .val (.int (8 : Int32)), .val (.ref x8), .val (.int (0 : Int32))] [])) (fun t k => XS.icmpNo X63.here hx rfl (hb hby at_180) rfl (own_teq (x := (0 : Int32)) (y := (0 : Int32)) (show 0 = 0 from rfl)).2 k) ?_
    refine own_st (fr' := (mkF m 185 #[.val (.int p0), .val (.ref b6), .val (.ref b33), .val (.int (8 : Int32)), .val (.ref x8), .val (.int (0 : Int32))] [(.ref x8)])) (fun t k => XS.aload X63.here hx rfl (hb hby at_183) rfl rfl k) ?_
    refine own_callV X63 hx hZ (y := (⟨"com/example/precedence/precedence/xpath/Axis", "reverse", "()Z"⟩ : MethodName)) (z := (⟨"com/example/precedence/precedence/xpath/Axis", "reverse", "()Z"⟩ : MethodName)) hown (hw _ (List.mem_of_getElem? (i := 50) rfl)) (hw _ (List.mem_of_getElem? (i := 51) rfl)) (notFace_of_selects (args := #[]) (mvT hZ (hw _ (List.mem_of_getElem? (i := 85) rfl)))) (hw _ (List.mem_of_getElem? (i := 85) rfl)) (hw _ (List.mem_of_getElem? (i := 52) rfl)) (hw _ (List.mem_of_getElem? (i := 3) rfl)) (hw _ (List.mem_of_getElem? (i := 54) rfl)) (by decide) (a := x8) (argsL := []) (rest := []) (W := 0) (rm_rev l Z a0 hw [] x8 0 h46 n0 (Nat.le_trans (Nat.le_trans (Nat.le_trans (Nat.le_trans (Nat.le_trans (Nat.le_trans (Nat.le_trans (Nat.le_trans (Nat.le_trans (Nat.le_trans (Nat.le_trans (Nat.le_trans (Nat.le_trans (Nat.le_trans (Nat.le_trans (Nat.le_trans (Nat.le_trans (Nat.le_trans (Nat.le_trans (Nat.le_trans (Nat.le_trans (Nat.le_trans (Nat.le_trans (Nat.le_trans (Nat.le_trans (Nat.le_trans (Nat.le_trans (Nat.le_trans Z0 E6.1) (Nat.le_of_eq (Wr.size W8).symm)) (Nat.le_of_eq (Wr.size W10).symm)) (Nat.le_of_eq (Wr.size W12).symm)) (Nat.le_of_eq (Wr.size W14).symm)) (Nat.le_of_eq (Wr.size W16).symm)) (Nat.le_of_eq (Wr.size W18).symm)) (Nat.le_of_eq (Wr.size W20).symm)) (Nat.le_of_eq (Wr.size W22).symm)) (Nat.le_of_eq (Wr.size W24).symm)) (Nat.le_of_eq (Wr.size W26).symm)) (Nat.le_of_eq (Wr.size W28).symm)) (Nat.le_of_eq (Wr.size W30).symm)) (Nat.le_of_eq (Wr.size W32).symm)) E33.1) (Nat.le_of_eq (Wr.size W34).symm)) (Nat.le_of_eq (Wr.size W35).symm)) (Nat.le_of_eq (Wr.size W36).symm)) (Nat.le_of_eq (Wr.size W37).symm)) (Nat.le_of_eq (Wr.size W38).symm)) (Nat.le_of_eq (Wr.size W39).symm)) (Nat.le_of_eq (Wr.size W40).symm)) (Nat.le_of_eq (Wr.size W41).symm)) (Nat.le_of_eq (Wr.size W42).symm)) (Nat.le_of_eq (Wr.size W43).symm)) (Nat.le_of_eq (Wr.size W44).symm)) (Nat.le_of_eq (Wr.size W45).symm)) (Nat.le_of_eq (Wr.size W46).symm)) (Fld.other W46 (Fld.other W45 (Fld.other W44 (Fld.other W43 (Fld.other W42 (Fld.other W41 (Fld.other W40 (Fld.other W39 (Fld.other W38 (Fld.other W37 (Fld.other W36 (Fld.other W35 (Fld.other W34 ((Fld.other W32 (Fld.other W30 (Fld.other W28 (Fld.other W26 (Fld.other W24 (Fld.other W22 (Fld.other W20 (Fld.other W18 (Fld.other W16 (Fld.other W14 (Fld.other W12 (Fld.other W10 (Fld.other W8 (F8.ext E6) (Or.inl ne6_x8)) (Or.inl ne6_x8)) (Or.inl ne6_x8)) (Or.inl ne6_x8)) (Or.inl ne6_x8)) (Or.inl ne6_x8)) (Or.inl ne6_x8)) (Or.inl ne6_x8)) (Or.inl ne6_x8)) (Or.inl ne6_x8)) (Or.inl ne6_x8)) (Or.inl ne6_x8)) (Or.inl ne6_x8)).ext E33) (Or.inl ne33_x8)) (Or.inl ne33_x8)) (Or.inl ne33_x8)) (Or.inl ne33_x8)) (Or.inl ne33_x8)) (Or.inl ne33_x8)) (Or.inl ne33_x8)) (Or.inl ne33_x8)) (Or.inl ne33_x8)) (Or.inl ne33_x8)) (Or.inl ne33_x8)) (Or.inl ne33_x8)) (Or.inl ne33_x8)) (Or.inl rfl)) eq63 (Exa.wr W46 (Exa.wr W45 (Exa.wr W44 (Exa.wr W43 (Exa.wr W42 (Exa.wr W41 (Exa.wr W40 (Exa.wr W39 (Exa.wr W38 (Exa.wr W37 (Exa.wr W36 (Exa.wr W35 (Exa.wr W34 ((Exa.wr W32 (Exa.wr W30 (Exa.wr W28 (Exa.wr W26 (Exa.wr W24 (Exa.wr W22 (Exa.wr W20 (Exa.wr W18 (Exa.wr W16 (Exa.wr W14 (Exa.wr W12 (Exa.wr W10 (Exa.wr W8 (Ex8.ext E6)))))))))))))).ext E33)))))))))))))) (by rw [hml]; rfl) (lenOf pd_0 rfl) rfl (Nat.le_of_eq rfl) (hb hby at_185) (by decide) (by decide) (by decide) (by decide) ?_
    intro v64 T64 L64 X64 hQ64
    obtain ⟨rfl, Nq64, eq64⟩ := hQ64
    have N64 := Fr.app N63 Nq64
    refine own_st (fr' := (mkF m 196 #[.val (.int p0), .val (.ref b6), .val (.ref b33), .val (.int (8 : Int32)), .val (.ref x8), .val (.int (0 : Int32))] [])) (fun t k => XS.ifYes X64.here hx rfl (pc0 := 188) (pc' := 196) rfl (hb hby at_188) rfl ((if0 _ _).trans (own_teq (x := (0 : Int32)) (y := (0 : Int32)) (show 0 = 0 from rfl)).1) (by decide) (by decide) k) ?_
    refine own_st (fr' := (mkF m 197 #[.val (.int p0), .val (.ref b6), .val (.ref b33), .val (.int (8 : Int32)), .val (.ref x8), .val (.int (0 : Int32))] [(.int (1 : Int32))])) (fun t k => XS.iconst X64.here hx rfl (hb hby at_196) k) ?_
    refine own_st (fr' := (mkF m 201 #[.val (.int p0), .val (.ref b6), .val (.ref b33), .val (.int (8 : Int32)), .val (.ref x8), .val (.int (0 : Int32))] [(.int (1 : Int32))])) (fun t k => XS.goto X64.here hx rfl (pc0 := 197) (pc' := 201) rfl (hb hby at_197) (by decide) (by decide) k) ?_
    exact own_retZ X64 hx hlk hret (Or.inr rfl) (hb hby at_201) (by decide) (by decide) (⟨rfl, N64⟩)
  · obtain rfl : ix = (9 : Int32) := Int32.toInt_inj.mp hix
    refine own_st (fr' := (mkF m 164 #[.val (.int p0), .val (.ref b6), .val (.ref b33), .val (.int (9 : Int32)), .unset, .unset] [(.ref b6)])) (fun t k => XS.aloadN X46.here hx rfl (hb hby at_163) rfl rfl k) ?_
    refine own_st (fr' := (mkF m 165 #[.val (.int p0), .val (.ref b6), .val (.ref b33), .val (.int (9 : Int32)), .unset, .unset] [(.int (9 : Int32)), (.ref b6)])) (fun t k => XS.iloadN X46.here hx rfl (hb hby at_164) rfl  k) ?_
    refine own_aaload X46 hx hZ e46 ((((((((((((((V32.ext E33).other W34 ne33_b6).other W35 ne33_b6).other W36 ne33_b6).other W37 ne33_b6).other W38 ne33_b6).other W39 ne33_b6).other W40 ne33_b6).other W41 ne33_b6).other W42 ne33_b6).other W43 ne33_b6).other W44 ne33_b6).other W45 ne33_b6).other W46 ne33_b6) rfl (by decide) (by decide) (v := (.ref x9)) (rfl) (hb hby at_165) ?_
    refine own_st (fr' := (mkF m 168 #[.val (.int p0), .val (.ref b6), .val (.ref b33), .val (.int (9 : Int32)), .val (.ref x9), .unset] [])) (fun t k => XS.astore X46.here hx rfl (hb hby at_166) rfl rfl (l' := #[.val (.int p0), .val (.ref b6), .val (.ref b33), .val (.int (9 : Int32)), .val (.ref x9), .unset]) rfl k) ?_
    refine own_st (fr' := (mkF m 170 #[.val (.int p0), .val (.ref b6), .val (.ref b33), .val (.int (9 : Int32)), .val (.ref x9), .unset] [(.ref x9)])) (fun t k => XS.aload X46.here hx rfl (hb hby at_168) rfl rfl k) ?_
    refine own_callV X46 hx hZ (y := (⟨"com/example/precedence/precedence/xpath/Axis", "overlaps", "()Z"⟩ : MethodName)) (z := (⟨"com/example/precedence/precedence/xpath/Axis", "overlaps", "()Z"⟩ : MethodName)) hown (hw _ (List.mem_of_getElem? (i := 44) rfl)) (hw _ (List.mem_of_getElem? (i := 45) rfl)) (notFace_of_selects (args := #[]) (mvT hZ (hw _ (List.mem_of_getElem? (i := 72) rfl)))) (hw _ (List.mem_of_getElem? (i := 72) rfl)) (hw _ (List.mem_of_getElem? (i := 46) rfl)) (hw _ (List.mem_of_getElem? (i := 3) rfl)) (hw _ (List.mem_of_getElem? (i := 48) rfl)) (by decide) (a := x9) (argsL := []) (rest := []) (W := 0) (rm_ovl l Z a0 hw [] x9 x0 x8 x9 x10 h46 n0 (Nat.le_trans (Nat.le_trans (Nat.le_trans (Nat.le_trans (Nat.le_trans (Nat.le_trans (Nat.le_trans (Nat.le_trans (Nat.le_trans (Nat.le_trans (Nat.le_trans (Nat.le_trans (Nat.le_trans (Nat.le_trans (Nat.le_trans (Nat.le_trans (Nat.le_trans (Nat.le_trans (Nat.le_trans (Nat.le_trans (Nat.le_trans (Nat.le_trans (Nat.le_trans (Nat.le_trans (Nat.le_trans (Nat.le_trans (Nat.le_trans (Nat.le_trans Z0 E6.1) (Nat.le_of_eq (Wr.size W8).symm)) (Nat.le_of_eq (Wr.size W10).symm)) (Nat.le_of_eq (Wr.size W12).symm)) (Nat.le_of_eq (Wr.size W14).symm)) (Nat.le_of_eq (Wr.size W16).symm)) (Nat.le_of_eq (Wr.size W18).symm)) (Nat.le_of_eq (Wr.size W20).symm)) (Nat.le_of_eq (Wr.size W22).symm)) (Nat.le_of_eq (Wr.size W24).symm)) (Nat.le_of_eq (Wr.size W26).symm)) (Nat.le_of_eq (Wr.size W28).symm)) (Nat.le_of_eq (Wr.size W30).symm)) (Nat.le_of_eq (Wr.size W32).symm)) E33.1) (Nat.le_of_eq (Wr.size W34).symm)) (Nat.le_of_eq (Wr.size W35).symm)) (Nat.le_of_eq (Wr.size W36).symm)) (Nat.le_of_eq (Wr.size W37).symm)) (Nat.le_of_eq (Wr.size W38).symm)) (Nat.le_of_eq (Wr.size W39).symm)) (Nat.le_of_eq (Wr.size W40).symm)) (Nat.le_of_eq (Wr.size W41).symm)) (Nat.le_of_eq (Wr.size W42).symm)) (Nat.le_of_eq (Wr.size W43).symm)) (Nat.le_of_eq (Wr.size W44).symm)) (Nat.le_of_eq (Wr.size W45).symm)) (Nat.le_of_eq (Wr.size W46).symm)) (Sta.wr W46 (Sta.wr W45 (Sta.wr W44 (Sta.wr W43 (Sta.wr W42 (Sta.wr W41 (Sta.wr W40 (Sta.wr W39 (Sta.wr W38 (Sta.wr W37 (Sta.wr W36 (Sta.wr W35 (Sta.wr W34 (Sta.ext E33 (Sta.wr W32 (Sta.wr W30 (Sta.wr W28 (Sta.wr W26 (Sta.wr W24 (Sta.wr W22 (Sta.wr W20 (Sta.wr W18 (Sta.wr W16 (Sta.wr W14 (Sta.wr W12 (Sta.wr W10 (Sta.wr W8 (Sta.ext E6 S0)))))))))))))))))))))))))))) (Sta.wr W46 (Sta.wr W45 (Sta.wr W44 (Sta.wr W43 (Sta.wr W42 (Sta.wr W41 (Sta.wr W40 (Sta.wr W39 (Sta.wr W38 (Sta.wr W37 (Sta.wr W36 (Sta.wr W35 (Sta.wr W34 (Sta.ext E33 (Sta.wr W32 (Sta.wr W30 (Sta.wr W28 (Sta.wr W26 (Sta.wr W24 (Sta.wr W22 (Sta.wr W20 (Sta.wr W18 (Sta.wr W16 (Sta.wr W14 (Sta.wr W12 (Sta.wr W10 (Sta.wr W8 (Sta.ext E6 S8)))))))))))))))))))))))))))) (Sta.wr W46 (Sta.wr W45 (Sta.wr W44 (Sta.wr W43 (Sta.wr W42 (Sta.wr W41 (Sta.wr W40 (Sta.wr W39 (Sta.wr W38 (Sta.wr W37 (Sta.wr W36 (Sta.wr W35 (Sta.wr W34 (Sta.ext E33 (Sta.wr W32 (Sta.wr W30 (Sta.wr W28 (Sta.wr W26 (Sta.wr W24 (Sta.wr W22 (Sta.wr W20 (Sta.wr W18 (Sta.wr W16 (Sta.wr W14 (Sta.wr W12 (Sta.wr W10 (Sta.wr W8 (Sta.ext E6 S9)))))))))))))))))))))))))))) (Sta.wr W46 (Sta.wr W45 (Sta.wr W44 (Sta.wr W43 (Sta.wr W42 (Sta.wr W41 (Sta.wr W40 (Sta.wr W39 (Sta.wr W38 (Sta.wr W37 (Sta.wr W36 (Sta.wr W35 (Sta.wr W34 (Sta.ext E33 (Sta.wr W32 (Sta.wr W30 (Sta.wr W28 (Sta.wr W26 (Sta.wr W24 (Sta.wr W22 (Sta.wr W20 (Sta.wr W18 (Sta.wr W16 (Sta.wr W14 (Sta.wr W12 (Sta.wr W10 (Sta.wr W8 (Sta.ext E6 S10))))))))))))))))))))))))))))) e46 (Exa.wr W46 (Exa.wr W45 (Exa.wr W44 (Exa.wr W43 (Exa.wr W42 (Exa.wr W41 (Exa.wr W40 (Exa.wr W39 (Exa.wr W38 (Exa.wr W37 (Exa.wr W36 (Exa.wr W35 (Exa.wr W34 ((Exa.wr W32 (Exa.wr W30 (Exa.wr W28 (Exa.wr W26 (Exa.wr W24 (Exa.wr W22 (Exa.wr W20 (Exa.wr W18 (Exa.wr W16 (Exa.wr W14 (Exa.wr W12 (Exa.wr W10 (Exa.wr W8 (Ex9.ext E6)))))))))))))).ext E33)))))))))))))) (by rw [hml]; rfl) (lenOf pd_0 rfl) rfl (Nat.le_of_eq rfl) (hb hby at_170) (by decide) (by decide) (by decide) (by decide) ?_
    intro v65 T65 L65 X65 hQ65
    obtain ⟨rfl, Nq65, eq65⟩ := hQ65
    have N65 := Fr.app N46 Nq65
    rw [show (if x9 = x0 ∨ x9 = x8 ∨ x9 = x9 ∨ x9 = x10 then (0 : Int32) else 1) = 0 from if_pos (by simp)]
    refine own_st (fr' := (mkF m 175 #[.val (.int p0), .val (.ref b6), .val (.ref b33), .val (.int (9 : Int32)), .val (.ref x9), .val (.int (0 : Int32))] [])) (fun t k => XS.istore X65.here hx rfl (hb hby at_173) rfl  (l' := #[.val (.int p0), .val (.ref b6), .val (.ref b33), .val (.int (9 : Int32)), .val (.ref x9), .val (.int (0 : Int32))]) rfl k) ?_
    refine own_st (fr' := (mkF m 177 #[.val (.int p0), .val (.ref b6), .val (.ref b33), .val (.int (9 : Int32)), .val (.ref x9), .val (.int (0 : Int32))] [(.int (0 : Int32))])) (fun t k => XS.iload X65.here hx rfl (hb hby at_175) rfl  k) ?_
    refine own_st (fr' := (mkF m 178 #[.val (.int p0), .val (.ref b6), .val (.ref b33), .val (.int (9 : Int32)), .val (.ref x9), .val (.int (0 : Int32))] [(.ref b33), (.int (0 : Int32))])) (fun t k => XS.aloadN X65.here hx rfl (hb hby at_177) rfl rfl k) ?_
    refine own_st (fr' := (mkF m 179 #[.val (.int p0), .val (.ref b6), .val (.ref b33), .val (.int (9 : Int32)), .val (.ref x9), .val (.int (0 : Int32))] [(.int (9 : Int32)), (.ref b33), (.int (0 : Int32))])) (fun t k => XS.iloadN X65.here hx rfl (hb hby at_178) rfl  k) ?_
    refine own_zaload X65 hx hZ eq65 V46 (by decide) (by decide) (v := (.int (0 : Int32))) (rfl) (hb hby at_179) ?_
    refine own_st (fr' := (mkF m 183 #[.val (.int p0), .val (.ref b6), .val (.ref b33), .val (.int (9 : Int32)), .val (.ref x9), .val (.int (0 : Int32))] [])) (fun t k => XS.icmpNo X65.here hx rfl (hb hby at_180) rfl (own_teq (x := (0 : Int32)) (y := (0 : Int32)) (show 0 = 0 from rfl)).2 k) ?_
    refine own_st (fr' := (mkF m 185 #[.val (.int p0), .val (.ref b6), .val (.ref b33), .val (.int (9 : Int32)), .val (.ref x9), .val (.int (0 : Int32))] [(.ref x9)])) (fun t k => XS.aload X65.here hx rfl (hb hby at_183) rfl rfl k) ?_
    refine own_callV X65 hx hZ (y := (⟨"com/example/precedence/precedence/xpath/Axis", "reverse", "()Z"⟩ : MethodName)) (z := (⟨"com/example/precedence/precedence/xpath/Axis", "reverse", "()Z"⟩ : MethodName)) hown (hw _ (List.mem_of_getElem? (i := 50) rfl)) (hw _ (List.mem_of_getElem? (i := 51) rfl)) (notFace_of_selects (args := #[]) (mvT hZ (hw _ (List.mem_of_getElem? (i := 73) rfl)))) (hw _ (List.mem_of_getElem? (i := 73) rfl)) (hw _ (List.mem_of_getElem? (i := 52) rfl)) (hw _ (List.mem_of_getElem? (i := 3) rfl)) (hw _ (List.mem_of_getElem? (i := 54) rfl)) (by decide) (a := x9) (argsL := []) (rest := []) (W := 0) (rm_rev l Z a0 hw [] x9 0 h46 n0 (Nat.le_trans (Nat.le_trans (Nat.le_trans (Nat.le_trans (Nat.le_trans (Nat.le_trans (Nat.le_trans (Nat.le_trans (Nat.le_trans (Nat.le_trans (Nat.le_trans (Nat.le_trans (Nat.le_trans (Nat.le_trans (Nat.le_trans (Nat.le_trans (Nat.le_trans (Nat.le_trans (Nat.le_trans (Nat.le_trans (Nat.le_trans (Nat.le_trans (Nat.le_trans (Nat.le_trans (Nat.le_trans (Nat.le_trans (Nat.le_trans (Nat.le_trans Z0 E6.1) (Nat.le_of_eq (Wr.size W8).symm)) (Nat.le_of_eq (Wr.size W10).symm)) (Nat.le_of_eq (Wr.size W12).symm)) (Nat.le_of_eq (Wr.size W14).symm)) (Nat.le_of_eq (Wr.size W16).symm)) (Nat.le_of_eq (Wr.size W18).symm)) (Nat.le_of_eq (Wr.size W20).symm)) (Nat.le_of_eq (Wr.size W22).symm)) (Nat.le_of_eq (Wr.size W24).symm)) (Nat.le_of_eq (Wr.size W26).symm)) (Nat.le_of_eq (Wr.size W28).symm)) (Nat.le_of_eq (Wr.size W30).symm)) (Nat.le_of_eq (Wr.size W32).symm)) E33.1) (Nat.le_of_eq (Wr.size W34).symm)) (Nat.le_of_eq (Wr.size W35).symm)) (Nat.le_of_eq (Wr.size W36).symm)) (Nat.le_of_eq (Wr.size W37).symm)) (Nat.le_of_eq (Wr.size W38).symm)) (Nat.le_of_eq (Wr.size W39).symm)) (Nat.le_of_eq (Wr.size W40).symm)) (Nat.le_of_eq (Wr.size W41).symm)) (Nat.le_of_eq (Wr.size W42).symm)) (Nat.le_of_eq (Wr.size W43).symm)) (Nat.le_of_eq (Wr.size W44).symm)) (Nat.le_of_eq (Wr.size W45).symm)) (Nat.le_of_eq (Wr.size W46).symm)) (Fld.other W46 (Fld.other W45 (Fld.other W44 (Fld.other W43 (Fld.other W42 (Fld.other W41 (Fld.other W40 (Fld.other W39 (Fld.other W38 (Fld.other W37 (Fld.other W36 (Fld.other W35 (Fld.other W34 ((Fld.other W32 (Fld.other W30 (Fld.other W28 (Fld.other W26 (Fld.other W24 (Fld.other W22 (Fld.other W20 (Fld.other W18 (Fld.other W16 (Fld.other W14 (Fld.other W12 (Fld.other W10 (Fld.other W8 (F9.ext E6) (Or.inl ne6_x9)) (Or.inl ne6_x9)) (Or.inl ne6_x9)) (Or.inl ne6_x9)) (Or.inl ne6_x9)) (Or.inl ne6_x9)) (Or.inl ne6_x9)) (Or.inl ne6_x9)) (Or.inl ne6_x9)) (Or.inl ne6_x9)) (Or.inl ne6_x9)) (Or.inl ne6_x9)) (Or.inl ne6_x9)).ext E33) (Or.inl ne33_x9)) (Or.inl ne33_x9)) (Or.inl ne33_x9)) (Or.inl ne33_x9)) (Or.inl ne33_x9)) (Or.inl ne33_x9)) (Or.inl ne33_x9)) (Or.inl ne33_x9)) (Or.inl ne33_x9)) (Or.inl ne33_x9)) (Or.inl ne33_x9)) (Or.inl ne33_x9)) (Or.inl ne33_x9)) (Or.inl rfl)) eq65 (Exa.wr W46 (Exa.wr W45 (Exa.wr W44 (Exa.wr W43 (Exa.wr W42 (Exa.wr W41 (Exa.wr W40 (Exa.wr W39 (Exa.wr W38 (Exa.wr W37 (Exa.wr W36 (Exa.wr W35 (Exa.wr W34 ((Exa.wr W32 (Exa.wr W30 (Exa.wr W28 (Exa.wr W26 (Exa.wr W24 (Exa.wr W22 (Exa.wr W20 (Exa.wr W18 (Exa.wr W16 (Exa.wr W14 (Exa.wr W12 (Exa.wr W10 (Exa.wr W8 (Ex9.ext E6)))))))))))))).ext E33)))))))))))))) (by rw [hml]; rfl) (lenOf pd_0 rfl) rfl (Nat.le_of_eq rfl) (hb hby at_185) (by decide) (by decide) (by decide) (by decide) ?_
    intro v66 T66 L66 X66 hQ66
    obtain ⟨rfl, Nq66, eq66⟩ := hQ66
    have N66 := Fr.app N65 Nq66
    refine own_st (fr' := (mkF m 196 #[.val (.int p0), .val (.ref b6), .val (.ref b33), .val (.int (9 : Int32)), .val (.ref x9), .val (.int (0 : Int32))] [])) (fun t k => XS.ifYes X66.here hx rfl (pc0 := 188) (pc' := 196) rfl (hb hby at_188) rfl ((if0 _ _).trans (own_teq (x := (0 : Int32)) (y := (0 : Int32)) (show 0 = 0 from rfl)).1) (by decide) (by decide) k) ?_
    refine own_st (fr' := (mkF m 197 #[.val (.int p0), .val (.ref b6), .val (.ref b33), .val (.int (9 : Int32)), .val (.ref x9), .val (.int (0 : Int32))] [(.int (1 : Int32))])) (fun t k => XS.iconst X66.here hx rfl (hb hby at_196) k) ?_
    refine own_st (fr' := (mkF m 201 #[.val (.int p0), .val (.ref b6), .val (.ref b33), .val (.int (9 : Int32)), .val (.ref x9), .val (.int (0 : Int32))] [(.int (1 : Int32))])) (fun t k => XS.goto X66.here hx rfl (pc0 := 197) (pc' := 201) rfl (hb hby at_197) (by decide) (by decide) k) ?_
    exact own_retZ X66 hx hlk hret (Or.inr rfl) (hb hby at_201) (by decide) (by decide) (⟨rfl, N66⟩)
  · obtain rfl : ix = (10 : Int32) := Int32.toInt_inj.mp hix
    refine own_st (fr' := (mkF m 164 #[.val (.int p0), .val (.ref b6), .val (.ref b33), .val (.int (10 : Int32)), .unset, .unset] [(.ref b6)])) (fun t k => XS.aloadN X46.here hx rfl (hb hby at_163) rfl rfl k) ?_
    refine own_st (fr' := (mkF m 165 #[.val (.int p0), .val (.ref b6), .val (.ref b33), .val (.int (10 : Int32)), .unset, .unset] [(.int (10 : Int32)), (.ref b6)])) (fun t k => XS.iloadN X46.here hx rfl (hb hby at_164) rfl  k) ?_
    refine own_aaload X46 hx hZ e46 ((((((((((((((V32.ext E33).other W34 ne33_b6).other W35 ne33_b6).other W36 ne33_b6).other W37 ne33_b6).other W38 ne33_b6).other W39 ne33_b6).other W40 ne33_b6).other W41 ne33_b6).other W42 ne33_b6).other W43 ne33_b6).other W44 ne33_b6).other W45 ne33_b6).other W46 ne33_b6) rfl (by decide) (by decide) (v := (.ref x10)) (rfl) (hb hby at_165) ?_
    refine own_st (fr' := (mkF m 168 #[.val (.int p0), .val (.ref b6), .val (.ref b33), .val (.int (10 : Int32)), .val (.ref x10), .unset] [])) (fun t k => XS.astore X46.here hx rfl (hb hby at_166) rfl rfl (l' := #[.val (.int p0), .val (.ref b6), .val (.ref b33), .val (.int (10 : Int32)), .val (.ref x10), .unset]) rfl k) ?_
    refine own_st (fr' := (mkF m 170 #[.val (.int p0), .val (.ref b6), .val (.ref b33), .val (.int (10 : Int32)), .val (.ref x10), .unset] [(.ref x10)])) (fun t k => XS.aload X46.here hx rfl (hb hby at_168) rfl rfl k) ?_
    refine own_callV X46 hx hZ (y := (⟨"com/example/precedence/precedence/xpath/Axis", "overlaps", "()Z"⟩ : MethodName)) (z := (⟨"com/example/precedence/precedence/xpath/Axis", "overlaps", "()Z"⟩ : MethodName)) hown (hw _ (List.mem_of_getElem? (i := 44) rfl)) (hw _ (List.mem_of_getElem? (i := 45) rfl)) (notFace_of_selects (args := #[]) (mvT hZ (hw _ (List.mem_of_getElem? (i := 87) rfl)))) (hw _ (List.mem_of_getElem? (i := 87) rfl)) (hw _ (List.mem_of_getElem? (i := 46) rfl)) (hw _ (List.mem_of_getElem? (i := 3) rfl)) (hw _ (List.mem_of_getElem? (i := 48) rfl)) (by decide) (a := x10) (argsL := []) (rest := []) (W := 0) (rm_ovl l Z a0 hw [] x10 x0 x8 x9 x10 h46 n0 (Nat.le_trans (Nat.le_trans (Nat.le_trans (Nat.le_trans (Nat.le_trans (Nat.le_trans (Nat.le_trans (Nat.le_trans (Nat.le_trans (Nat.le_trans (Nat.le_trans (Nat.le_trans (Nat.le_trans (Nat.le_trans (Nat.le_trans (Nat.le_trans (Nat.le_trans (Nat.le_trans (Nat.le_trans (Nat.le_trans (Nat.le_trans (Nat.le_trans (Nat.le_trans (Nat.le_trans (Nat.le_trans (Nat.le_trans (Nat.le_trans (Nat.le_trans Z0 E6.1) (Nat.le_of_eq (Wr.size W8).symm)) (Nat.le_of_eq (Wr.size W10).symm)) (Nat.le_of_eq (Wr.size W12).symm)) (Nat.le_of_eq (Wr.size W14).symm)) (Nat.le_of_eq (Wr.size W16).symm)) (Nat.le_of_eq (Wr.size W18).symm)) (Nat.le_of_eq (Wr.size W20).symm)) (Nat.le_of_eq (Wr.size W22).symm)) (Nat.le_of_eq (Wr.size W24).symm)) (Nat.le_of_eq (Wr.size W26).symm)) (Nat.le_of_eq (Wr.size W28).symm)) (Nat.le_of_eq (Wr.size W30).symm)) (Nat.le_of_eq (Wr.size W32).symm)) E33.1) (Nat.le_of_eq (Wr.size W34).symm)) (Nat.le_of_eq (Wr.size W35).symm)) (Nat.le_of_eq (Wr.size W36).symm)) (Nat.le_of_eq (Wr.size W37).symm)) (Nat.le_of_eq (Wr.size W38).symm)) (Nat.le_of_eq (Wr.size W39).symm)) (Nat.le_of_eq (Wr.size W40).symm)) (Nat.le_of_eq (Wr.size W41).symm)) (Nat.le_of_eq (Wr.size W42).symm)) (Nat.le_of_eq (Wr.size W43).symm)) (Nat.le_of_eq (Wr.size W44).symm)) (Nat.le_of_eq (Wr.size W45).symm)) (Nat.le_of_eq (Wr.size W46).symm)) (Sta.wr W46 (Sta.wr W45 (Sta.wr W44 (Sta.wr W43 (Sta.wr W42 (Sta.wr W41 (Sta.wr W40 (Sta.wr W39 (Sta.wr W38 (Sta.wr W37 (Sta.wr W36 (Sta.wr W35 (Sta.wr W34 (Sta.ext E33 (Sta.wr W32 (Sta.wr W30 (Sta.wr W28 (Sta.wr W26 (Sta.wr W24 (Sta.wr W22 (Sta.wr W20 (Sta.wr W18 (Sta.wr W16 (Sta.wr W14 (Sta.wr W12 (Sta.wr W10 (Sta.wr W8 (Sta.ext E6 S0)))))))))))))))))))))))))))) (Sta.wr W46 (Sta.wr W45 (Sta.wr W44 (Sta.wr W43 (Sta.wr W42 (Sta.wr W41 (Sta.wr W40 (Sta.wr W39 (Sta.wr W38 (Sta.wr W37 (Sta.wr W36 (Sta.wr W35 (Sta.wr W34 (Sta.ext E33 (Sta.wr W32 (Sta.wr W30 (Sta.wr W28 (Sta.wr W26 (Sta.wr W24 (Sta.wr W22 (Sta.wr W20 (Sta.wr W18 (Sta.wr W16 (Sta.wr W14 (Sta.wr W12 (Sta.wr W10 (Sta.wr W8 (Sta.ext E6 S8)))))))))))))))))))))))))))) (Sta.wr W46 (Sta.wr W45 (Sta.wr W44 (Sta.wr W43 (Sta.wr W42 (Sta.wr W41 (Sta.wr W40 (Sta.wr W39 (Sta.wr W38 (Sta.wr W37 (Sta.wr W36 (Sta.wr W35 (Sta.wr W34 (Sta.ext E33 (Sta.wr W32 (Sta.wr W30 (Sta.wr W28 (Sta.wr W26 (Sta.wr W24 (Sta.wr W22 (Sta.wr W20 (Sta.wr W18 (Sta.wr W16 (Sta.wr W14 (Sta.wr W12 (Sta.wr W10 (Sta.wr W8 (Sta.ext E6 S9)))))))))))))))))))))))))))) (Sta.wr W46 (Sta.wr W45 (Sta.wr W44 (Sta.wr W43 (Sta.wr W42 (Sta.wr W41 (Sta.wr W40 (Sta.wr W39 (Sta.wr W38 (Sta.wr W37 (Sta.wr W36 (Sta.wr W35 (Sta.wr W34 (Sta.ext E33 (Sta.wr W32 (Sta.wr W30 (Sta.wr W28 (Sta.wr W26 (Sta.wr W24 (Sta.wr W22 (Sta.wr W20 (Sta.wr W18 (Sta.wr W16 (Sta.wr W14 (Sta.wr W12 (Sta.wr W10 (Sta.wr W8 (Sta.ext E6 S10))))))))))))))))))))))))))))) e46 (Exa.wr W46 (Exa.wr W45 (Exa.wr W44 (Exa.wr W43 (Exa.wr W42 (Exa.wr W41 (Exa.wr W40 (Exa.wr W39 (Exa.wr W38 (Exa.wr W37 (Exa.wr W36 (Exa.wr W35 (Exa.wr W34 ((Exa.wr W32 (Exa.wr W30 (Exa.wr W28 (Exa.wr W26 (Exa.wr W24 (Exa.wr W22 (Exa.wr W20 (Exa.wr W18 (Exa.wr W16 (Exa.wr W14 (Exa.wr W12 (Exa.wr W10 (Exa.wr W8 (Ex10.ext E6)))))))))))))).ext E33)))))))))))))) (by rw [hml]; rfl) (lenOf pd_0 rfl) rfl (Nat.le_of_eq rfl) (hb hby at_170) (by decide) (by decide) (by decide) (by decide) ?_
    intro v67 T67 L67 X67 hQ67
    obtain ⟨rfl, Nq67, eq67⟩ := hQ67
    have N67 := Fr.app N46 Nq67
    rw [show (if x10 = x0 ∨ x10 = x8 ∨ x10 = x9 ∨ x10 = x10 then (0 : Int32) else 1) = 0 from if_pos (by simp)]
    refine own_st (fr' := (mkF m 175 #[.val (.int p0), .val (.ref b6), .val (.ref b33), .val (.int (10 : Int32)), .val (.ref x10), .val (.int (0 : Int32))] [])) (fun t k => XS.istore X67.here hx rfl (hb hby at_173) rfl  (l' := #[.val (.int p0), .val (.ref b6), .val (.ref b33), .val (.int (10 : Int32)), .val (.ref x10), .val (.int (0 : Int32))]) rfl k) ?_
    refine own_st (fr' := (mkF m 177 #[.val (.int p0), .val (.ref b6), .val (.ref b33), .val (.int (10 : Int32)), .val (.ref x10), .val (.int (0 : Int32))] [(.int (0 : Int32))])) (fun t k => XS.iload X67.here hx rfl (hb hby at_175) rfl  k) ?_
    refine own_st (fr' := (mkF m 178 #[.val (.int p0), .val (.ref b6), .val (.ref b33), .val (.int (10 : Int32)), .val (.ref x10), .val (.int (0 : Int32))] [(.ref b33), (.int (0 : Int32))])) (fun t k => XS.aloadN X67.here hx rfl (hb hby at_177) rfl rfl k) ?_
    refine own_st (fr' := (mkF m 179 #[.val (.int p0), .val (.ref b6), .val (.ref b33), .val (.int (10 : Int32)), .val (.ref x10), .val (.int (0 : Int32))] [(.int (10 : Int32)), (.ref b33), (.int (0 : Int32))])) (fun t k => XS.iloadN X67.here hx rfl (hb hby at_178) rfl  k) ?_
    refine own_zaload X67 hx hZ eq67 V46 (by decide) (by decide) (v := (.int (0 : Int32))) (rfl) (hb hby at_179) ?_
    refine own_st (fr' := (mkF m 183 #[.val (.int p0), .val (.ref b6), .val (.ref b33), .val (.int (10 : Int32)), .val (.ref x10), .val (.int (0 : Int32))] [])) (fun t k => XS.icmpNo X67.here hx rfl (hb hby at_180) rfl (own_teq (x := (0 : Int32)) (y := (0 : Int32)) (show 0 = 0 from rfl)).2 k) ?_
    refine own_st (fr' := (mkF m 185 #[.val (.int p0), .val (.ref b6), .val (.ref b33), .val (.int (10 : Int32)), .val (.ref x10), .val (.int (0 : Int32))] [(.ref x10)])) (fun t k => XS.aload X67.here hx rfl (hb hby at_183) rfl rfl k) ?_
    refine own_callV X67 hx hZ (y := (⟨"com/example/precedence/precedence/xpath/Axis", "reverse", "()Z"⟩ : MethodName)) (z := (⟨"com/example/precedence/precedence/xpath/Axis", "reverse", "()Z"⟩ : MethodName)) hown (hw _ (List.mem_of_getElem? (i := 50) rfl)) (hw _ (List.mem_of_getElem? (i := 51) rfl)) (notFace_of_selects (args := #[]) (mvT hZ (hw _ (List.mem_of_getElem? (i := 88) rfl)))) (hw _ (List.mem_of_getElem? (i := 88) rfl)) (hw _ (List.mem_of_getElem? (i := 52) rfl)) (hw _ (List.mem_of_getElem? (i := 3) rfl)) (hw _ (List.mem_of_getElem? (i := 54) rfl)) (by decide) (a := x10) (argsL := []) (rest := []) (W := 0) (rm_rev l Z a0 hw [] x10 0 h46 n0 (Nat.le_trans (Nat.le_trans (Nat.le_trans (Nat.le_trans (Nat.le_trans (Nat.le_trans (Nat.le_trans (Nat.le_trans (Nat.le_trans (Nat.le_trans (Nat.le_trans (Nat.le_trans (Nat.le_trans (Nat.le_trans (Nat.le_trans (Nat.le_trans (Nat.le_trans (Nat.le_trans (Nat.le_trans (Nat.le_trans (Nat.le_trans (Nat.le_trans (Nat.le_trans (Nat.le_trans (Nat.le_trans (Nat.le_trans (Nat.le_trans (Nat.le_trans Z0 E6.1) (Nat.le_of_eq (Wr.size W8).symm)) (Nat.le_of_eq (Wr.size W10).symm)) (Nat.le_of_eq (Wr.size W12).symm)) (Nat.le_of_eq (Wr.size W14).symm)) (Nat.le_of_eq (Wr.size W16).symm)) (Nat.le_of_eq (Wr.size W18).symm)) (Nat.le_of_eq (Wr.size W20).symm)) (Nat.le_of_eq (Wr.size W22).symm)) (Nat.le_of_eq (Wr.size W24).symm)) (Nat.le_of_eq (Wr.size W26).symm)) (Nat.le_of_eq (Wr.size W28).symm)) (Nat.le_of_eq (Wr.size W30).symm)) (Nat.le_of_eq (Wr.size W32).symm)) E33.1) (Nat.le_of_eq (Wr.size W34).symm)) (Nat.le_of_eq (Wr.size W35).symm)) (Nat.le_of_eq (Wr.size W36).symm)) (Nat.le_of_eq (Wr.size W37).symm)) (Nat.le_of_eq (Wr.size W38).symm)) (Nat.le_of_eq (Wr.size W39).symm)) (Nat.le_of_eq (Wr.size W40).symm)) (Nat.le_of_eq (Wr.size W41).symm)) (Nat.le_of_eq (Wr.size W42).symm)) (Nat.le_of_eq (Wr.size W43).symm)) (Nat.le_of_eq (Wr.size W44).symm)) (Nat.le_of_eq (Wr.size W45).symm)) (Nat.le_of_eq (Wr.size W46).symm)) (Fld.other W46 (Fld.other W45 (Fld.other W44 (Fld.other W43 (Fld.other W42 (Fld.other W41 (Fld.other W40 (Fld.other W39 (Fld.other W38 (Fld.other W37 (Fld.other W36 (Fld.other W35 (Fld.other W34 ((Fld.other W32 (Fld.other W30 (Fld.other W28 (Fld.other W26 (Fld.other W24 (Fld.other W22 (Fld.other W20 (Fld.other W18 (Fld.other W16 (Fld.other W14 (Fld.other W12 (Fld.other W10 (Fld.other W8 (F10.ext E6) (Or.inl ne6_x10)) (Or.inl ne6_x10)) (Or.inl ne6_x10)) (Or.inl ne6_x10)) (Or.inl ne6_x10)) (Or.inl ne6_x10)) (Or.inl ne6_x10)) (Or.inl ne6_x10)) (Or.inl ne6_x10)) (Or.inl ne6_x10)) (Or.inl ne6_x10)) (Or.inl ne6_x10)) (Or.inl ne6_x10)).ext E33) (Or.inl ne33_x10)) (Or.inl ne33_x10)) (Or.inl ne33_x10)) (Or.inl ne33_x10)) (Or.inl ne33_x10)) (Or.inl ne33_x10)) (Or.inl ne33_x10)) (Or.inl ne33_x10)) (Or.inl ne33_x10)) (Or.inl ne33_x10)) (Or.inl ne33_x10)) (Or.inl ne33_x10)) (Or.inl ne33_x10)) (Or.inl rfl)) eq67 (Exa.wr W46 (Exa.wr W45 (Exa.wr W44 (Exa.wr W43 (Exa.wr W42 (Exa.wr W41 (Exa.wr W40 (Exa.wr W39 (Exa.wr W38 (Exa.wr W37 (Exa.wr W36 (Exa.wr W35 (Exa.wr W34 ((Exa.wr W32 (Exa.wr W30 (Exa.wr W28 (Exa.wr W26 (Exa.wr W24 (Exa.wr W22 (Exa.wr W20 (Exa.wr W18 (Exa.wr W16 (Exa.wr W14 (Exa.wr W12 (Exa.wr W10 (Exa.wr W8 (Ex10.ext E6)))))))))))))).ext E33)))))))))))))) (by rw [hml]; rfl) (lenOf pd_0 rfl) rfl (Nat.le_of_eq rfl) (hb hby at_185) (by decide) (by decide) (by decide) (by decide) ?_
    intro v68 T68 L68 X68 hQ68
    obtain ⟨rfl, Nq68, eq68⟩ := hQ68
    have N68 := Fr.app N67 Nq68
    refine own_st (fr' := (mkF m 196 #[.val (.int p0), .val (.ref b6), .val (.ref b33), .val (.int (10 : Int32)), .val (.ref x10), .val (.int (0 : Int32))] [])) (fun t k => XS.ifYes X68.here hx rfl (pc0 := 188) (pc' := 196) rfl (hb hby at_188) rfl ((if0 _ _).trans (own_teq (x := (0 : Int32)) (y := (0 : Int32)) (show 0 = 0 from rfl)).1) (by decide) (by decide) k) ?_
    refine own_st (fr' := (mkF m 197 #[.val (.int p0), .val (.ref b6), .val (.ref b33), .val (.int (10 : Int32)), .val (.ref x10), .val (.int (0 : Int32))] [(.int (1 : Int32))])) (fun t k => XS.iconst X68.here hx rfl (hb hby at_196) k) ?_
    refine own_st (fr' := (mkF m 201 #[.val (.int p0), .val (.ref b6), .val (.ref b33), .val (.int (10 : Int32)), .val (.ref x10), .val (.int (0 : Int32))] [(.int (1 : Int32))])) (fun t k => XS.goto X68.here hx rfl (pc0 := 197) (pc' := 201) rfl (hb hby at_197) (by decide) (by decide) k) ?_
    exact own_retZ X68 hx hlk hret (Or.inr rfl) (hb hby at_201) (by decide) (by decide) (⟨rfl, N68⟩)
  · obtain rfl : ix = (11 : Int32) := Int32.toInt_inj.mp hix
    refine own_st (fr' := (mkF m 164 #[.val (.int p0), .val (.ref b6), .val (.ref b33), .val (.int (11 : Int32)), .unset, .unset] [(.ref b6)])) (fun t k => XS.aloadN X46.here hx rfl (hb hby at_163) rfl rfl k) ?_
    refine own_st (fr' := (mkF m 165 #[.val (.int p0), .val (.ref b6), .val (.ref b33), .val (.int (11 : Int32)), .unset, .unset] [(.int (11 : Int32)), (.ref b6)])) (fun t k => XS.iloadN X46.here hx rfl (hb hby at_164) rfl  k) ?_
    refine own_aaload X46 hx hZ e46 ((((((((((((((V32.ext E33).other W34 ne33_b6).other W35 ne33_b6).other W36 ne33_b6).other W37 ne33_b6).other W38 ne33_b6).other W39 ne33_b6).other W40 ne33_b6).other W41 ne33_b6).other W42 ne33_b6).other W43 ne33_b6).other W44 ne33_b6).other W45 ne33_b6).other W46 ne33_b6) rfl (by decide) (by decide) (v := (.ref x11)) (rfl) (hb hby at_165) ?_
    refine own_st (fr' := (mkF m 168 #[.val (.int p0), .val (.ref b6), .val (.ref b33), .val (.int (11 : Int32)), .val (.ref x11), .unset] [])) (fun t k => XS.astore X46.here hx rfl (hb hby at_166) rfl rfl (l' := #[.val (.int p0), .val (.ref b6), .val (.ref b33), .val (.int (11 : Int32)), .val (.ref x11), .unset]) rfl k) ?_
    refine own_st (fr' := (mkF m 170 #[.val (.int p0), .val (.ref b6), .val (.ref b33), .val (.int (11 : Int32)), .val (.ref x11), .unset] [(.ref x11)])) (fun t k => XS.aload X46.here hx rfl (hb hby at_168) rfl rfl k) ?_
    refine own_callV X46 hx hZ (y := (⟨"com/example/precedence/precedence/xpath/Axis", "overlaps", "()Z"⟩ : MethodName)) (z := (⟨"com/example/precedence/precedence/xpath/Axis", "overlaps", "()Z"⟩ : MethodName)) hown (hw _ (List.mem_of_getElem? (i := 44) rfl)) (hw _ (List.mem_of_getElem? (i := 45) rfl)) (notFace_of_selects (args := #[]) (mvT hZ (hw _ (List.mem_of_getElem? (i := 78) rfl)))) (hw _ (List.mem_of_getElem? (i := 78) rfl)) (hw _ (List.mem_of_getElem? (i := 46) rfl)) (hw _ (List.mem_of_getElem? (i := 3) rfl)) (hw _ (List.mem_of_getElem? (i := 48) rfl)) (by decide) (a := x11) (argsL := []) (rest := []) (W := 0) (rm_ovl l Z a0 hw [] x11 x0 x8 x9 x10 h46 n0 (Nat.le_trans (Nat.le_trans (Nat.le_trans (Nat.le_trans (Nat.le_trans (Nat.le_trans (Nat.le_trans (Nat.le_trans (Nat.le_trans (Nat.le_trans (Nat.le_trans (Nat.le_trans (Nat.le_trans (Nat.le_trans (Nat.le_trans (Nat.le_trans (Nat.le_trans (Nat.le_trans (Nat.le_trans (Nat.le_trans (Nat.le_trans (Nat.le_trans (Nat.le_trans (Nat.le_trans (Nat.le_trans (Nat.le_trans (Nat.le_trans (Nat.le_trans Z0 E6.1) (Nat.le_of_eq (Wr.size W8).symm)) (Nat.le_of_eq (Wr.size W10).symm)) (Nat.le_of_eq (Wr.size W12).symm)) (Nat.le_of_eq (Wr.size W14).symm)) (Nat.le_of_eq (Wr.size W16).symm)) (Nat.le_of_eq (Wr.size W18).symm)) (Nat.le_of_eq (Wr.size W20).symm)) (Nat.le_of_eq (Wr.size W22).symm)) (Nat.le_of_eq (Wr.size W24).symm)) (Nat.le_of_eq (Wr.size W26).symm)) (Nat.le_of_eq (Wr.size W28).symm)) (Nat.le_of_eq (Wr.size W30).symm)) (Nat.le_of_eq (Wr.size W32).symm)) E33.1) (Nat.le_of_eq (Wr.size W34).symm)) (Nat.le_of_eq (Wr.size W35).symm)) (Nat.le_of_eq (Wr.size W36).symm)) (Nat.le_of_eq (Wr.size W37).symm)) (Nat.le_of_eq (Wr.size W38).symm)) (Nat.le_of_eq (Wr.size W39).symm)) (Nat.le_of_eq (Wr.size W40).symm)) (Nat.le_of_eq (Wr.size W41).symm)) (Nat.le_of_eq (Wr.size W42).symm)) (Nat.le_of_eq (Wr.size W43).symm)) (Nat.le_of_eq (Wr.size W44).symm)) (Nat.le_of_eq (Wr.size W45).symm)) (Nat.le_of_eq (Wr.size W46).symm)) (Sta.wr W46 (Sta.wr W45 (Sta.wr W44 (Sta.wr W43 (Sta.wr W42 (Sta.wr W41 (Sta.wr W40 (Sta.wr W39 (Sta.wr W38 (Sta.wr W37 (Sta.wr W36 (Sta.wr W35 (Sta.wr W34 (Sta.ext E33 (Sta.wr W32 (Sta.wr W30 (Sta.wr W28 (Sta.wr W26 (Sta.wr W24 (Sta.wr W22 (Sta.wr W20 (Sta.wr W18 (Sta.wr W16 (Sta.wr W14 (Sta.wr W12 (Sta.wr W10 (Sta.wr W8 (Sta.ext E6 S0)))))))))))))))))))))))))))) (Sta.wr W46 (Sta.wr W45 (Sta.wr W44 (Sta.wr W43 (Sta.wr W42 (Sta.wr W41 (Sta.wr W40 (Sta.wr W39 (Sta.wr W38 (Sta.wr W37 (Sta.wr W36 (Sta.wr W35 (Sta.wr W34 (Sta.ext E33 (Sta.wr W32 (Sta.wr W30 (Sta.wr W28 (Sta.wr W26 (Sta.wr W24 (Sta.wr W22 (Sta.wr W20 (Sta.wr W18 (Sta.wr W16 (Sta.wr W14 (Sta.wr W12 (Sta.wr W10 (Sta.wr W8 (Sta.ext E6 S8)))))))))))))))))))))))))))) (Sta.wr W46 (Sta.wr W45 (Sta.wr W44 (Sta.wr W43 (Sta.wr W42 (Sta.wr W41 (Sta.wr W40 (Sta.wr W39 (Sta.wr W38 (Sta.wr W37 (Sta.wr W36 (Sta.wr W35 (Sta.wr W34 (Sta.ext E33 (Sta.wr W32 (Sta.wr W30 (Sta.wr W28 (Sta.wr W26 (Sta.wr W24 (Sta.wr W22 (Sta.wr W20 (Sta.wr W18 (Sta.wr W16 (Sta.wr W14 (Sta.wr W12 (Sta.wr W10 (Sta.wr W8 (Sta.ext E6 S9)))))))))))))))))))))))))))) (Sta.wr W46 (Sta.wr W45 (Sta.wr W44 (Sta.wr W43 (Sta.wr W42 (Sta.wr W41 (Sta.wr W40 (Sta.wr W39 (Sta.wr W38 (Sta.wr W37 (Sta.wr W36 (Sta.wr W35 (Sta.wr W34 (Sta.ext E33 (Sta.wr W32 (Sta.wr W30 (Sta.wr W28 (Sta.wr W26 (Sta.wr W24 (Sta.wr W22 (Sta.wr W20 (Sta.wr W18 (Sta.wr W16 (Sta.wr W14 (Sta.wr W12 (Sta.wr W10 (Sta.wr W8 (Sta.ext E6 S10))))))))))))))))))))))))))))) e46 (Exa.wr W46 (Exa.wr W45 (Exa.wr W44 (Exa.wr W43 (Exa.wr W42 (Exa.wr W41 (Exa.wr W40 (Exa.wr W39 (Exa.wr W38 (Exa.wr W37 (Exa.wr W36 (Exa.wr W35 (Exa.wr W34 ((Exa.wr W32 (Exa.wr W30 (Exa.wr W28 (Exa.wr W26 (Exa.wr W24 (Exa.wr W22 (Exa.wr W20 (Exa.wr W18 (Exa.wr W16 (Exa.wr W14 (Exa.wr W12 (Exa.wr W10 (Exa.wr W8 (Ex11.ext E6)))))))))))))).ext E33)))))))))))))) (by rw [hml]; rfl) (lenOf pd_0 rfl) rfl (Nat.le_of_eq rfl) (hb hby at_170) (by decide) (by decide) (by decide) (by decide) ?_
    intro v69 T69 L69 X69 hQ69
    obtain ⟨rfl, Nq69, eq69⟩ := hQ69
    have N69 := Fr.app N46 Nq69
    rw [show (if x11 = x0 ∨ x11 = x8 ∨ x11 = x9 ∨ x11 = x10 then (0 : Int32) else 1) = 1 from if_neg (by simp [ne_exa Ex11 Ex0 (by decide), ne_exa Ex11 Ex8 (by decide), ne_exa Ex11 Ex9 (by decide), ne_exa Ex11 Ex10 (by decide)])]
    refine own_st (fr' := (mkF m 175 #[.val (.int p0), .val (.ref b6), .val (.ref b33), .val (.int (11 : Int32)), .val (.ref x11), .val (.int (1 : Int32))] [])) (fun t k => XS.istore X69.here hx rfl (hb hby at_173) rfl  (l' := #[.val (.int p0), .val (.ref b6), .val (.ref b33), .val (.int (11 : Int32)), .val (.ref x11), .val (.int (1 : Int32))]) rfl k) ?_
    refine own_st (fr' := (mkF m 177 #[.val (.int p0), .val (.ref b6), .val (.ref b33), .val (.int (11 : Int32)), .val (.ref x11), .val (.int (1 : Int32))] [(.int (1 : Int32))])) (fun t k => XS.iload X69.here hx rfl (hb hby at_175) rfl  k) ?_
    refine own_st (fr' := (mkF m 178 #[.val (.int p0), .val (.ref b6), .val (.ref b33), .val (.int (11 : Int32)), .val (.ref x11), .val (.int (1 : Int32))] [(.ref b33), (.int (1 : Int32))])) (fun t k => XS.aloadN X69.here hx rfl (hb hby at_177) rfl rfl k) ?_
    refine own_st (fr' := (mkF m 179 #[.val (.int p0), .val (.ref b6), .val (.ref b33), .val (.int (11 : Int32)), .val (.ref x11), .val (.int (1 : Int32))] [(.int (11 : Int32)), (.ref b33), (.int (1 : Int32))])) (fun t k => XS.iloadN X69.here hx rfl (hb hby at_178) rfl  k) ?_
    refine own_zaload X69 hx hZ eq69 V46 (by decide) (by decide) (v := (.int (1 : Int32))) (rfl) (hb hby at_179) ?_
    refine own_st (fr' := (mkF m 183 #[.val (.int p0), .val (.ref b6), .val (.ref b33), .val (.int (11 : Int32)), .val (.ref x11), .val (.int (1 : Int32))] [])) (fun t k => XS.icmpNo X69.here hx rfl (hb hby at_180) rfl (own_teq (x := (1 : Int32)) (y := (1 : Int32)) (show 1 = 1 from rfl)).2 k) ?_
    refine own_st (fr' := (mkF m 185 #[.val (.int p0), .val (.ref b6), .val (.ref b33), .val (.int (11 : Int32)), .val (.ref x11), .val (.int (1 : Int32))] [(.ref x11)])) (fun t k => XS.aload X69.here hx rfl (hb hby at_183) rfl rfl k) ?_
    refine own_callV X69 hx hZ (y := (⟨"com/example/precedence/precedence/xpath/Axis", "reverse", "()Z"⟩ : MethodName)) (z := (⟨"com/example/precedence/precedence/xpath/Axis", "reverse", "()Z"⟩ : MethodName)) hown (hw _ (List.mem_of_getElem? (i := 50) rfl)) (hw _ (List.mem_of_getElem? (i := 51) rfl)) (notFace_of_selects (args := #[]) (mvT hZ (hw _ (List.mem_of_getElem? (i := 79) rfl)))) (hw _ (List.mem_of_getElem? (i := 79) rfl)) (hw _ (List.mem_of_getElem? (i := 52) rfl)) (hw _ (List.mem_of_getElem? (i := 3) rfl)) (hw _ (List.mem_of_getElem? (i := 54) rfl)) (by decide) (a := x11) (argsL := []) (rest := []) (W := 0) (rm_rev l Z a0 hw [] x11 0 h46 n0 (Nat.le_trans (Nat.le_trans (Nat.le_trans (Nat.le_trans (Nat.le_trans (Nat.le_trans (Nat.le_trans (Nat.le_trans (Nat.le_trans (Nat.le_trans (Nat.le_trans (Nat.le_trans (Nat.le_trans (Nat.le_trans (Nat.le_trans (Nat.le_trans (Nat.le_trans (Nat.le_trans (Nat.le_trans (Nat.le_trans (Nat.le_trans (Nat.le_trans (Nat.le_trans (Nat.le_trans (Nat.le_trans (Nat.le_trans (Nat.le_trans (Nat.le_trans Z0 E6.1) (Nat.le_of_eq (Wr.size W8).symm)) (Nat.le_of_eq (Wr.size W10).symm)) (Nat.le_of_eq (Wr.size W12).symm)) (Nat.le_of_eq (Wr.size W14).symm)) (Nat.le_of_eq (Wr.size W16).symm)) (Nat.le_of_eq (Wr.size W18).symm)) (Nat.le_of_eq (Wr.size W20).symm)) (Nat.le_of_eq (Wr.size W22).symm)) (Nat.le_of_eq (Wr.size W24).symm)) (Nat.le_of_eq (Wr.size W26).symm)) (Nat.le_of_eq (Wr.size W28).symm)) (Nat.le_of_eq (Wr.size W30).symm)) (Nat.le_of_eq (Wr.size W32).symm)) E33.1) (Nat.le_of_eq (Wr.size W34).symm)) (Nat.le_of_eq (Wr.size W35).symm)) (Nat.le_of_eq (Wr.size W36).symm)) (Nat.le_of_eq (Wr.size W37).symm)) (Nat.le_of_eq (Wr.size W38).symm)) (Nat.le_of_eq (Wr.size W39).symm)) (Nat.le_of_eq (Wr.size W40).symm)) (Nat.le_of_eq (Wr.size W41).symm)) (Nat.le_of_eq (Wr.size W42).symm)) (Nat.le_of_eq (Wr.size W43).symm)) (Nat.le_of_eq (Wr.size W44).symm)) (Nat.le_of_eq (Wr.size W45).symm)) (Nat.le_of_eq (Wr.size W46).symm)) (Fld.other W46 (Fld.other W45 (Fld.other W44 (Fld.other W43 (Fld.other W42 (Fld.other W41 (Fld.other W40 (Fld.other W39 (Fld.other W38 (Fld.other W37 (Fld.other W36 (Fld.other W35 (Fld.other W34 ((Fld.other W32 (Fld.other W30 (Fld.other W28 (Fld.other W26 (Fld.other W24 (Fld.other W22 (Fld.other W20 (Fld.other W18 (Fld.other W16 (Fld.other W14 (Fld.other W12 (Fld.other W10 (Fld.other W8 (F11.ext E6) (Or.inl ne6_x11)) (Or.inl ne6_x11)) (Or.inl ne6_x11)) (Or.inl ne6_x11)) (Or.inl ne6_x11)) (Or.inl ne6_x11)) (Or.inl ne6_x11)) (Or.inl ne6_x11)) (Or.inl ne6_x11)) (Or.inl ne6_x11)) (Or.inl ne6_x11)) (Or.inl ne6_x11)) (Or.inl ne6_x11)).ext E33) (Or.inl ne33_x11)) (Or.inl ne33_x11)) (Or.inl ne33_x11)) (Or.inl ne33_x11)) (Or.inl ne33_x11)) (Or.inl ne33_x11)) (Or.inl ne33_x11)) (Or.inl ne33_x11)) (Or.inl ne33_x11)) (Or.inl ne33_x11)) (Or.inl ne33_x11)) (Or.inl ne33_x11)) (Or.inl ne33_x11)) (Or.inl rfl)) eq69 (Exa.wr W46 (Exa.wr W45 (Exa.wr W44 (Exa.wr W43 (Exa.wr W42 (Exa.wr W41 (Exa.wr W40 (Exa.wr W39 (Exa.wr W38 (Exa.wr W37 (Exa.wr W36 (Exa.wr W35 (Exa.wr W34 ((Exa.wr W32 (Exa.wr W30 (Exa.wr W28 (Exa.wr W26 (Exa.wr W24 (Exa.wr W22 (Exa.wr W20 (Exa.wr W18 (Exa.wr W16 (Exa.wr W14 (Exa.wr W12 (Exa.wr W10 (Exa.wr W8 (Ex11.ext E6)))))))))))))).ext E33)))))))))))))) (by rw [hml]; rfl) (lenOf pd_0 rfl) rfl (Nat.le_of_eq rfl) (hb hby at_185) (by decide) (by decide) (by decide) (by decide) ?_
    intro v70 T70 L70 X70 hQ70
    obtain ⟨rfl, Nq70, eq70⟩ := hQ70
    have N70 := Fr.app N69 Nq70
    refine own_st (fr' := (mkF m 196 #[.val (.int p0), .val (.ref b6), .val (.ref b33), .val (.int (11 : Int32)), .val (.ref x11), .val (.int (1 : Int32))] [])) (fun t k => XS.ifYes X70.here hx rfl (pc0 := 188) (pc' := 196) rfl (hb hby at_188) rfl ((if0 _ _).trans (own_teq (x := (0 : Int32)) (y := (0 : Int32)) (show 0 = 0 from rfl)).1) (by decide) (by decide) k) ?_
    refine own_st (fr' := (mkF m 197 #[.val (.int p0), .val (.ref b6), .val (.ref b33), .val (.int (11 : Int32)), .val (.ref x11), .val (.int (1 : Int32))] [(.int (1 : Int32))])) (fun t k => XS.iconst X70.here hx rfl (hb hby at_196) k) ?_
    refine own_st (fr' := (mkF m 201 #[.val (.int p0), .val (.ref b6), .val (.ref b33), .val (.int (11 : Int32)), .val (.ref x11), .val (.int (1 : Int32))] [(.int (1 : Int32))])) (fun t k => XS.goto X70.here hx rfl (pc0 := 197) (pc' := 201) rfl (hb hby at_197) (by decide) (by decide) k) ?_
    exact own_retZ X70 hx hlk hret (Or.inr rfl) (hb hby at_201) (by decide) (by decide) (⟨rfl, N70⟩)
  · obtain rfl : ix = (12 : Int32) := Int32.toInt_inj.mp hix
    refine own_st (fr' := (mkF m 164 #[.val (.int p0), .val (.ref b6), .val (.ref b33), .val (.int (12 : Int32)), .unset, .unset] [(.ref b6)])) (fun t k => XS.aloadN X46.here hx rfl (hb hby at_163) rfl rfl k) ?_
    refine own_st (fr' := (mkF m 165 #[.val (.int p0), .val (.ref b6), .val (.ref b33), .val (.int (12 : Int32)), .unset, .unset] [(.int (12 : Int32)), (.ref b6)])) (fun t k => XS.iloadN X46.here hx rfl (hb hby at_164) rfl  k) ?_
    refine own_aaload X46 hx hZ e46 ((((((((((((((V32.ext E33).other W34 ne33_b6).other W35 ne33_b6).other W36 ne33_b6).other W37 ne33_b6).other W38 ne33_b6).other W39 ne33_b6).other W40 ne33_b6).other W41 ne33_b6).other W42 ne33_b6).other W43 ne33_b6).other W44 ne33_b6).other W45 ne33_b6).other W46 ne33_b6) rfl (by decide) (by decide) (v := (.ref x12)) (rfl) (hb hby at_165) ?_
    refine own_st (fr' := (mkF m 168 #[.val (.int p0), .val (.ref b6), .val (.ref b33), .val (.int (12 : Int32)), .val (.ref x12), .unset] [])) (fun t k => XS.astore X46.here hx rfl (hb hby at_166) rfl rfl (l' := #[.val (.int p0), .val (.ref b6), .val (.ref b33), .val (.int (12 : Int32)), .val (.ref x12), .unset]) rfl k) ?_
    refine own_st (fr' := (mkF m 170 #[.val (.int p0), .val (.ref b6), .val (.ref b33), .val (.int (12 : Int32)), .val (.ref x12), .unset] [(.ref x12)])) (fun t k => XS.aload X46.here hx rfl (hb hby at_168) rfl rfl k) ?_
    refine own_callV X46 hx hZ (y := (⟨"com/example/precedence/precedence/xpath/Axis", "overlaps", "()Z"⟩ : MethodName)) (z := (⟨"com/example/precedence/precedence/xpath/Axis", "overlaps", "()Z"⟩ : MethodName)) hown (hw _ (List.mem_of_getElem? (i := 44) rfl)) (hw _ (List.mem_of_getElem? (i := 45) rfl)) (notFace_of_selects (args := #[]) (mvT hZ (hw _ (List.mem_of_getElem? (i := 90) rfl)))) (hw _ (List.mem_of_getElem? (i := 90) rfl)) (hw _ (List.mem_of_getElem? (i := 46) rfl)) (hw _ (List.mem_of_getElem? (i := 3) rfl)) (hw _ (List.mem_of_getElem? (i := 48) rfl)) (by decide) (a := x12) (argsL := []) (rest := []) (W := 0) (rm_ovl l Z a0 hw [] x12 x0 x8 x9 x10 h46 n0 (Nat.le_trans (Nat.le_trans (Nat.le_trans (Nat.le_trans (Nat.le_trans (Nat.le_trans (Nat.le_trans (Nat.le_trans (Nat.le_trans (Nat.le_trans (Nat.le_trans (Nat.le_trans (Nat.le_trans (Nat.le_trans (Nat.le_trans (Nat.le_trans (Nat.le_trans (Nat.le_trans (Nat.le_trans (Nat.le_trans (Nat.le_trans (Nat.le_trans (Nat.le_trans (Nat.le_trans (Nat.le_trans (Nat.le_trans (Nat.le_trans (Nat.le_trans Z0 E6.1) (Nat.le_of_eq (Wr.size W8).symm)) (Nat.le_of_eq (Wr.size W10).symm)) (Nat.le_of_eq (Wr.size W12).symm)) (Nat.le_of_eq (Wr.size W14).symm)) (Nat.le_of_eq (Wr.size W16).symm)) (Nat.le_of_eq (Wr.size W18).symm)) (Nat.le_of_eq (Wr.size W20).symm)) (Nat.le_of_eq (Wr.size W22).symm)) (Nat.le_of_eq (Wr.size W24).symm)) (Nat.le_of_eq (Wr.size W26).symm)) (Nat.le_of_eq (Wr.size W28).symm)) (Nat.le_of_eq (Wr.size W30).symm)) (Nat.le_of_eq (Wr.size W32).symm)) E33.1) (Nat.le_of_eq (Wr.size W34).symm)) (Nat.le_of_eq (Wr.size W35).symm)) (Nat.le_of_eq (Wr.size W36).symm)) (Nat.le_of_eq (Wr.size W37).symm)) (Nat.le_of_eq (Wr.size W38).symm)) (Nat.le_of_eq (Wr.size W39).symm)) (Nat.le_of_eq (Wr.size W40).symm)) (Nat.le_of_eq (Wr.size W41).symm)) (Nat.le_of_eq (Wr.size W42).symm)) (Nat.le_of_eq (Wr.size W43).symm)) (Nat.le_of_eq (Wr.size W44).symm)) (Nat.le_of_eq (Wr.size W45).symm)) (Nat.le_of_eq (Wr.size W46).symm)) (Sta.wr W46 (Sta.wr W45 (Sta.wr W44 (Sta.wr W43 (Sta.wr W42 (Sta.wr W41 (Sta.wr W40 (Sta.wr W39 (Sta.wr W38 (Sta.wr W37 (Sta.wr W36 (Sta.wr W35 (Sta.wr W34 (Sta.ext E33 (Sta.wr W32 (Sta.wr W30 (Sta.wr W28 (Sta.wr W26 (Sta.wr W24 (Sta.wr W22 (Sta.wr W20 (Sta.wr W18 (Sta.wr W16 (Sta.wr W14 (Sta.wr W12 (Sta.wr W10 (Sta.wr W8 (Sta.ext E6 S0)))))))))))))))))))))))))))) (Sta.wr W46 (Sta.wr W45 (Sta.wr W44 (Sta.wr W43 (Sta.wr W42 (Sta.wr W41 (Sta.wr W40 (Sta.wr W39 (Sta.wr W38 (Sta.wr W37 (Sta.wr W36 (Sta.wr W35 (Sta.wr W34 (Sta.ext E33 (Sta.wr W32 (Sta.wr W30 (Sta.wr W28 (Sta.wr W26 (Sta.wr W24 (Sta.wr W22 (Sta.wr W20 (Sta.wr W18 (Sta.wr W16 (Sta.wr W14 (Sta.wr W12 (Sta.wr W10 (Sta.wr W8 (Sta.ext E6 S8)))))))))))))))))))))))))))) (Sta.wr W46 (Sta.wr W45 (Sta.wr W44 (Sta.wr W43 (Sta.wr W42 (Sta.wr W41 (Sta.wr W40 (Sta.wr W39 (Sta.wr W38 (Sta.wr W37 (Sta.wr W36 (Sta.wr W35 (Sta.wr W34 (Sta.ext E33 (Sta.wr W32 (Sta.wr W30 (Sta.wr W28 (Sta.wr W26 (Sta.wr W24 (Sta.wr W22 (Sta.wr W20 (Sta.wr W18 (Sta.wr W16 (Sta.wr W14 (Sta.wr W12 (Sta.wr W10 (Sta.wr W8 (Sta.ext E6 S9)))))))))))))))))))))))))))) (Sta.wr W46 (Sta.wr W45 (Sta.wr W44 (Sta.wr W43 (Sta.wr W42 (Sta.wr W41 (Sta.wr W40 (Sta.wr W39 (Sta.wr W38 (Sta.wr W37 (Sta.wr W36 (Sta.wr W35 (Sta.wr W34 (Sta.ext E33 (Sta.wr W32 (Sta.wr W30 (Sta.wr W28 (Sta.wr W26 (Sta.wr W24 (Sta.wr W22 (Sta.wr W20 (Sta.wr W18 (Sta.wr W16 (Sta.wr W14 (Sta.wr W12 (Sta.wr W10 (Sta.wr W8 (Sta.ext E6 S10))))))))))))))))))))))))))))) e46 (Exa.wr W46 (Exa.wr W45 (Exa.wr W44 (Exa.wr W43 (Exa.wr W42 (Exa.wr W41 (Exa.wr W40 (Exa.wr W39 (Exa.wr W38 (Exa.wr W37 (Exa.wr W36 (Exa.wr W35 (Exa.wr W34 ((Exa.wr W32 (Exa.wr W30 (Exa.wr W28 (Exa.wr W26 (Exa.wr W24 (Exa.wr W22 (Exa.wr W20 (Exa.wr W18 (Exa.wr W16 (Exa.wr W14 (Exa.wr W12 (Exa.wr W10 (Exa.wr W8 (Ex12.ext E6)))))))))))))).ext E33)))))))))))))) (by rw [hml]; rfl) (lenOf pd_0 rfl) rfl (Nat.le_of_eq rfl) (hb hby at_170) (by decide) (by decide) (by decide) (by decide) ?_
    intro v71 T71 L71 X71 hQ71
    obtain ⟨rfl, Nq71, eq71⟩ := hQ71
    have N71 := Fr.app N46 Nq71
    rw [show (if x12 = x0 ∨ x12 = x8 ∨ x12 = x9 ∨ x12 = x10 then (0 : Int32) else 1) = 1 from if_neg (by simp [ne_exa Ex12 Ex0 (by decide), ne_exa Ex12 Ex8 (by decide), ne_exa Ex12 Ex9 (by decide), ne_exa Ex12 Ex10 (by decide)])]
    refine own_st (fr' := (mkF m 175 #[.val (.int p0), .val (.ref b6), .val (.ref b33), .val (.int (12 : Int32)), .val (.ref x12), .val (.int (1 : Int32))] [])) (fun t k => XS.istore X71.here hx rfl (hb hby at_173) rfl  (l' := #[.val (.int p0), .val (.ref b6), .val (.ref b33), .val (.int (12 : Int32)), .val (.ref x12), .val (.int (1 : Int32))]) rfl k) ?_
    refine own_st (fr' := (mkF m 177 #[.val (.int p0), .val (.ref b6), .val (.ref b33), .val (.int (12 : Int32)), .val (.ref x12), .val (.int (1 : Int32))] [(.int (1 : Int32))])) (fun t k => XS.iload X71.here hx rfl (hb hby at_175) rfl  k) ?_
    refine own_st (fr' := (mkF m 178 #[.val (.int p0), .val (.ref b6), .val (.ref b33), .val (.int (12 : Int32)), .val (.ref x12), .val (.int (1 : Int32))] [(.ref b33), (.int (1 : Int32))])) (fun t k => XS.aloadN X71.here hx rfl (hb hby at_177) rfl rfl k) ?_
    refine own_st (fr' := (mkF m 179 #[.val (.int p0), .val (.ref b6), .val (.ref b33), .val (.int (12 : Int32)), .val (.ref x12), .val (.int (1 : Int32))] [(.int (12 : Int32)), (.ref b33), (.int (1 : Int32))])) (fun t k => XS.iloadN X71.here hx rfl (hb hby at_178) rfl  k) ?_
    refine own_zaload X71 hx hZ eq71 V46 (by decide) (by decide) (v := (.int (1 : Int32))) (rfl) (hb hby at_179) ?_
    refine own_st (fr' := (mkF m 183 #[.val (.int p0), .val (.ref b6), .val (.ref b33), .val (.int (12 : Int32)), .val (.ref x12), .val (.int (1 : Int32))] [])) (fun t k => XS.icmpNo X71.here hx rfl (hb hby at_180) rfl (own_teq (x := (1 : Int32)) (y := (1 : Int32)) (show 1 = 1 from rfl)).2 k) ?_
    refine own_st (fr' := (mkF m 185 #[.val (.int p0), .val (.ref b6), .val (.ref b33), .val (.int (12 : Int32)), .val (.ref x12), .val (.int (1 : Int32))] [(.ref x12)])) (fun t k => XS.aload X71.here hx rfl (hb hby at_183) rfl rfl k) ?_
    refine own_callV X71 hx hZ (y := (⟨"com/example/precedence/precedence/xpath/Axis", "reverse", "()Z"⟩ : MethodName)) (z := (⟨"com/example/precedence/precedence/xpath/Axis", "reverse", "()Z"⟩ : MethodName)) hown (hw _ (List.mem_of_getElem? (i := 50) rfl)) (hw _ (List.mem_of_getElem? (i := 51) rfl)) (notFace_of_selects (args := #[]) (mvT hZ (hw _ (List.mem_of_getElem? (i := 91) rfl)))) (hw _ (List.mem_of_getElem? (i := 91) rfl)) (hw _ (List.mem_of_getElem? (i := 52) rfl)) (hw _ (List.mem_of_getElem? (i := 3) rfl)) (hw _ (List.mem_of_getElem? (i := 54) rfl)) (by decide) (a := x12) (argsL := []) (rest := []) (W := 0) (rm_rev l Z a0 hw [] x12 1 h46 n0 (Nat.le_trans (Nat.le_trans (Nat.le_trans (Nat.le_trans (Nat.le_trans (Nat.le_trans (Nat.le_trans (Nat.le_trans (Nat.le_trans (Nat.le_trans (Nat.le_trans (Nat.le_trans (Nat.le_trans (Nat.le_trans (Nat.le_trans (Nat.le_trans (Nat.le_trans (Nat.le_trans (Nat.le_trans (Nat.le_trans (Nat.le_trans (Nat.le_trans (Nat.le_trans (Nat.le_trans (Nat.le_trans (Nat.le_trans (Nat.le_trans (Nat.le_trans Z0 E6.1) (Nat.le_of_eq (Wr.size W8).symm)) (Nat.le_of_eq (Wr.size W10).symm)) (Nat.le_of_eq (Wr.size W12).symm)) (Nat.le_of_eq (Wr.size W14).symm)) (Nat.le_of_eq (Wr.size W16).symm)) (Nat.le_of_eq (Wr.size W18).symm)) (Nat.le_of_eq (Wr.size W20).symm)) (Nat.le_of_eq (Wr.size W22).symm)) (Nat.le_of_eq (Wr.size W24).symm)) (Nat.le_of_eq (Wr.size W26).symm)) (Nat.le_of_eq (Wr.size W28).symm)) (Nat.le_of_eq (Wr.size W30).symm)) (Nat.le_of_eq (Wr.size W32).symm)) E33.1) (Nat.le_of_eq (Wr.size W34).symm)) (Nat.le_of_eq (Wr.size W35).symm)) (Nat.le_of_eq (Wr.size W36).symm)) (Nat.le_of_eq (Wr.size W37).symm)) (Nat.le_of_eq (Wr.size W38).symm)) (Nat.le_of_eq (Wr.size W39).symm)) (Nat.le_of_eq (Wr.size W40).symm)) (Nat.le_of_eq (Wr.size W41).symm)) (Nat.le_of_eq (Wr.size W42).symm)) (Nat.le_of_eq (Wr.size W43).symm)) (Nat.le_of_eq (Wr.size W44).symm)) (Nat.le_of_eq (Wr.size W45).symm)) (Nat.le_of_eq (Wr.size W46).symm)) (Fld.other W46 (Fld.other W45 (Fld.other W44 (Fld.other W43 (Fld.other W42 (Fld.other W41 (Fld.other W40 (Fld.other W39 (Fld.other W38 (Fld.other W37 (Fld.other W36 (Fld.other W35 (Fld.other W34 ((Fld.other W32 (Fld.other W30 (Fld.other W28 (Fld.other W26 (Fld.other W24 (Fld.other W22 (Fld.other W20 (Fld.other W18 (Fld.other W16 (Fld.other W14 (Fld.other W12 (Fld.other W10 (Fld.other W8 (F12.ext E6) (Or.inl ne6_x12)) (Or.inl ne6_x12)) (Or.inl ne6_x12)) (Or.inl ne6_x12)) (Or.inl ne6_x12)) (Or.inl ne6_x12)) (Or.inl ne6_x12)) (Or.inl ne6_x12)) (Or.inl ne6_x12)) (Or.inl ne6_x12)) (Or.inl ne6_x12)) (Or.inl ne6_x12)) (Or.inl ne6_x12)).ext E33) (Or.inl ne33_x12)) (Or.inl ne33_x12)) (Or.inl ne33_x12)) (Or.inl ne33_x12)) (Or.inl ne33_x12)) (Or.inl ne33_x12)) (Or.inl ne33_x12)) (Or.inl ne33_x12)) (Or.inl ne33_x12)) (Or.inl ne33_x12)) (Or.inl ne33_x12)) (Or.inl ne33_x12)) (Or.inl ne33_x12)) (Or.inr rfl)) eq71 (Exa.wr W46 (Exa.wr W45 (Exa.wr W44 (Exa.wr W43 (Exa.wr W42 (Exa.wr W41 (Exa.wr W40 (Exa.wr W39 (Exa.wr W38 (Exa.wr W37 (Exa.wr W36 (Exa.wr W35 (Exa.wr W34 ((Exa.wr W32 (Exa.wr W30 (Exa.wr W28 (Exa.wr W26 (Exa.wr W24 (Exa.wr W22 (Exa.wr W20 (Exa.wr W18 (Exa.wr W16 (Exa.wr W14 (Exa.wr W12 (Exa.wr W10 (Exa.wr W8 (Ex12.ext E6)))))))))))))).ext E33)))))))))))))) (by rw [hml]; rfl) (lenOf pd_0 rfl) rfl (Nat.le_of_eq rfl) (hb hby at_185) (by decide) (by decide) (by decide) (by decide) ?_
    intro v72 T72 L72 X72 hQ72
    obtain ⟨rfl, Nq72, eq72⟩ := hQ72
    have N72 := Fr.app N71 Nq72
    refine own_st (fr' := (mkF m 191 #[.val (.int p0), .val (.ref b6), .val (.ref b33), .val (.int (12 : Int32)), .val (.ref x12), .val (.int (1 : Int32))] [])) (fun t k => XS.ifNo X72.here hx rfl (hb hby at_188) rfl ((if0 _ _).trans (own_feq (x := (1 : Int32)) (y := (0 : Int32)) (show ¬ 1 = 0 from by decide)).1) k) ?_
    refine own_st (fr' := (mkF m 193 #[.val (.int p0), .val (.ref b6), .val (.ref b33), .val (.int (12 : Int32)), .val (.ref x12), .val (.int (1 : Int32))] [(.int (1 : Int32))])) (fun t k => XS.iload X72.here hx rfl (hb hby at_191) rfl  k) ?_
    refine own_st (fr' := (mkF m 196 #[.val (.int p0), .val (.ref b6), .val (.ref b33), .val (.int (12 : Int32)), .val (.ref x12), .val (.int (1 : Int32))] [])) (fun t k => XS.ifNo X72.here hx rfl (hb hby at_193) rfl ((if0 _ _).trans (own_feq (x := (1 : Int32)) (y := (0 : Int32)) (show ¬ 1 = 0 from by decide)).1) k) ?_
    refine own_st (fr' := (mkF m 197 #[.val (.int p0), .val (.ref b6), .val (.ref b33), .val (.int (12 : Int32)), .val (.ref x12), .val (.int (1 : Int32))] [(.int (1 : Int32))])) (fun t k => XS.iconst X72.here hx rfl (hb hby at_196) k) ?_
    refine own_st (fr' := (mkF m 201 #[.val (.int p0), .val (.ref b6), .val (.ref b33), .val (.int (12 : Int32)), .val (.ref x12), .val (.int (1 : Int32))] [(.int (1 : Int32))])) (fun t k => XS.goto X72.here hx rfl (pc0 := 197) (pc' := 201) rfl (hb hby at_197) (by decide) (by decide) k) ?_
    exact own_retZ X72 hx hlk hret (Or.inr rfl) (hb hby at_201) (by decide) (by decide) (⟨rfl, N72⟩)
set_option maxRecDepth 65536 in
set_option maxHeartbeats 40000000 in
theorem comes_1 {Post : Tables → Env → Array Value → State → Outcome → State → Prop} (hpost : ∀ tb e args s v u, (limb_1_1.after args s (.returned v) u = true ∧ limb_1_2.after args s (.returned v) u = true ∧ True) → FrameEnd s (.returned v) u (Jvm.fieldLocs frame_1_writes args s ++ Jvm.arrayLocs frame_1_arrays args s ++ Jvm.staticLocs frame_1_statics s) 16 128 → Post tb e args s (.returned v) u) :
    ArmFor flags0 classFile x code maxLocals ret World_1 tables_1 room_1 Calls_1 rest_1 Pre_1 Post := by
  intro l hfl _ _ p e ha hc hk s m args below hf hA hF happ hP
  obtain ⟨hcalls, hrest, hpre⟩ := hP
  obtain ⟨-, -, -, hnamed, -, -, -, hat⟩ := (Spec.applies_iff hf).mp happ
  obtain ⟨hg, hn⟩ := and_e (Cond.before_iff.mp (show (Jvm.Cond.and given_1 narrow_1).before args s = true from hpre))
  obtain ⟨hcount, ha0⟩ := and_e hg
  have hi0 := ha0
  obtain ⟨w0, rfl⟩ : ∃ w0 : Value, args = #[w0] := by
    have hs : args.size = 1 := by simpa [Cond.value, given_1] using hcount
    obtain ⟨L⟩ := args
    match L, hs with
    | [w0], _ => exact ⟨w0, rfl⟩
  have hw := fun d (hd : d ∈ tables_1) => atoms_spec (ws := Jvm.Cond.code x code maxLocals ret :: tables_1) hat d (List.mem_cons_of_mem _ hd)
  have hfit : Fit s := fun {y c} hc i hi => by
    obtain ⟨ha, rfl⟩ := Array.getElem?_eq_some_iff.mp hc
    have q := List.all_eq_true.mp ((Array.all_eq_true_iff_forall_mem.mp hF) _ (Array.getElem_mem ha)) i (List.mem_range.mpr hi)
    simpa [Array.getElem?_eq_getElem hi] using q
  obtain ⟨i0, ei0⟩ := is_v hi0
  obtain rfl : w0 = (.int i0) := Option.some.inj ei0
  obtain ⟨nx0, nr0⟩ := and_e hn
  obtain ⟨nx1, nr1⟩ := and_e nr0
  obtain ⟨nx2, nr2⟩ := and_e nr1
  obtain ⟨nx3, nr3⟩ := and_e nr2
  obtain ⟨nx4, nr4⟩ := and_e nr3
  obtain ⟨nx5, nr5⟩ := and_e nr4
  obtain ⟨nx6, nr6⟩ := and_e nr5
  obtain ⟨nx7, nr7⟩ := and_e nr6
  obtain ⟨nx8, nr8⟩ := and_e nr7
  obtain ⟨nx9, nr9⟩ := and_e nr8
  obtain ⟨nx10, nr10⟩ := and_e nr9
  obtain ⟨nx11, nr11⟩ := and_e nr10
  obtain ⟨nx12, nr12⟩ := and_e nr11
  obtain ⟨nf0, ng0⟩ := and_e nr12
  obtain ⟨nf1, ng1⟩ := and_e ng0
  obtain ⟨nf2, ng2⟩ := and_e ng1
  obtain ⟨nf3, ng3⟩ := and_e ng2
  obtain ⟨nf4, ng4⟩ := and_e ng3
  obtain ⟨nf5, ng5⟩ := and_e ng4
  obtain ⟨nf6, ng6⟩ := and_e ng5
  obtain ⟨nf7, ng7⟩ := and_e ng6
  obtain ⟨nf8, ng8⟩ := and_e ng7
  obtain ⟨nf9, ng9⟩ := and_e ng8
  obtain ⟨nf10, ng10⟩ := and_e ng9
  obtain ⟨nf11, ng11⟩ := and_e ng10
  have nf12 := ng11
  obtain ⟨x0, ex0⟩ := exa_v nx0
  have Ex0 := exa_at ex0 nx0
  have S0 := Sta.start ex0 (Or.inr ⟨(hw _ (List.mem_of_getElem? (i := 3) rfl)), (hw _ (List.mem_of_getElem? (i := 4) rfl))⟩)
  obtain ⟨x1, ex1⟩ := exa_v nx1
  have Ex1 := exa_at ex1 nx1
  have S1 := Sta.start ex1 (Or.inr ⟨(hw _ (List.mem_of_getElem? (i := 3) rfl)), (hw _ (List.mem_of_getElem? (i := 7) rfl))⟩)
  obtain ⟨x2, ex2⟩ := exa_v nx2
  have Ex2 := exa_at ex2 nx2
  have S2 := Sta.start ex2 (Or.inr ⟨(hw _ (List.mem_of_getElem? (i := 3) rfl)), (hw _ (List.mem_of_getElem? (i := 10) rfl))⟩)
  obtain ⟨x3, ex3⟩ := exa_v nx3
  have Ex3 := exa_at ex3 nx3
  have S3 := Sta.start ex3 (Or.inr ⟨(hw _ (List.mem_of_getElem? (i := 3) rfl)), (hw _ (List.mem_of_getElem? (i := 13) rfl))⟩)
  obtain ⟨x4, ex4⟩ := exa_v nx4
  have Ex4 := exa_at ex4 nx4
  have S4 := Sta.start ex4 (Or.inr ⟨(hw _ (List.mem_of_getElem? (i := 3) rfl)), (hw _ (List.mem_of_getElem? (i := 16) rfl))⟩)
  obtain ⟨x5, ex5⟩ := exa_v nx5
  have Ex5 := exa_at ex5 nx5
  have S5 := Sta.start ex5 (Or.inr ⟨(hw _ (List.mem_of_getElem? (i := 3) rfl)), (hw _ (List.mem_of_getElem? (i := 19) rfl))⟩)
  obtain ⟨x6, ex6⟩ := exa_v nx6
  have Ex6 := exa_at ex6 nx6
  have S6 := Sta.start ex6 (Or.inr ⟨(hw _ (List.mem_of_getElem? (i := 3) rfl)), (hw _ (List.mem_of_getElem? (i := 22) rfl))⟩)
  obtain ⟨x7, ex7⟩ := exa_v nx7
  have Ex7 := exa_at ex7 nx7
  have S7 := Sta.start ex7 (Or.inr ⟨(hw _ (List.mem_of_getElem? (i := 3) rfl)), (hw _ (List.mem_of_getElem? (i := 25) rfl))⟩)
  obtain ⟨x8, ex8⟩ := exa_v nx8
  have Ex8 := exa_at ex8 nx8
  have S8 := Sta.start ex8 (Or.inr ⟨(hw _ (List.mem_of_getElem? (i := 3) rfl)), (hw _ (List.mem_of_getElem? (i := 28) rfl))⟩)
  obtain ⟨x9, ex9⟩ := exa_v nx9
  have Ex9 := exa_at ex9 nx9
  have S9 := Sta.start ex9 (Or.inr ⟨(hw _ (List.mem_of_getElem? (i := 3) rfl)), (hw _ (List.mem_of_getElem? (i := 31) rfl))⟩)
  obtain ⟨x10, ex10⟩ := exa_v nx10
  have Ex10 := exa_at ex10 nx10
  have S10 := Sta.start ex10 (Or.inr ⟨(hw _ (List.mem_of_getElem? (i := 3) rfl)), (hw _ (List.mem_of_getElem? (i := 34) rfl))⟩)
  obtain ⟨x11, ex11⟩ := exa_v nx11
  have Ex11 := exa_at ex11 nx11
  have S11 := Sta.start ex11 (Or.inr ⟨(hw _ (List.mem_of_getElem? (i := 3) rfl)), (hw _ (List.mem_of_getElem? (i := 37) rfl))⟩)
  obtain ⟨x12, ex12⟩ := exa_v nx12
  have Ex12 := exa_at ex12 nx12
  have S12 := Sta.start ex12 (Or.inr ⟨(hw _ (List.mem_of_getElem? (i := 3) rfl)), (hw _ (List.mem_of_getElem? (i := 40) rfl))⟩)
  have F0 := own_fldeq ex0 nf0
  have F3 := own_fldeq ex3 nf1
  have F6 := own_fldeq ex6 nf2
  have F5 := own_fldeq ex5 nf3
  have F7 := own_fldeq ex7 nf4
  have F9 := own_fldeq ex9 nf5
  have F2 := own_fldeq ex2 nf6
  have F11 := own_fldeq ex11 nf7
  have F1 := own_fldeq ex1 nf8
  have F8 := own_fldeq ex8 nf9
  have F10 := own_fldeq ex10 nf10
  have F12 := own_fldeq ex12 nf11
  have F4 := own_fldeq ex4 nf12
  obtain ⟨n, o, h1, h2, h3, _, L, rfl, ⟨rfl, N⟩, hq⟩ := rm_law l s _ hw tables_1 i0 x0 x1 x2 x3 x4 x5 x6 x7 x8 x9 x10 x11 x12 s.heap s.heap.size (Nat.le_refl _) S0 S1 S2 S3 S4 S5 S6 S7 S8 S9 S10 S11 S12 Ex0 Ex1 Ex2 Ex3 Ex4 Ex5 Ex6 Ex7 Ex8 Ex9 Ex10 Ex11 Ex12 F0 F1 F2 F3 F4 F5 F6 F7 F8 F9 F10 F11 F12 p e ha hc hk s m _ below hf ((Spec.applies_iff_loose hf).mp happ).1 ⟨rfl, State.Warmed39.refl s, rfl⟩ trivial
  refine ⟨n, _, h1, h2, h3, hpost _ _ _ _ _ _ ⟨Cond.after_iff.mpr rfl, Cond.after_iff.mpr (eq_i res_at (Term.int_eval (1)) rfl), trivial⟩ ⟨hq.1, hq.2.1, (hq.2.2.sift fun y hy => Or.inr (N y hy)).mono (by decide) (by decide)⟩⟩
theorem main_1_1 : Claimed_1_1 := comes_1 fun _ _ _ _ _ _ h hF => ⟨h.1, hF⟩
theorem main_1_2 : Claimed_1_2 := comes_1 fun _ _ _ _ _ _ h hF => ⟨h.2.1, hF⟩
end Jvm.Pilot.@@N@@
namespace Jvm.Pilot.@@N@@
open Jvm Jvm.ClassFile Sem Op Lib Jvm.Free Jvm.Stand Jvm.Pilot.@@N@@.Jvm.D
/-! MADE BY PROGRAM (witnessworld.py) out of the Statement's table words and the real class files: 28 classes; the members and pool entries that the words name. The judged class is class 1, her method 1. -/
namespace start1
open Jvm.ClassFile
def u (s : String) : CpInfo := .utf8 (stringToUtf16 s)
/-- a pool by its gaps: so many unusable entries, then the entry; so many at the end -/
def gap : Nat → List CpInfo → List CpInfo
  | 0, r => r
  | n + 1, r => .unusable :: gap n r
def poolList (es : List (Nat × CpInfo)) (last : Nat) : List CpInfo := es.foldr (fun e r => gap e.1 (e.2 :: r)) (gap last [])
def pool (es : List (Nat × CpInfo)) (last : Nat) : Array CpInfo := ⟨poolList es last⟩
def fileOf (pool : Array CpInfo) (this : Nat) (attrs : Array Attribute := #[]) (ms : Array MethodInfo := #[]) (fl : Nat := 33) (sup : Nat := 0) (ifs : Array Nat := #[]) (fds : Array FieldInfo := #[]) : ClassFile where
  minorVersion := 0
  majorVersion := 65
  constantPool := pool
  accessFlags := fl
  thisClass := this
  superClass := sup
  interfaces := ifs
  fields := fds
  methods := ms
  attributes := attrs
def plain (name : String) (sup : Option ClassId) : Class where
  name := name
  kind := .ordinary
  loader := none
  accessFlags := 33
  super := sup
  interfaces := #[]
  cf := none
  fields := #[]
  methods := #[]
  instanceTypes := #[]
  staticTypes := #[]
  resolved := #[]
  callSites := []
  init := .initialized
  statics := none
  mirror := none

def pool0 : Array CpInfo := pool [(5, u "<init>"), (0, u "()V"), (1, .class_ 10), (1, u "java/lang/Object")] 113

def k0m0 : Method := { name := "<init>", desc := "()V", sig := { parameters := [], returnType := none }, accessFlags := 1, code := none }
/-- java/lang/Object -/
def k0 : Class := { plain "java/lang/Object" none with
  accessFlags := 33
  interfaces := #[]
  cf := some (fileOf pool0 8 #[] #[{ accessFlags := 1, nameIndex := 5, descriptorIndex := 6, attributes := #[] }] 33 0 #[] #[])
  fields := #[]
  methods := #[k0m0]
  instanceTypes := #[]
  staticTypes := #[]
  resolved := Array.replicate 124 none
  statics := none }

def pool1 : Array CpInfo := pool [(2, .class_ 4), (1, u "java/lang/Object"), (0, u "<init>"), (0, u "()V"), (0, .class_ 8), (0, u "com/example/precedence/precedence/xpath/Axis"), (0, .fieldref 7 10), (0, .nameAndType 11 12), (0, u "CHILD"), (0, u "Lcom/example/precedence/precedence/xpath/Axis;"), (0, .fieldref 7 14), (0, .nameAndType 15 12), (0, u "DESCENDANT"), (0, .fieldref 7 17), (0, .nameAndType 18 12), (0, u "PARENT"), (0, .fieldref 7 20), (0, .nameAndType 21 12), (0, u "ANCESTOR"), (0, .fieldref 7 23), (0, .nameAndType 24 12), (0, u "FOLLOWING_SIBLING"), (0, .fieldref 7 26), (0, .nameAndType 27 12), (0, u "PRECEDING_SIBLING"), (0, .fieldref 7 29), (0, .nameAndType 30 12), (0, u "FOLLOWING"), (0, .fieldref 7 32), (0, .nameAndType 33 12), (0, u "PRECEDING"), (0, .fieldref 7 35), (0, .nameAndType 36 12), (0, u "ATTRIBUTE"), (0, .fieldref 7 38), (0, .nameAndType 39 12), (0, u "NAMESPACE"), (0, .fieldref 7 41), (0, .nameAndType 42 12), (0, u "SELF"), (0, .fieldref 7 44), (0, .nameAndType 45 12), (0, u "DESCENDANT_OR_SELF"), (0, .fieldref 7 47), (0, .nameAndType 48 12), (0, u "ANCESTOR_OR_SELF"), (0, .integer 2147483647), (0, .methodref 7 51), (0, .nameAndType 52 53), (0, u "overlaps"), (0, u "()Z"), (0, .methodref 7 55), (0, .nameAndType 56 53), (0, u "reverse"), (0, .class_ 58), (0, u "com/example/precedence/precedence/xpath/AxisOverlapsPinLaw"), (2, u "law"), (0, u "(I)Z")] 7

def k1m0 : Method := { name := "<init>", desc := "()V", sig := { parameters := [], returnType := none }, accessFlags := 1, code := none }
def k1c1 : Code := { maxStack := 4, maxLocals := 6, code := code, exceptionTable := #[], attributes := #[] }
def k1m1 : Method := { name := "law", desc := "(I)Z", sig := { parameters := [.int], returnType := some .boolean }, accessFlags := 9, code := some k1c1 }
/-- com/example/precedence/precedence/xpath/AxisOverlapsPinLaw -/
def k1 : Class := { plain "com/example/precedence/precedence/xpath/AxisOverlapsPinLaw" (some 0) with
  accessFlags := 49
  interfaces := #[]
  cf := some (fileOf pool1 57 #[] #[{ accessFlags := 1, nameIndex := 5, descriptorIndex := 6, attributes := #[] }, { accessFlags := 9, nameIndex := 61, descriptorIndex := 62, attributes := #[] }] 49 2 #[] #[])
  fields := #[]
  methods := #[k1m0, k1m1]
  instanceTypes := #[]
  staticTypes := #[]
  resolved := Array.replicate 70 none
  statics := none }

def pool2 : Array CpInfo := pool [(1, .class_ 2), (0, u "java/lang/constant/Constable"), (0, .class_ 4), (0, u "java/lang/Object")] 6

/-- java/lang/constant/Constable -/
def k2 : Class := { plain "java/lang/constant/Constable" (some 0) with
  accessFlags := 1537
  interfaces := #[]
  cf := some (fileOf pool2 1 #[] #[] 1537 3 #[] #[])
  fields := #[]
  methods := #[]
  instanceTypes := #[]
  staticTypes := #[]
  resolved := Array.replicate 11 none
  statics := none }

def pool3 : Array CpInfo := pool [(1, .class_ 2), (0, u "java/lang/Comparable"), (0, .class_ 4), (0, u "java/lang/Object")] 7

/-- java/lang/Comparable -/
def k3 : Class := { plain "java/lang/Comparable" (some 0) with
  accessFlags := 1537
  interfaces := #[]
  cf := some (fileOf pool3 1 #[] #[] 1537 3 #[] #[])
  fields := #[]
  methods := #[]
  instanceTypes := #[]
  staticTypes := #[]
  resolved := Array.replicate 12 none
  statics := none }

def pool4 : Array CpInfo := pool [(1, .class_ 2), (0, u "java/io/Serializable"), (0, .class_ 4), (0, u "java/lang/Object")] 2

/-- java/io/Serializable -/
def k4 : Class := { plain "java/io/Serializable" (some 0) with
  accessFlags := 1537
  interfaces := #[]
  cf := some (fileOf pool4 1 #[] #[] 1537 3 #[] #[])
  fields := #[]
  methods := #[]
  instanceTypes := #[]
  staticTypes := #[]
  resolved := Array.replicate 7 none
  statics := none }

def pool5 : Array CpInfo := pool [(2, .class_ 4), (1, u "java/lang/Enum"), (0, u "name"), (0, u "Ljava/lang/String;"), (2, u "ordinal"), (0, u "I"), (1, .class_ 14), (1, u "java/lang/Object"), (4, u "hash"), (86, .class_ 108), (1, u "java/lang/Enum$EnumDesc"), (2, .class_ 112), (0, u "java/lang/constant/Constable"), (0, .class_ 114), (0, u "java/lang/Comparable"), (0, .class_ 116), (0, u "java/io/Serializable")] 87

/-- java/lang/Enum -/
def k5 : Class := { plain "java/lang/Enum" (some 0) with
  accessFlags := 1057
  interfaces := #[2, 3, 4]
  cf := some (fileOf pool5 2 #[.nestMembers #[106]] #[] 1057 12 #[111, 113, 115] #[{ accessFlags := 18, nameIndex := 5, descriptorIndex := 6, attributes := #[] }, { accessFlags := 18, nameIndex := 9, descriptorIndex := 10, attributes := #[] }, { accessFlags := 2, nameIndex := 19, descriptorIndex := 10, attributes := #[] }])
  fields := #[{ name := "name", type := (.object "java/lang/String"), accessFlags := 18, slot := 0, constantValue := 0 }, { name := "ordinal", type := .int, accessFlags := 18, slot := 1, constantValue := 0 }, { name := "hash", type := .int, accessFlags := 2, slot := 2, constantValue := 0 }]
  methods := #[]
  instanceTypes := #[(.object "java/lang/String"), .int, .int]
  staticTypes := #[]
  resolved := Array.replicate 204 none
  statics := none }

def pool6 : Array CpInfo := pool [(1, .class_ 2), (0, u "com/example/precedence/precedence/xpath/Axis"), (0, .fieldref 1 4), (0, .nameAndType 5 6), (0, u "CHILD"), (0, u "Lcom/example/precedence/precedence/xpath/Axis;"), (2, u "DESCENDANT"), (2, u "PARENT"), (2, u "ANCESTOR"), (2, u "FOLLOWING_SIBLING"), (2, u "PRECEDING_SIBLING"), (2, u "FOLLOWING"), (2, u "PRECEDING"), (0, .fieldref 1 29), (0, .nameAndType 30 6), (0, u "ATTRIBUTE"), (0, .fieldref 1 32), (0, .nameAndType 33 6), (0, u "NAMESPACE"), (0, .fieldref 1 35), (0, .nameAndType 36 6), (0, u "SELF"), (2, u "DESCENDANT_OR_SELF"), (2, u "ANCESTOR_OR_SELF"), (2, u "$VALUES"), (0, u "[Lcom/example/precedence/precedence/xpath/Axis;"), (6, .class_ 55), (1, u "java/lang/Enum"), (8, u "axisName"), (0, u "Ljava/lang/String;"), (2, u "principal"), (0, u "Lcom/example/precedence/precedence/tree/Node$Kind;"), (0, .fieldref 1 71), (0, .nameAndType 72 73), (0, u "reverse"), (0, u "Z"), (20, .class_ 95), (0, u "com/example/precedence/precedence/xpath/Axis$14"), (46, u "()Z"), (14, .class_ 158), (0, u "com/example/precedence/precedence/xpath/Axis$1"), (9, .class_ 169), (0, u "com/example/precedence/precedence/xpath/Axis$2"), (4, .class_ 175), (0, u "com/example/precedence/precedence/xpath/Axis$3"), (3, .class_ 180), (0, u "com/example/precedence/precedence/xpath/Axis$4"), (4, .class_ 186), (0, u "com/example/precedence/precedence/xpath/Axis$5"), (4, .class_ 192), (0, u "com/example/precedence/precedence/xpath/Axis$6"), (4, .class_ 198), (0, u "com/example/precedence/precedence/xpath/Axis$7"), (4, .class_ 204), (0, u "com/example/precedence/precedence/xpath/Axis$8"), (4, .class_ 210), (0, u "com/example/precedence/precedence/xpath/Axis$9"), (4, .class_ 216), (0, u "com/example/precedence/precedence/xpath/Axis$10"), (4, .class_ 222), (0, u "com/example/precedence/precedence/xpath/Axis$11"), (4, .class_ 228), (0, u "com/example/precedence/precedence/xpath/Axis$12"), (4, .class_ 234), (0, u "com/example/precedence/precedence/xpath/Axis$13"), (15, u "overlaps"), (23, .class_ 275), (0, u "com/example/precedence/precedence/xpath/Axis$Backwards")] 21

def k6c0 : Code := { maxStack := 1, maxLocals := 1, code := prog_72_method_6_code, exceptionTable := #[], attributes := #[] }
def k6m0 : Method := { name := "reverse", desc := "()Z", sig := { parameters := [], returnType := some .boolean }, accessFlags := 1, code := some k6c0 }
def k6c1 : Code := { maxStack := 2, maxLocals := 1, code := prog_72_method_7_code, exceptionTable := #[], attributes := #[] }
def k6m1 : Method := { name := "overlaps", desc := "()Z", sig := { parameters := [], returnType := some .boolean }, accessFlags := 0, code := some k6c1 }
/-- com/example/precedence/precedence/xpath/Axis -/
def k6 : Class := { plain "com/example/precedence/precedence/xpath/Axis" (some 5) with
  accessFlags := 16417
  interfaces := #[]
  cf := some (fileOf pool6 1 #[.nestMembers #[274, 94, 233, 227, 221, 215, 209, 203, 197, 191, 185, 179, 174, 168, 157]] #[{ accessFlags := 1, nameIndex := 72, descriptorIndex := 142, attributes := #[] }, { accessFlags := 0, nameIndex := 250, descriptorIndex := 142, attributes := #[] }] 16417 53 #[] #[{ accessFlags := 16409, nameIndex := 5, descriptorIndex := 6, attributes := #[] }, { accessFlags := 16409, nameIndex := 9, descriptorIndex := 6, attributes := #[] }, { accessFlags := 16409, nameIndex := 12, descriptorIndex := 6, attributes := #[] }, { accessFlags := 16409, nameIndex := 15, descriptorIndex := 6, attributes := #[] }, { accessFlags := 16409, nameIndex := 18, descriptorIndex := 6, attributes := #[] }, { accessFlags := 16409, nameIndex := 21, descriptorIndex := 6, attributes := #[] }, { accessFlags := 16409, nameIndex := 24, descriptorIndex := 6, attributes := #[] }, { accessFlags := 16409, nameIndex := 27, descriptorIndex := 6, attributes := #[] }, { accessFlags := 16409, nameIndex := 30, descriptorIndex := 6, attributes := #[] }, { accessFlags := 16409, nameIndex := 33, descriptorIndex := 6, attributes := #[] }, { accessFlags := 16409, nameIndex := 36, descriptorIndex := 6, attributes := #[] }, { accessFlags := 16409, nameIndex := 39, descriptorIndex := 6, attributes := #[] }, { accessFlags := 16409, nameIndex := 42, descriptorIndex := 6, attributes := #[] }, { accessFlags := 18, nameIndex := 64, descriptorIndex := 65, attributes := #[] }, { accessFlags := 18, nameIndex := 68, descriptorIndex := 69, attributes := #[] }, { accessFlags := 18, nameIndex := 72, descriptorIndex := 73, attributes := #[] }, { accessFlags := 4122, nameIndex := 45, descriptorIndex := 46, attributes := #[] }])
  fields := #[{ name := "CHILD", type := (.object "com/example/precedence/precedence/xpath/Axis"), accessFlags := 16409, slot := 0, constantValue := 0 }, { name := "DESCENDANT", type := (.object "com/example/precedence/precedence/xpath/Axis"), accessFlags := 16409, slot := 1, constantValue := 0 }, { name := "PARENT", type := (.object "com/example/precedence/precedence/xpath/Axis"), accessFlags := 16409, slot := 2, constantValue := 0 }, { name := "ANCESTOR", type := (.object "com/example/precedence/precedence/xpath/Axis"), accessFlags := 16409, slot := 3, constantValue := 0 }, { name := "FOLLOWING_SIBLING", type := (.object "com/example/precedence/precedence/xpath/Axis"), accessFlags := 16409, slot := 4, constantValue := 0 }, { name := "PRECEDING_SIBLING", type := (.object "com/example/precedence/precedence/xpath/Axis"), accessFlags := 16409, slot := 5, constantValue := 0 }, { name := "FOLLOWING", type := (.object "com/example/precedence/precedence/xpath/Axis"), accessFlags := 16409, slot := 6, constantValue := 0 }, { name := "PRECEDING", type := (.object "com/example/precedence/precedence/xpath/Axis"), accessFlags := 16409, slot := 7, constantValue := 0 }, { name := "ATTRIBUTE", type := (.object "com/example/precedence/precedence/xpath/Axis"), accessFlags := 16409, slot := 8, constantValue := 0 }, { name := "NAMESPACE", type := (.object "com/example/precedence/precedence/xpath/Axis"), accessFlags := 16409, slot := 9, constantValue := 0 }, { name := "SELF", type := (.object "com/example/precedence/precedence/xpath/Axis"), accessFlags := 16409, slot := 10, constantValue := 0 }, { name := "DESCENDANT_OR_SELF", type := (.object "com/example/precedence/precedence/xpath/Axis"), accessFlags := 16409, slot := 11, constantValue := 0 }, { name := "ANCESTOR_OR_SELF", type := (.object "com/example/precedence/precedence/xpath/Axis"), accessFlags := 16409, slot := 12, constantValue := 0 }, { name := "axisName", type := (.object "java/lang/String"), accessFlags := 18, slot := 3, constantValue := 0 }, { name := "principal", type := (.object "com/example/precedence/precedence/tree/Node$Kind"), accessFlags := 18, slot := 4, constantValue := 0 }, { name := "reverse", type := .boolean, accessFlags := 18, slot := 5, constantValue := 0 }, { name := "$VALUES", type := (.array (.object "com/example/precedence/precedence/xpath/Axis")), accessFlags := 4122, slot := 13, constantValue := 0 }]
  methods := #[k6m0, k6m1]
  instanceTypes := #[(.object "java/lang/String"), .int, .int, (.object "java/lang/String"), (.object "com/example/precedence/precedence/tree/Node$Kind"), .boolean]
  staticTypes := #[(.object "com/example/precedence/precedence/xpath/Axis"), (.object "com/example/precedence/precedence/xpath/Axis"), (.object "com/example/precedence/precedence/xpath/Axis"), (.object "com/example/precedence/precedence/xpath/Axis"), (.object "com/example/precedence/precedence/xpath/Axis"), (.object "com/example/precedence/precedence/xpath/Axis"), (.object "com/example/precedence/precedence/xpath/Axis"), (.object "com/example/precedence/precedence/xpath/Axis"), (.object "com/example/precedence/precedence/xpath/Axis"), (.object "com/example/precedence/precedence/xpath/Axis"), (.object "com/example/precedence/precedence/xpath/Axis"), (.object "com/example/precedence/precedence/xpath/Axis"), (.object "com/example/precedence/precedence/xpath/Axis"), (.array (.object "com/example/precedence/precedence/xpath/Axis"))]
  resolved := Array.replicate 297 none
  statics := some 0 }

def pool7 : Array CpInfo := pool [(2, .class_ 4), (1, u "com/example/precedence/precedence/xpath/Axis"), (8, .class_ 14), (0, u "com/example/precedence/precedence/xpath/Axis$1")] 15

/-- com/example/precedence/precedence/xpath/Axis$1 -/
def k7 : Class := { plain "com/example/precedence/precedence/xpath/Axis$1" (some 6) with
  accessFlags := 16432
  interfaces := #[]
  cf := some (fileOf pool7 13 #[.nestHost 2] #[] 16432 2 #[] #[])
  fields := #[]
  methods := #[]
  instanceTypes := #[(.object "java/lang/String"), .int, .int, (.object "java/lang/String"), (.object "com/example/precedence/precedence/tree/Node$Kind"), .boolean]
  staticTypes := #[]
  resolved := Array.replicate 30 none
  statics := none }

def pool8 : Array CpInfo := pool [(2, .class_ 4), (1, u "com/example/precedence/precedence/xpath/Axis"), (14, .class_ 20), (0, u "com/example/precedence/precedence/xpath/Axis$2")] 13

/-- com/example/precedence/precedence/xpath/Axis$2 -/
def k8 : Class := { plain "com/example/precedence/precedence/xpath/Axis$2" (some 6) with
  accessFlags := 16432
  interfaces := #[]
  cf := some (fileOf pool8 19 #[.nestHost 2] #[] 16432 2 #[] #[])
  fields := #[]
  methods := #[]
  instanceTypes := #[(.object "java/lang/String"), .int, .int, (.object "java/lang/String"), (.object "com/example/precedence/precedence/tree/Node$Kind"), .boolean]
  staticTypes := #[]
  resolved := Array.replicate 34 none
  statics := none }

def pool9 : Array CpInfo := pool [(2, .class_ 4), (1, u "com/example/precedence/precedence/xpath/Axis"), (14, .class_ 20), (0, u "com/example/precedence/precedence/xpath/Axis$3")] 12

/-- com/example/precedence/precedence/xpath/Axis$3 -/
def k9 : Class := { plain "com/example/precedence/precedence/xpath/Axis$3" (some 6) with
  accessFlags := 16432
  interfaces := #[]
  cf := some (fileOf pool9 19 #[.nestHost 2] #[] 16432 2 #[] #[])
  fields := #[]
  methods := #[]
  instanceTypes := #[(.object "java/lang/String"), .int, .int, (.object "java/lang/String"), (.object "com/example/precedence/precedence/tree/Node$Kind"), .boolean]
  staticTypes := #[]
  resolved := Array.replicate 33 none
  statics := none }

def pool10 : Array CpInfo := pool [(2, .class_ 4), (1, u "com/example/precedence/precedence/xpath/Axis"), (12, .class_ 18), (0, u "com/example/precedence/precedence/xpath/Axis$4")] 12

/-- com/example/precedence/precedence/xpath/Axis$4 -/
def k10 : Class := { plain "com/example/precedence/precedence/xpath/Axis$4" (some 6) with
  accessFlags := 16432
  interfaces := #[]
  cf := some (fileOf pool10 17 #[.nestHost 2] #[] 16432 2 #[] #[])
  fields := #[]
  methods := #[]
  instanceTypes := #[(.object "java/lang/String"), .int, .int, (.object "java/lang/String"), (.object "com/example/precedence/precedence/tree/Node$Kind"), .boolean]
  staticTypes := #[]
  resolved := Array.replicate 31 none
  statics := none }

def pool11 : Array CpInfo := pool [(2, .class_ 4), (1, u "com/example/precedence/precedence/xpath/Axis"), (26, .class_ 32), (0, u "com/example/precedence/precedence/xpath/Axis$5")] 15

/-- com/example/precedence/precedence/xpath/Axis$5 -/
def k11 : Class := { plain "com/example/precedence/precedence/xpath/Axis$5" (some 6) with
  accessFlags := 16432
  interfaces := #[]
  cf := some (fileOf pool11 31 #[.nestHost 2] #[] 16432 2 #[] #[])
  fields := #[]
  methods := #[]
  instanceTypes := #[(.object "java/lang/String"), .int, .int, (.object "java/lang/String"), (.object "com/example/precedence/precedence/tree/Node$Kind"), .boolean]
  staticTypes := #[]
  resolved := Array.replicate 48 none
  statics := none }

def pool12 : Array CpInfo := pool [(2, .class_ 4), (1, u "com/example/precedence/precedence/xpath/Axis"), (26, .class_ 32), (0, u "com/example/precedence/precedence/xpath/Axis$6")] 15

/-- com/example/precedence/precedence/xpath/Axis$6 -/
def k12 : Class := { plain "com/example/precedence/precedence/xpath/Axis$6" (some 6) with
  accessFlags := 16432
  interfaces := #[]
  cf := some (fileOf pool12 31 #[.nestHost 2] #[] 16432 2 #[] #[])
  fields := #[]
  methods := #[]
  instanceTypes := #[(.object "java/lang/String"), .int, .int, (.object "java/lang/String"), (.object "com/example/precedence/precedence/tree/Node$Kind"), .boolean]
  staticTypes := #[]
  resolved := Array.replicate 48 none
  statics := none }

def pool13 : Array CpInfo := pool [(2, .class_ 4), (1, u "com/example/precedence/precedence/xpath/Axis"), (11, .class_ 18), (1, u "com/example/precedence/precedence/xpath/Axis$7")] 69

/-- com/example/precedence/precedence/xpath/Axis$7 -/
def k13 : Class := { plain "com/example/precedence/precedence/xpath/Axis$7" (some 6) with
  accessFlags := 16432
  interfaces := #[]
  cf := some (fileOf pool13 16 #[.nestHost 2] #[] 16432 2 #[] #[])
  fields := #[]
  methods := #[]
  instanceTypes := #[(.object "java/lang/String"), .int, .int, (.object "java/lang/String"), (.object "com/example/precedence/precedence/tree/Node$Kind"), .boolean]
  staticTypes := #[]
  resolved := Array.replicate 88 none
  statics := none }

def pool14 : Array CpInfo := pool [(2, .class_ 4), (1, u "com/example/precedence/precedence/xpath/Axis"), (11, .class_ 18), (1, u "com/example/precedence/precedence/xpath/Axis$8")] 62

/-- com/example/precedence/precedence/xpath/Axis$8 -/
def k14 : Class := { plain "com/example/precedence/precedence/xpath/Axis$8" (some 6) with
  accessFlags := 16432
  interfaces := #[]
  cf := some (fileOf pool14 16 #[.nestHost 2] #[] 16432 2 #[] #[])
  fields := #[]
  methods := #[]
  instanceTypes := #[(.object "java/lang/String"), .int, .int, (.object "java/lang/String"), (.object "com/example/precedence/precedence/tree/Node$Kind"), .boolean]
  staticTypes := #[]
  resolved := Array.replicate 81 none
  statics := none }

def pool15 : Array CpInfo := pool [(2, .class_ 4), (1, u "com/example/precedence/precedence/xpath/Axis"), (8, .class_ 14), (0, u "com/example/precedence/precedence/xpath/Axis$9")] 15

/-- com/example/precedence/precedence/xpath/Axis$9 -/
def k15 : Class := { plain "com/example/precedence/precedence/xpath/Axis$9" (some 6) with
  accessFlags := 16432
  interfaces := #[]
  cf := some (fileOf pool15 13 #[.nestHost 2] #[] 16432 2 #[] #[])
  fields := #[]
  methods := #[]
  instanceTypes := #[(.object "java/lang/String"), .int, .int, (.object "java/lang/String"), (.object "com/example/precedence/precedence/tree/Node$Kind"), .boolean]
  staticTypes := #[]
  resolved := Array.replicate 30 none
  statics := none }

def pool16 : Array CpInfo := pool [(2, .class_ 4), (1, u "com/example/precedence/precedence/xpath/Axis"), (8, .class_ 14), (0, u "com/example/precedence/precedence/xpath/Axis$10")] 15

/-- com/example/precedence/precedence/xpath/Axis$10 -/
def k16 : Class := { plain "com/example/precedence/precedence/xpath/Axis$10" (some 6) with
  accessFlags := 16432
  interfaces := #[]
  cf := some (fileOf pool16 13 #[.nestHost 2] #[] 16432 2 #[] #[])
  fields := #[]
  methods := #[]
  instanceTypes := #[(.object "java/lang/String"), .int, .int, (.object "java/lang/String"), (.object "com/example/precedence/precedence/tree/Node$Kind"), .boolean]
  staticTypes := #[]
  resolved := Array.replicate 30 none
  statics := none }

def pool17 : Array CpInfo := pool [(2, .class_ 4), (1, u "com/example/precedence/precedence/xpath/Axis"), (8, .class_ 14), (0, u "com/example/precedence/precedence/xpath/Axis$11")] 14

/-- com/example/precedence/precedence/xpath/Axis$11 -/
def k17 : Class := { plain "com/example/precedence/precedence/xpath/Axis$11" (some 6) with
  accessFlags := 16432
  interfaces := #[]
  cf := some (fileOf pool17 13 #[.nestHost 2] #[] 16432 2 #[] #[])
  fields := #[]
  methods := #[]
  instanceTypes := #[(.object "java/lang/String"), .int, .int, (.object "java/lang/String"), (.object "com/example/precedence/precedence/tree/Node$Kind"), .boolean]
  staticTypes := #[]
  resolved := Array.replicate 29 none
  statics := none }

def pool18 : Array CpInfo := pool [(2, .class_ 4), (1, u "com/example/precedence/precedence/xpath/Axis"), (3, .class_ 10), (1, u "com/example/precedence/precedence/xpath/Axis$12")] 34

/-- com/example/precedence/precedence/xpath/Axis$12 -/
def k18 : Class := { plain "com/example/precedence/precedence/xpath/Axis$12" (some 6) with
  accessFlags := 16432
  interfaces := #[]
  cf := some (fileOf pool18 8 #[.nestHost 2] #[] 16432 2 #[] #[])
  fields := #[]
  methods := #[]
  instanceTypes := #[(.object "java/lang/String"), .int, .int, (.object "java/lang/String"), (.object "com/example/precedence/precedence/tree/Node$Kind"), .boolean]
  staticTypes := #[]
  resolved := Array.replicate 45 none
  statics := none }

def pool19 : Array CpInfo := pool [(2, .class_ 4), (1, u "com/example/precedence/precedence/xpath/Axis"), (6, .class_ 12), (0, u "com/example/precedence/precedence/xpath/Axis$13")] 14

/-- com/example/precedence/precedence/xpath/Axis$13 -/
def k19 : Class := { plain "com/example/precedence/precedence/xpath/Axis$13" (some 6) with
  accessFlags := 16432
  interfaces := #[]
  cf := some (fileOf pool19 11 #[.nestHost 2] #[] 16432 2 #[] #[])
  fields := #[]
  methods := #[]
  instanceTypes := #[(.object "java/lang/String"), .int, .int, (.object "java/lang/String"), (.object "com/example/precedence/precedence/tree/Node$Kind"), .boolean]
  staticTypes := #[]
  resolved := Array.replicate 27 none
  statics := none }

def pool20 : Array CpInfo := pool [(1, u "java/lang/Cloneable"), (0, .class_ 1), (0, u "java/lang/Object"), (0, .class_ 3)] 3

/-- java/lang/Cloneable -/
def k20 : Class := { plain "java/lang/Cloneable" (some 0) with
  accessFlags := 1537
  interfaces := #[]
  cf := some (fileOf pool20 2 #[] #[] 1537 4 #[] #[])
  fields := #[]
  methods := #[]
  instanceTypes := #[]
  staticTypes := #[]
  resolved := Array.replicate 8 none
  statics := none }

/-- the primitive boolean -/
def k21 : Class := { plain "boolean" none with kind := .primitive 'Z', accessFlags := 0x411 }
/-- [Z -/
def k22 : Class := { plain "[Z" (some 0) with kind := .array 21 .boolean, interfaces := #[20, 4], accessFlags := 1041 }

/-- the primitive byte -/
def k23 : Class := { plain "byte" none with kind := .primitive 'B', accessFlags := 0x411 }
/-- [B -/
def k24 : Class := { plain "[B" (some 0) with kind := .array 23 .byte, interfaces := #[20, 4], accessFlags := 1041 }

/-- the primitive int -/
def k25 : Class := { plain "int" none with kind := .primitive 'I', accessFlags := 0x411 }
/-- [I -/
def k26 : Class := { plain "[I" (some 0) with kind := .array 25 .int, interfaces := #[20, 4], accessFlags := 1041 }

/-- [Lcom/example/precedence/precedence/xpath/Axis; -/
def k27 : Class := { plain "[Lcom/example/precedence/precedence/xpath/Axis;" (some 0) with kind := .array 6 (.object "com/example/precedence/precedence/xpath/Axis"), interfaces := #[20, 4], accessFlags := 1041 }

def heap : Heap := #[{ cls := 6, slots := #[.ref 1, .ref 2, .ref 3, .ref 4, .ref 5, .ref 6, .ref 7, .ref 8, .ref 9, .ref 10, .ref 11, .ref 12, .ref 13, .null], vm := .statics 6 },
  { cls := 7, slots := #[.null, .int 0, .int 0, .null, .null, .int 0], vm := .none },
  { cls := 8, slots := #[.null, .int 1, .int 0, .null, .null, .int 0], vm := .none },
  { cls := 9, slots := #[.null, .int 2, .int 0, .null, .null, .int 0], vm := .none },
  { cls := 10, slots := #[.null, .int 3, .int 0, .null, .null, .int 1], vm := .none },
  { cls := 11, slots := #[.null, .int 4, .int 0, .null, .null, .int 0], vm := .none },
  { cls := 12, slots := #[.null, .int 5, .int 0, .null, .null, .int 1], vm := .none },
  { cls := 13, slots := #[.null, .int 6, .int 0, .null, .null, .int 0], vm := .none },
  { cls := 14, slots := #[.null, .int 7, .int 0, .null, .null, .int 1], vm := .none },
  { cls := 15, slots := #[.null, .int 8, .int 0, .null, .null, .int 0], vm := .none },
  { cls := 16, slots := #[.null, .int 9, .int 0, .null, .null, .int 0], vm := .none },
  { cls := 17, slots := #[.null, .int 10, .int 0, .null, .null, .int 0], vm := .none },
  { cls := 18, slots := #[.null, .int 11, .int 0, .null, .null, .int 0], vm := .none },
  { cls := 19, slots := #[.null, .int 12, .int 0, .null, .null, .int 1], vm := .none }]
def classes : Array Class := #[k0, k1, k2, k3, k4, k5, k6, k7, k8, k9, k10, k11, k12, k13, k14, k15, k16, k17, k18, k19, k20, k21, k22, k23, k24, k25, k26, k27]
def interned : List (Array UInt16 × Addr) := []
def slotsUsed : Nat := 92
def theMethod : MethodId := ⟨1, 1⟩
def args0 : Array Value := #[.int 5]
def aboutOver (below : List Frame) : State where
  vm := { classes := classes, interned := interned.toArray }
  heap := heap
  slotsUsed := slotsUsed
  threads := #[{ frames := .invoking theMethod args0 :: below }]
def below0 : List Frame := [.native { method := ⟨0, 0⟩, args := #[] }]
def about1 : State := aboutOver below0
def p0 : Program := .bare "" "" ""
def e0 : Env := launch0.env 0 0 0
theorem w_frames : about1.frames = Frame.invoking theMethod args0 :: below0 := rfl
set_option maxRecDepth 65536 in
theorem w_args : argsFit about1.vm theMethod args0 = true := by decide +kernel
set_option maxRecDepth 65536 in
theorem w_heap : heapFits about1 = true := by decide +kernel
set_option maxRecDepth 65536 in
theorem w_runnable : about1.curStatus? = some .runnable := by decide +kernel
set_option maxRecDepth 65536 in
theorem w_alone : about1.alone = true := by decide +kernel
set_option maxRecDepth 65536 in
theorem w_named : about1.methodNamed? x = some theMethod := by decide +kernel
set_option maxRecDepth 65536 in
theorem w_hears : about1.hears theMethod below0 = true := by decide +kernel
set_option maxRecDepth 65536 in
theorem w_ripe : about1.ripe theMethod args0 below0 = true := by decide +kernel
theorem w_running : about1.status = .running := rfl
set_option maxRecDepth 65536 in
theorem w_room : about1.hasRoom e0.platform room_1 = true :=
  launch0.hasRoom_least _ room_1 (by decide +kernel) (by decide +kernel) (by decide +kernel) (by decide +kernel) (by decide +kernel) (by decide +kernel)
theorem allAtoms_all (ts : List Jvm.Cond) (a : Array Jvm.Value) (st : Jvm.State) : (allAtoms ts).before a st = ts.all (fun c => c.before a st) := by
  induction ts with
  | nil => rfl
  | cons c t ih =>
    show (Jvm.Cond.and c (allAtoms t)).before a st = _
    rw [Jvm.Cond.before_and, ih, List.all_cons]
def words1 : List Jvm.Cond := Jvm.Cond.code x code maxLocals ret :: tables_1
/-- a 'code' word, met by the world's own term for the bytes: nothing is compared byte by byte -/
theorem code_word {y : MethodName} {bytes : ByteArray} {mx : Nat} {rt : Option FieldType} {a : Array Value} {s : State} {m : MethodId} {meth : Method} {c : Code} (h1 : s.methodNamed? y = some m) (h2 : s.vm.method? m = some meth) (h3 : meth.code = some c) (h4 : c.code = bytes)
    (h5 : (c.maxLocals == mx && c.exceptionTable.isEmpty && decide (c.maxStack ≤ mostOperands) && decide (meth.sig.returnType = rt) && !meth.locks && decide (parseMethodDescriptor y.desc = some meth.sig)) = true) : (Jvm.Cond.code y bytes mx rt).before a s = true := by
  simp only [Bool.and_eq_true, beq_iff_eq, Bool.not_eq_true', decide_eq_true_eq] at h5
  obtain ⟨⟨⟨⟨⟨g1, g2⟩, g3⟩, g4⟩, g5⟩, g6⟩ := h5
  simp [Cond.before, Cond.holds, Cond.value, h1, h2, h3, h4, g1, g2, g3, g4, g5, g6]
def isCode : Jvm.Cond → Bool
  | .code _ _ _ _ => true
  | _ => false
theorem all_split {L : List Jvm.Cond} {P : Jvm.Cond → Bool} (h1 : L.all (fun c => isCode c || P c) = true) (h2 : ∀ c ∈ L.filter isCode, P c = true) : L.all P = true := by
  refine List.all_eq_true.mpr fun c hc => ?_
  have h := List.all_eq_true.mp h1 c hc
  rcases Bool.eq_false_or_eq_true (isCode c) with hi | hi
  · exact h2 c (List.mem_filter.mpr ⟨hc, hi⟩)
  · simpa [hi] using h
set_option maxRecDepth 65536 in
theorem w_c0 : (Jvm.Cond.code x code maxLocals ret).before args0 about1 = true := code_word (m := ⟨1, 1⟩) (meth := k1m1) (c := k1c1) (by decide +kernel) rfl rfl rfl (by decide +kernel)
set_option maxRecDepth 65536 in
theorem w_c1 : (Jvm.Cond.code ({ cls := "com/example/precedence/precedence/xpath/Axis", name := "overlaps", desc := "()Z" } : Jvm.MethodName) prog_72_method_7_code (1 : Nat) (Option.some Jvm.ClassFile.FieldType.boolean)).before args0 about1 = true := code_word (m := ⟨6, 1⟩) (meth := k6m1) (c := k6c1) (by decide +kernel) rfl rfl rfl (by decide +kernel)
set_option maxRecDepth 65536 in
theorem w_c2 : (Jvm.Cond.code ({ cls := "com/example/precedence/precedence/xpath/Axis", name := "reverse", desc := "()Z" } : Jvm.MethodName) prog_72_method_6_code (1 : Nat) (Option.some Jvm.ClassFile.FieldType.boolean)).before args0 about1 = true := code_word (m := ⟨6, 0⟩) (meth := k6m0) (c := k6c0) (by decide +kernel) rfl rfl rfl (by decide +kernel)
def codes1 : List Jvm.Cond := [Jvm.Cond.code x code maxLocals ret, Jvm.Cond.code ({ cls := "com/example/precedence/precedence/xpath/Axis", name := "overlaps", desc := "()Z" } : Jvm.MethodName) prog_72_method_7_code (1 : Nat) (Option.some Jvm.ClassFile.FieldType.boolean), Jvm.Cond.code ({ cls := "com/example/precedence/precedence/xpath/Axis", name := "reverse", desc := "()Z" } : Jvm.MethodName) prog_72_method_6_code (1 : Nat) (Option.some Jvm.ClassFile.FieldType.boolean)]
set_option maxRecDepth 65536 in
theorem codes_eq : words1.filter isCode = codes1 := rfl
theorem w_codes : ∀ c ∈ words1.filter isCode, c.before args0 about1 = true := by
  rw [codes_eq]
  intro c hc
  simp only [codes1, List.mem_cons, List.not_mem_nil, or_false] at hc
  rcases hc with rfl | rfl | rfl
  · exact w_c0
  · exact w_c1
  · exact w_c2
set_option maxRecDepth 65536 in
theorem w_t1 : (words1.take 24).all (fun c => isCode c || c.before args0 about1) = true := by decide +kernel
set_option maxRecDepth 65536 in
theorem w_t2 : ((words1.drop 24).take 24).all (fun c => isCode c || c.before args0 about1) = true := by decide +kernel
set_option maxRecDepth 65536 in
theorem w_t3 : (((words1.drop 24).drop 24).take 24).all (fun c => isCode c || c.before args0 about1) = true := by decide +kernel
set_option maxRecDepth 65536 in
theorem w_t4 : ((((words1.drop 24).drop 24).drop 24).take 24).all (fun c => isCode c || c.before args0 about1) = true := by decide +kernel
set_option maxRecDepth 65536 in
theorem w_t5 : ((((words1.drop 24).drop 24).drop 24).drop 24).all (fun c => isCode c || c.before args0 about1) = true := by decide +kernel
theorem w_tables : (allAtoms (Jvm.Cond.code x code maxLocals ret :: tables_1)).before args0 about1 = true := by
  rw [allAtoms_all]
  show words1.all (fun c => c.before args0 about1) = true
  refine all_split ?_ w_codes
  rw [← List.take_append_drop 24 words1, List.all_append, w_t1, ← List.take_append_drop 24 (words1.drop 24), List.all_append, w_t2, ← List.take_append_drop 24 ((words1.drop 24).drop 24), List.all_append, w_t3, ← List.take_append_drop 24 (((words1.drop 24).drop 24).drop 24), List.all_append, w_t4, w_t5]
  rfl
set_option maxRecDepth 65536 in
theorem w_case : (Jvm.Cond.and given_1 narrow_1).before args0 about1 = true := by decide +kernel
theorem w_applies : (headSpec (Jvm.Cond.code x code maxLocals ret :: tables_1) room_1).applies x e0.platform about1 = true :=
  (Spec.applies_iff w_frames).mpr ⟨w_running, w_runnable, w_alone, w_named, w_hears, w_ripe, w_room, w_tables⟩
theorem atStart : AtStart classFile x code maxLocals ret World_1 tables_1 room_1 Calls_1 rest_1 Pre_1 launch0 p0 e0 about1 theMethod args0 below0 :=
  ⟨lists_1, trivial, launch0.admits_env _ _ _, launch0.least_env, fairChoices_fair.cas, fairChoices_fair.clock, w_frames, w_args, w_heap, w_applies, trivial, trivial, w_case⟩
end start1
theorem witness_1 : WitnessClaimed_1 := ⟨start1.p0, start1.e0, start1.about1, start1.theMethod, start1.args0, start1.below0, start1.atStart⟩
end Jvm.Pilot.@@N@@
