import JvmDerived
import JvmDerived.Pilot.@@N@@Statement
import JvmDerived.Pilot.@@N@@Code
set_option linter.unusedVariables false
set_option linter.unusedSimpArgs false
namespace Jvm.Pilot.@@N@@
open Jvm Jvm.ClassFile Sem Op Lib Jvm.Free Jvm.Stand Jvm.LawKit Jvm.RoadKit Bundle Jvm.Pilot.@@N@@.Jvm.D
/-- from T with the frame fr on top the invocation ends; Q holds of what it returned, of the heap and of the written places; kc cells and ks slots at most are new -/
def Go (p : Program) (e : Env) (below : List Frame) (s : State) (kc ks : Nat) (Q : Option Value → Heap → List Loc → Prop) (T : State) (fr : JFrame) : Prop :=
  ∃ s₂ o, Steps p.tables e below (T.setTop fr) s₂ ∧ s₂.status = .running ∧ Ended s₂ below o ∧ ∃ v L, o = .returned v ∧ Q v s₂.heap L ∧ FrameEnd s o s₂ L kc ks
section OwnKit
variable {p : Program} {l : Launch} {e : Env} {R : Room} {s : State} {m : MethodId} {args : Array Value} {below : List Frame} {meth : Method} {c : Code} {T T' : State} {locs : List Loc} {cells slots : Nat} {Z : State} {a0 : Array Value} {h : Heap} {kc ks : Nat} {Q : Option Value → Heap → List Loc → Prop}
theorem own_st {fr fr' : JFrame} (st : ∀ t, Steps p.tables e below (T'.setTop fr') t → Steps p.tables e below (T.setTop fr) t) (k : Go p e below s kc ks Q T' fr') : Go p e below s kc ks Q T fr := by
  obtain ⟨s₂, o, h1, h2⟩ := k
  exact ⟨s₂, o, st _ h1, h2⟩
theorem own_tr {fr fr' : JFrame} (st : Steps p.tables e below (T.setTop fr) (T'.setTop fr')) (k : Go p e below s kc ks Q T' fr') : Go p e below s kc ks Q T fr :=
  own_st (fun _ q => st.trans q) k
theorem own_met {y : MethodName} {bytes : ByteArray} {maxL : Nat} {ret : Option FieldType} {ws : List Jvm.Cond} {rm : Room} {as' : Array Value} {Ls : Array Slot} {h0 : Heap} (hn : plainFor y = true) (hef : ∀ m : MethodId, entryFrame m as' maxL = mkF m 0 Ls [])
    (body : ∀ (p : Program) (e : Env) (s : State) (m : MethodId) (below : List Frame) (meth : Method) (c : Code) (s₁ : State), p.tables.exec = Jvm.exec → c.code = bytes → c.maxLocals = maxL → meth.sig.returnType = ret → meth.locks = false → Z.Warmed39 s.vm → s.vm.findClass y.cls = some m.cls → meth.name = y.name →
      Stand p l e rm s m as' below meth c s₁ [] 0 0 → s₁.heap = h0 → s.heap = h0 → Go p e below s rm.cells rm.slots Q s₁ (mkF m 0 Ls [])) :
    MetFree l y (head1 (Jvm.Cond.code y bytes maxL ret :: ws) rm) (fun a U => a = as' ∧ Z.Warmed39 U.vm ∧ U.heap = h0) (fun _ _ _ _ _ => True) (fun _ U o U' => ∃ v L, o = .returned v ∧ Q v U'.heap L ∧ FrameEnd U o U' L rm.cells rm.slots) := by
  refine MetFree.of_bodySF hn hisR ?_
  intro p e s m args below meth c s₁ Bd hml0 hP hK
  obtain ⟨rfl, hZ, hh⟩ := hP
  have hg := body p e s m below meth c s₁ Bd.exec Bd.bytes hml0 Bd.returns Bd.notSynchronized hZ (findClass_of_methodNamed Bd.named) (name_of_methodNamed Bd.named Bd.method).1 (Stand.of_body Bd) (by rw [← hh, Bd.state]; rfl) hh
  unfold Go at hg
  rw [← hef m] at hg
  exact hg
theorem own_ret (X : Stand p l e R s m args below meth c T locs cells slots) (hx : p.tables.exec = Jvm.exec) (hlk : meth.locks = false) {pc : Nat} {Ls : Array Slot} {w : Value} {t : FieldType} {i : Instr} {rest : List Value} (hret : meth.sig.returnType = some t) (hn : narrow t w = w)
    (hi : (i = .ireturn ∧ (t = .int ∨ t = .boolean ∨ t = .byte ∨ t = .char ∨ t = .short) ∧ ∃ z, w = .int z) ∨ (i = .lreturn ∧ t = .long ∧ ∃ z, w = .long z) ∨ (i = .dreturn ∧ t = .double ∧ ∃ z, w = .double z) ∨ (i = .freturn ∧ t = .float ∧ ∃ z, w = .float z) ∨ (i = .areturn ∧ t.isReference = true ∧ w.isRef = true))
    (hd : decode c.code pc = .ok (i, 1)) (hc : cells ≤ kc) (hs : slots ≤ ks) (hq : Q (some w) T.heap locs) : Go p e below s kc ks Q T (mkF m pc Ls (w :: rest)) := by
  obtain ⟨fs, hr, hrun, hended, hW, hsame⟩ := X.leave (v := some w) (fun h => by rw [hret] at h; cases h) hlk
  exact ⟨_, _, retOut X hx hret hn hi hd hr, hrun, hended, _, _, rfl, hq, ⟨_, rfl⟩, hW, hsame.mono hc hs⟩
theorem own_retI (X : Stand p l e R s m args below meth c T locs cells slots) (hx : p.tables.exec = Jvm.exec) (hlk : meth.locks = false) {pc : Nat} {Ls : Array Slot} {z : Int32} {rest : List Value} (hret : meth.sig.returnType = some .int)
    (hd : decode c.code pc = .ok (.ireturn, 1)) (hc : cells ≤ kc) (hs : slots ≤ ks) (hq : Q (some (.int z)) T.heap locs) : Go p e below s kc ks Q T (mkF m pc Ls (.int z :: rest)) :=
  own_ret X hx hlk hret rfl (Or.inl ⟨rfl, Or.inl rfl, _, rfl⟩) hd hc hs hq
theorem own_retJ (X : Stand p l e R s m args below meth c T locs cells slots) (hx : p.tables.exec = Jvm.exec) (hlk : meth.locks = false) {pc : Nat} {Ls : Array Slot} {z : Int64} {rest : List Value} (hret : meth.sig.returnType = some .long)
    (hd : decode c.code pc = .ok (.lreturn, 1)) (hc : cells ≤ kc) (hs : slots ≤ ks) (hq : Q (some (.long z)) T.heap locs) : Go p e below s kc ks Q T (mkF m pc Ls (.long z :: rest)) :=
  own_ret X hx hlk hret rfl (Or.inr (Or.inl ⟨rfl, rfl, _, rfl⟩)) hd hc hs hq
theorem own_retA (X : Stand p l e R s m args below meth c T locs cells slots) (hx : p.tables.exec = Jvm.exec) (hlk : meth.locks = false) {pc : Nat} {Ls : Array Slot} {w : Value} {t : FieldType} {rest : List Value} (hret : meth.sig.returnType = some t) (ht : t.isReference = true) (hw : w.isRef = true)
    (hd : decode c.code pc = .ok (.areturn, 1)) (hc : cells ≤ kc) (hs : slots ≤ ks) (hq : Q (some w) T.heap locs) : Go p e below s kc ks Q T (mkF m pc Ls (w :: rest)) :=
  own_ret X hx hlk hret (by cases w <;> simp [Value.isRef] at hw <;> cases t <;> simp [FieldType.isReference] at ht <;> rfl) (Or.inr (Or.inr (Or.inr (Or.inr ⟨rfl, ht, hw⟩)))) hd hc hs hq
theorem own_retV (X : Stand p l e R s m args below meth c T locs cells slots) (hx : p.tables.exec = Jvm.exec) (hlk : meth.locks = false) {pc : Nat} {Ls : Array Slot} (hret : meth.sig.returnType = none)
    (hd : decode c.code pc = .ok (.return_, 1)) (hc : cells ≤ kc) (hs : slots ≤ ks) (hq : Q none T.heap locs) : Go p e below s kc ks Q T (mkF m pc Ls []) := by
  obtain ⟨fs, hr, hrun, hended, hW, hsame⟩ := X.leave (v := none) (fun _ => rfl) hlk
  exact ⟨_, _, X.returnOut hx hret hd hr, hrun, hended, _, _, rfl, hq, ⟨_, rfl⟩, hW, hsame.mono hc hs⟩
theorem own_bit {z : Int32} (h : z.toInt = 0 ∨ z.toInt = 1) : z = 0 ∨ z = 1 := by
  rcases h with h | h
  · exact Or.inl (Int32.toInt_inj.mp h)
  · exact Or.inr (Int32.toInt_inj.mp h)
theorem own_retZ (X : Stand p l e R s m args below meth c T locs cells slots) (hx : p.tables.exec = Jvm.exec) (hlk : meth.locks = false) {pc : Nat} {Ls : Array Slot} {z : Int32} {rest : List Value} (hret : meth.sig.returnType = some .boolean) (hz : z.toInt = 0 ∨ z.toInt = 1)
    (hd : decode c.code pc = .ok (.ireturn, 1)) (hc : cells ≤ kc) (hs : slots ≤ ks) (hq : Q (some (.int z)) T.heap locs) : Go p e below s kc ks Q T (mkF m pc Ls (.int z :: rest)) :=
  own_ret X hx hlk hret (by rcases own_bit hz with rfl | rfl <;> rfl) (Or.inl ⟨rfl, Or.inr (Or.inl rfl), _, rfl⟩) hd hc hs hq
theorem own_one {z : Int32} (h : z.toInt = 1) : z = 1 := Int32.toInt_inj.mp h
/-- a static call by the callee's contract -/
theorem own_callS (X : Stand p l e R s m args below meth c T locs cells slots) (hx : p.tables.exec = Jvm.exec) (hZ : Z.Warmed39 s.vm) {own : String} {index : Nat} {y : MethodName} {bytes : ByteArray} {maxL : Nat} {ret : Option FieldType} (hown : s.vm.findClass own = some m.cls)
    (w1 : (Jvm.Cond.methodLink own index y).before a0 Z = true) (w2 : (Jvm.Cond.static y).before a0 Z = true) (w3 : (Jvm.Cond.initialized y.cls).before a0 Z = true) (w4 : (Jvm.Cond.code y bytes maxL ret).before a0 Z = true) (hy : y.cls ≠ "java/lang/invoke/MethodHandle" ∧ y.cls ≠ "java/lang/invoke/VarHandle")
    {rm : Room} {Q' : Option Value → Heap → List Loc → Prop} {argsL rest stk : List Value} {pc W : Nat} {Ls : Array Slot}
    (hM : MetFree l y (head1 [Jvm.Cond.code y bytes maxL ret] rm) (fun a U => a = argsL.toArray ∧ Z.Warmed39 U.vm ∧ U.heap = h) (fun _ _ _ _ _ => True) (fun _ U o U' => ∃ v L, o = .returned v ∧ Q' v U'.heap L ∧ FrameEnd U o U' L rm.cells rm.slots))
    (eT : T.heap = h) (hsize : Ls.size = c.maxLocals) (hlen : ∀ sig, parseMethodDescriptor y.desc = some sig → argsL.length = sig.parameters.length) (hst : stk = argsL.reverse ++ rest) (hW : (rest.map fun v => v.category).sum ≤ W) (hd : decode c.code pc = .ok (.invokestatic index, 3))
    (hf : rm.frames + 1 ≤ R.frames) (hl : W + (maxL + 11) + rm.locals ≤ R.locals) (hc : cells + rm.cells ≤ R.cells) (hs : slots + rm.slots ≤ R.slots)
    (k : ∀ (v : Option Value) (T' : State) (L : List Loc), Stand p l e R s m args below meth c T' (locs ++ L) (cells + rm.cells) (slots + rm.slots) → Q' v T'.heap L → Go p e below s kc ks Q T' (mkF m (pc + 3) Ls (v.toList ++ rest))) :
    Go p e below s kc ks Q T (mkF m pc Ls stk) := by
  subst hst
  obtain ⟨v, _, ⟨T1, L1, k1, n1⟩, -, X1, ⟨Lc, hQ, l1, y1, z1⟩, st⟩ := Jvm.LawKit.callS X hx (y := y) hown (mvT hZ w1) (mvT hZ w2) (mvT hZ w3) (mvT hZ w4) hy (backOf (W := W) hM hZ w4 w3 hf hl) (g := mkF m pc Ls (argsL.reverse ++ rest)) rfl hsize (argsL := argsL) (rest := rest) hlen rfl (by show 2 * 0 + _ ≤ _; omega) hd (fun _ _ => ⟨rfl, eT, hc, hs⟩)
  dsimp only [Pt.U, Pt.locs, Pt.cells, Pt.slots] at X1 l1 y1 z1 st hQ
  subst l1 y1 z1
  exact own_st st (k v T1 Lc X1 hQ)
/-- a constructor by its contract -/
theorem own_callN (X : Stand p l e R s m args below meth c T locs cells slots) (hx : p.tables.exec = Jvm.exec) (hZ : Z.Warmed39 s.vm) {own : String} {index : Nat} {y : MethodName} {bytes : ByteArray} {maxL : Nat} (hown : s.vm.findClass own = some m.cls) (hy1 : y.name = "<init>")
    (w1 : (Jvm.Cond.methodLink own index y).before a0 Z = true) (w2 : (Jvm.Cond.instanceMethod y).before a0 Z = true) (w3 : (Jvm.Cond.initialized y.cls).before a0 Z = true) (w4 : (Jvm.Cond.code y bytes maxL none).before a0 Z = true) (hy : y.cls ≠ "java/lang/invoke/MethodHandle" ∧ y.cls ≠ "java/lang/invoke/VarHandle")
    {rm : Room} {Q' : Option Value → Heap → List Loc → Prop} {a : Addr} {argsL rest stk : List Value} {pc W : Nat} {Ls : Array Slot}
    (hM : MetFree l y (head1 [Jvm.Cond.code y bytes maxL none] rm) (fun a' U => a' = (.ref a :: argsL).toArray ∧ Z.Warmed39 U.vm ∧ U.heap = h) (fun _ _ _ _ _ => True) (fun _ U o U' => ∃ v L, o = .returned v ∧ Q' v U'.heap L ∧ FrameEnd U o U' L rm.cells rm.slots))
    (eT : T.heap = h) (hsize : Ls.size = c.maxLocals) (hlen : ∀ sig, parseMethodDescriptor y.desc = some sig → argsL.length = sig.parameters.length) (hst : stk = argsL.reverse ++ .ref a :: rest) (hW : (rest.map fun v => v.category).sum ≤ W) (hd : decode c.code pc = .ok (.invokespecial index, 3))
    (hf : rm.frames + 1 ≤ R.frames) (hl : W + (maxL + 11) + rm.locals ≤ R.locals) (hc : cells + rm.cells ≤ R.cells) (hs : slots + rm.slots ≤ R.slots)
    (k : ∀ (v : Option Value) (T' : State) (L : List Loc), Stand p l e R s m args below meth c T' (locs ++ L) (cells + rm.cells) (slots + rm.slots) → Q' v T'.heap L → Go p e below s kc ks Q T' (mkF m (pc + 3) Ls (v.toList ++ rest))) :
    Go p e below s kc ks Q T (mkF m pc Ls stk) := by
  subst hst
  obtain ⟨v, _, ⟨T1, L1, k1, n1⟩, -, X1, ⟨Lc, hQ, l1, y1, z1⟩, st⟩ := X.specialBack hx (y := y) hy1 hown (mvT hZ w1) (mvT hZ w2) (mvT hZ w4) hy (backOf (W := W) hM hZ w4 w3 hf hl) (g := mkF m pc Ls (argsL.reverse ++ .ref a :: rest)) rfl hsize (Steps.refl _) (a := a) (argsL := argsL) (rest := rest) hlen rfl (by show 2 * 0 + _ ≤ _; omega) hd (fun _ _ => ⟨rfl, eT, hc, hs⟩)
  dsimp only [Pt.U, Pt.locs, Pt.cells, Pt.slots] at X1 l1 y1 z1 st hQ
  subst l1 y1 z1
  exact own_tr st (k v T1 Lc X1 hQ)
/-- an instance method by the contract of the body that the receiver's class selects -/
theorem own_callV (X : Stand p l e R s m args below meth c T locs cells slots) (hx : p.tables.exec = Jvm.exec) (hZ : Z.Warmed39 s.vm) {own C : String} {index : Nat} {y z : MethodName} {bytes : ByteArray} {maxL : Nat} {ret : Option FieldType} (hown : s.vm.findClass own = some m.cls)
    (w1 : (Jvm.Cond.methodLink own index y).before a0 Z = true) (w2 : (Jvm.Cond.declares y).before a0 Z = true) (hnf : NotFace s y) (w3 : (Jvm.Cond.selects C y z).before a0 Z = true) (w4 : (Jvm.Cond.instanceMethod z).before a0 Z = true) (w5 : (Jvm.Cond.initialized z.cls).before a0 Z = true) (w6 : (Jvm.Cond.code z bytes maxL ret).before a0 Z = true) (hy : y.cls ≠ "java/lang/invoke/MethodHandle" ∧ y.cls ≠ "java/lang/invoke/VarHandle")
    {rm : Room} {Q' : Option Value → Heap → List Loc → Prop} {a : Addr} {argsL rest stk : List Value} {pc W : Nat} {Ls : Array Slot}
    (hM : MetFree l z (head1 [Jvm.Cond.code z bytes maxL ret] rm) (fun a' U => a' = (.ref a :: argsL).toArray ∧ Z.Warmed39 U.vm ∧ U.heap = h) (fun _ _ _ _ _ => True) (fun _ U o U' => ∃ v L, o = .returned v ∧ Q' v U'.heap L ∧ FrameEnd U o U' L rm.cells rm.slots))
    (eT : T.heap = h) (E : Exa Z h a C) (hsize : Ls.size = c.maxLocals) (hlen : ∀ sig, parseMethodDescriptor y.desc = some sig → argsL.length = sig.parameters.length) (hst : stk = argsL.reverse ++ .ref a :: rest) (hW : (rest.map fun v => v.category).sum ≤ W) (hd : decode c.code pc = .ok (.invokevirtual index, 3))
    (hf : rm.frames + 1 ≤ R.frames) (hl : W + (maxL + 11) + rm.locals ≤ R.locals) (hc : cells + rm.cells ≤ R.cells) (hs : slots + rm.slots ≤ R.slots)
    (k : ∀ (v : Option Value) (T' : State) (L : List Loc), Stand p l e R s m args below meth c T' (locs ++ L) (cells + rm.cells) (slots + rm.slots) → Q' v T'.heap L → Go p e below s kc ks Q T' (mkF m (pc + 3) Ls (v.toList ++ rest))) :
    Go p e below s kc ks Q T (mkF m pc Ls stk) := by
  subst hst
  obtain ⟨cq, kq, qa, qb, qc⟩ := isOf hZ eT E
  obtain ⟨v, _, ⟨T1, L1, k1, n1⟩, -, X1, ⟨Lc, hQ, l1, y1, z1⟩, st⟩ := X.virtualBack hx (y := y) (z := z) hown (mvT hZ w1) (mvT hZ w2) hnf (mvT hZ w3) (mvT hZ w4) hy (backOf (W := W) hM hZ w6 w5 hf hl) qa qc (g := mkF m pc Ls (argsL.reverse ++ .ref a :: rest)) rfl hsize (Steps.refl _) (argsL := argsL) (rest := rest) hlen rfl (by show 2 * 0 + _ ≤ _; omega) hd (fun _ _ => ⟨rfl, eT, hc, hs⟩)
  dsimp only [Pt.U, Pt.locs, Pt.cells, Pt.slots] at X1 l1 y1 z1 st hQ
  subst l1 y1 z1
  exact own_tr st (k v T1 Lc X1 hQ)
/-- the branches, by the integers' worth -/
theorem own_tlt {x y : Int32} (h : x.toInt < y.toInt) : if_icmp.holds .lt x y = true ∧ if_icmp.holds .ge x y = false ∧ if_icmp.holds .gt y x = true ∧ if_icmp.holds .le y x = false := tlt (Int32.lt_iff_toInt_lt.mpr h)
theorem own_flt {x y : Int32} (h : ¬ x.toInt < y.toInt) : if_icmp.holds .lt x y = false ∧ if_icmp.holds .ge x y = true ∧ if_icmp.holds .gt y x = false ∧ if_icmp.holds .le y x = true := flt fun q => h (Int32.lt_iff_toInt_lt.mp q)
theorem own_teq {x y : Int32} (h : x.toInt = y.toInt) : if_icmp.holds .eq x y = true ∧ if_icmp.holds .ne x y = false := teq (Int32.toInt_inj.mp h)
theorem own_feq {x y : Int32} (h : ¬ x.toInt = y.toInt) : if_icmp.holds .eq x y = false ∧ if_icmp.holds .ne x y = true := feq fun q => h (congrArg _ q)
theorem own_tltL {x y : Int64} (h : x.toInt < y.toInt) : ifCond.holds .lt (lcmpW x y) = true ∧ ifCond.holds .ge (lcmpW x y) = false := by
  have q := tlt ((lw_lt x y).mpr (Int64.lt_iff_toInt_lt.mpr h))
  exact ⟨(if0 _ _).trans q.1, (if0 _ _).trans q.2.1⟩
theorem own_fltL {x y : Int64} (h : ¬ x.toInt < y.toInt) : ifCond.holds .lt (lcmpW x y) = false ∧ ifCond.holds .ge (lcmpW x y) = true := by
  have q := flt fun r => h (Int64.lt_iff_toInt_lt.mp ((lw_lt x y).mp r))
  exact ⟨(if0 _ _).trans q.1, (if0 _ _).trans q.2.1⟩
theorem own_tgtL {x y : Int64} (h : y.toInt < x.toInt) : ifCond.holds .gt (lcmpW x y) = true ∧ ifCond.holds .le (lcmpW x y) = false := by
  have q := tlt ((lw_gt x y).mpr (Int64.lt_iff_toInt_lt.mpr h))
  exact ⟨(if0 _ _).trans q.2.2.1, (if0 _ _).trans q.2.2.2⟩
theorem own_fgtL {x y : Int64} (h : ¬ y.toInt < x.toInt) : ifCond.holds .gt (lcmpW x y) = false ∧ ifCond.holds .le (lcmpW x y) = true := by
  have q := flt fun r => h (Int64.lt_iff_toInt_lt.mp ((lw_gt x y).mp r))
  exact ⟨(if0 _ _).trans q.2.2.1, (if0 _ _).trans q.2.2.2⟩
theorem own_teqL {x y : Int64} (h : x.toInt = y.toInt) : ifCond.holds .eq (lcmpW x y) = true ∧ ifCond.holds .ne (lcmpW x y) = false := by
  have q := teq ((lw_eq x y).mpr (Int64.toInt_inj.mp h))
  exact ⟨(if0 _ _).trans q.1, (if0 _ _).trans q.2⟩
theorem own_feqL {x y : Int64} (h : ¬ x.toInt = y.toInt) : ifCond.holds .eq (lcmpW x y) = false ∧ ifCond.holds .ne (lcmpW x y) = true := by
  have q := feq fun r => h (congrArg _ ((lw_eq x y).mp r))
  exact ⟨(if0 _ _).trans q.1, (if0 _ _).trans q.2⟩
/-- an array by its length and what each place holds -/
def own_A (Z : State) (h : Heap) (a : Addr) (ty : FieldType) (n : Int32) (f : Nat → Value) : Prop := ∃ cl : Cell, Arr Z h a cl ty ∧ cl.slots.size = n.toNatClampNeg ∧ 0 ≤ n.toInt ∧ (∀ i, i < cl.slots.size → cl.slots[i]? = some (f i)) ∧ ∀ i, i < cl.slots.size → fits ty (f i) = true
theorem own_cl {n : Int32} : n.toNatClampNeg = n.toInt.toNat := rfl
theorem own_nneg {n : Int32} (h : 0 ≤ n.toInt) : ¬ n < 0 := fun q => by
  have q := Int32.lt_iff_toInt_lt.mp q
  have : (0 : Int32).toInt = 0 := rfl
  omega
theorem own_in {cl : Cell} {n j : Int32} (hs : cl.slots.size = n.toNatClampNeg) (h0 : 0 ≤ j.toInt) (h1 : j.toInt < n.toInt) : ¬ (j < 0 ∨ cl.slots.size ≤ j.toNatClampNeg) := by
  rintro (q | q)
  · exact own_nneg h0 q
  · rw [hs, own_cl, own_cl] at q; omega
theorem own_ilt {cl : Cell} {n j : Int32} (hs : cl.slots.size = n.toNatClampNeg) (h0 : 0 ≤ j.toInt) (h1 : j.toInt < n.toInt) : j.toInt.toNat < cl.slots.size := by rw [hs, own_cl]; omega
section OwnArr
variable {h h' : Heap} {a b : Addr} {ty : FieldType} {n : Int32} {f g : Nat → Value} {sl : Nat} {v : Value} {ws : List Addr}
theorem own_A.lt (F : own_A Z h a ty n f) : a < h.size := by obtain ⟨c, A, -⟩ := F; exact A.lt
theorem own_A.ext (F : own_A Z h a ty n f) (E : Ext h h') : own_A Z h' a ty n f := by obtain ⟨c, A, r⟩ := F; exact ⟨c, A.ext E, r⟩
theorem own_A.other (F : own_A Z h b ty n f) (W : Wr h h' a sl v) (q : b ≠ a) : own_A Z h' b ty n f := by obtain ⟨c, A, r⟩ := F; exact ⟨c, A.other W q, r⟩
theorem own_A.keep (F : own_A Z h a ty n f) (K : Keep h h' ws) (q : a ∉ ws) : own_A Z h' a ty n f := by obtain ⟨c, A, r⟩ := F; exact ⟨c, ⟨K.2.1 a c A.1 q, A.2⟩, r⟩
theorem own_A.congr (F : own_A Z h a ty n f) (q : ∀ i : Nat, (i : Int) < n.toInt → f i = g i) : own_A Z h a ty n g := by
  obtain ⟨c, A, hs, h0, H, G⟩ := F
  have t : ∀ i, i < c.slots.size → f i = g i := fun i hi => q i (by rw [hs, own_cl] at hi; omega)
  exact ⟨c, A, hs, h0, fun i hi => by rw [← t i hi]; exact H i hi, fun i hi => by rw [← t i hi]; exact G i hi⟩
theorem own_A.new {k : ClassId} (A : Arr Z h a (newA k ty n) ty) (q : 0 ≤ n.toInt) (hd : fits ty (defaultValue ty) = true) : own_A Z h a ty n (fun _ => defaultValue ty) :=
  ⟨_, A, sz_new _ _ _, q, fun i hi => by
    rw [sz_new] at hi
    simp [newA, hi], fun _ _ => hd⟩
theorem own_A.setN {cl : Cell} (A : Arr Z h a cl ty) (hs : cl.slots.size = n.toNatClampNeg) (h0 : 0 ≤ n.toInt) (H : ∀ i, i < cl.slots.size → cl.slots[i]? = some (f i)) (G : ∀ i, i < cl.slots.size → fits ty (f i) = true) (hv : fits ty v = true) {j : Nat} (W : Wr h h' a j v) (hj : j < cl.slots.size) :
    own_A Z h' a ty n (fun i => if i = j then v else f i) := by
  refine ⟨_, A.same W, by rw [sz_set]; exact hs, h0, fun i hi => ?_, fun i hi => ?_⟩
  · rw [sz_set] at hi
    by_cases e : i = j
    · subst e; simp [Cell.setSlot, hj]
    · have : j ≠ i := fun q => e q.symm
      simp [Cell.setSlot, e, this, H i hi]
  · rw [sz_set] at hi
    by_cases e : i = j
    · simp [e, hv]
    · simp [e, G i hi]
theorem own_A.set {cl : Cell} (A : Arr Z h a cl ty) (hs : cl.slots.size = n.toNatClampNeg) (h0 : 0 ≤ n.toInt) (H : ∀ i, i < cl.slots.size → cl.slots[i]? = some (f i)) (G : ∀ i, i < cl.slots.size → fits ty (f i) = true) (hv : fits ty v = true) {j : Int32} (W : Wr h h' a j.toNatClampNeg v) (hj : j.toInt.toNat < cl.slots.size) :
    own_A Z h' a ty n (fun i => if i = j.toInt.toNat then v else f i) := own_A.setN A hs h0 H G hv (j := j.toInt.toNat) W hj
end OwnArr
theorem own_A.int {h : Heap} {a : Addr} {n j : Int32} {f : Nat → Value} (F : own_A Z h a .int n f) (h0 : 0 ≤ j.toInt) (h1 : j.toInt < n.toInt) : ∃ z : Int32, f j.toInt.toNat = .int z := by
  obtain ⟨c, A, hs, hn, H, G⟩ := F
  exact fit_I (G _ (own_ilt hs h0 h1)) (Or.inl rfl)
theorem own_newarr (X : Stand p l e R s m args below meth c T locs cells slots) (hx : p.tables.exec = Jvm.exec) (hZ : Z.Warmed39 s.vm) {aty : ArrayType} (w : (Jvm.Cond.arrayClass (newarray.typeOf aty)).before a0 Z = true) (eT : T.heap = h) {pc : Nat} {Ls : Array Slot} (hd : decode c.code pc = .ok (.newarray aty, 2)) {n : Int32} {rest : List Value}
    (hn : 0 ≤ n.toInt) {cap : Nat} (hcap : n.toInt ≤ cap) (hb : cap * 8 ≤ 536870912) (hc : cells + 1 ≤ R.cells) (hl : slots + cap ≤ R.slots) (hf : fits (newarray.typeOf aty) (defaultValue (newarray.typeOf aty)) = true)
    (k : ∀ (T' : State) (h' : Heap) (a : Addr), a = h.size → Stand p l e R s m args below meth c T' locs (cells + 1) (slots + cap) → T'.heap = h' → Ext h h' → own_A Z h' a (newarray.typeOf aty) n (fun _ => defaultValue (newarray.typeOf aty)) → Go p e below s kc ks Q T' (mkF m (pc + 2) Ls (.ref a :: rest))) :
    Go p e below s kc ks Q T (mkF m pc Ls (.int n :: rest)) := by
  obtain ⟨T', h', cA, X', e', E', A', st⟩ := newP X hx hZ w eT (g := mkF m pc Ls (.int n :: rest)) rfl hd rfl (own_nneg hn) (cap := cap) (by rw [own_cl]; omega) hb hc hl
  exact own_st st (k T' h' _ rfl X' e' E' (own_A.new A' hn hf))
theorem own_alen (X : Stand p l e R s m args below meth c T locs cells slots) (hx : p.tables.exec = Jvm.exec) (hZ : Z.Warmed39 s.vm) (eT : T.heap = h) {a : Addr} {ty : FieldType} {n : Int32} {f : Nat → Value} (A : own_A Z h a ty n f) {pc : Nat} {Ls : Array Slot} {rest : List Value} (hd : decode c.code pc = .ok (.arraylength, 1))
    (k : Go p e below s kc ks Q T (mkF m (pc + 1) Ls (.int n :: rest))) : Go p e below s kc ks Q T (mkF m pc Ls (.ref a :: rest)) := by
  obtain ⟨cl, Ar, hs, h0, -, -⟩ := A
  rw [← len_of hs (own_nneg h0)] at k
  exact own_st (fun t q => X.arraylength hx (by rw [eT]; exact Ar.1) (State.isArrayOf_alike hZ.alike Ar.2.1) (g := mkF m pc Ls (.ref a :: rest)) rfl rfl hd t q) k
theorem own_iaload (X : Stand p l e R s m args below meth c T locs cells slots) (hx : p.tables.exec = Jvm.exec) (hZ : Z.Warmed39 s.vm) (eT : T.heap = h) {a : Addr} {n j : Int32} {f : Nat → Value} {v : Value} (A : own_A Z h a .int n f) (h0 : 0 ≤ j.toInt) (h1 : j.toInt < n.toInt) (hv : f j.toInt.toNat = v) {pc : Nat} {Ls : Array Slot} {rest : List Value} (hd : decode c.code pc = .ok (.iaload, 1))
    (k : Go p e below s kc ks Q T (mkF m (pc + 1) Ls (v :: rest))) : Go p e below s kc ks Q T (mkF m pc Ls (.int j :: .ref a :: rest)) := by
  obtain ⟨cl, Ar, hs, hn, H, -⟩ := A
  exact own_st (fun t q => X.iaload hx (j := j) (v := v) (by rw [eT]; exact Ar.1) (State.isArrayOf_alike hZ.alike Ar.2.1) Ar.2.2 (own_in hs h0 h1) (hv ▸ H _ (own_ilt hs h0 h1)) (g := mkF m pc Ls (.int j :: .ref a :: rest)) rfl rfl hd t q) k
theorem own_laload (X : Stand p l e R s m args below meth c T locs cells slots) (hx : p.tables.exec = Jvm.exec) (hZ : Z.Warmed39 s.vm) (eT : T.heap = h) {a : Addr} {n j : Int32} {f : Nat → Value} {v : Value} (A : own_A Z h a .long n f) (h0 : 0 ≤ j.toInt) (h1 : j.toInt < n.toInt) (hv : f j.toInt.toNat = v) {pc : Nat} {Ls : Array Slot} {rest : List Value} (hd : decode c.code pc = .ok (.laload, 1))
    (k : Go p e below s kc ks Q T (mkF m (pc + 1) Ls (v :: rest))) : Go p e below s kc ks Q T (mkF m pc Ls (.int j :: .ref a :: rest)) := by
  obtain ⟨cl, Ar, hs, hn, H, -⟩ := A
  exact own_st (fun t q => X.laload hx (j := j) (v := v) (by rw [eT]; exact Ar.1) (State.isArrayOf_alike hZ.alike Ar.2.1) Ar.2.2 (own_in hs h0 h1) (hv ▸ H _ (own_ilt hs h0 h1)) (g := mkF m pc Ls (.int j :: .ref a :: rest)) rfl rfl hd t q) k
theorem own_caload (X : Stand p l e R s m args below meth c T locs cells slots) (hx : p.tables.exec = Jvm.exec) (hZ : Z.Warmed39 s.vm) (eT : T.heap = h) {a : Addr} {n j : Int32} {f : Nat → Value} {v : Value} (A : own_A Z h a .char n f) (h0 : 0 ≤ j.toInt) (h1 : j.toInt < n.toInt) (hv : f j.toInt.toNat = v) {pc : Nat} {Ls : Array Slot} {rest : List Value} (hd : decode c.code pc = .ok (.caload, 1))
    (k : Go p e below s kc ks Q T (mkF m (pc + 1) Ls (v :: rest))) : Go p e below s kc ks Q T (mkF m pc Ls (.int j :: .ref a :: rest)) := by
  obtain ⟨cl, Ar, hs, hn, H, -⟩ := A
  exact own_st (fun t q => X.caload hx (j := j) (v := v) (by rw [eT]; exact Ar.1) (State.isArrayOf_alike hZ.alike Ar.2.1) Ar.2.2 (own_in hs h0 h1) (hv ▸ H _ (own_ilt hs h0 h1)) (g := mkF m pc Ls (.int j :: .ref a :: rest)) rfl rfl hd t q) k
theorem own_baload (X : Stand p l e R s m args below meth c T locs cells slots) (hx : p.tables.exec = Jvm.exec) (hZ : Z.Warmed39 s.vm) (eT : T.heap = h) {a : Addr} {n j : Int32} {f : Nat → Value} {v : Value} (A : own_A Z h a .byte n f) (h0 : 0 ≤ j.toInt) (h1 : j.toInt < n.toInt) (hv : f j.toInt.toNat = v) {pc : Nat} {Ls : Array Slot} {rest : List Value} (hd : decode c.code pc = .ok (.baload, 1))
    (k : Go p e below s kc ks Q T (mkF m (pc + 1) Ls (v :: rest))) : Go p e below s kc ks Q T (mkF m pc Ls (.int j :: .ref a :: rest)) := by
  obtain ⟨cl, Ar, hs, hn, H, -⟩ := A
  exact own_st (fun t q => X.baloadBytes hx (j := j) (v := v) (by rw [eT]; exact Ar.1) (State.isArrayOf_alike hZ.alike Ar.2.1) Ar.2.2 (own_in hs h0 h1) (hv ▸ H _ (own_ilt hs h0 h1)) (g := mkF m pc Ls (.int j :: .ref a :: rest)) rfl rfl hd t q) k
theorem own_zaload (X : Stand p l e R s m args below meth c T locs cells slots) (hx : p.tables.exec = Jvm.exec) (hZ : Z.Warmed39 s.vm) (eT : T.heap = h) {a : Addr} {n j : Int32} {f : Nat → Value} {v : Value} (A : own_A Z h a .boolean n f) (h0 : 0 ≤ j.toInt) (h1 : j.toInt < n.toInt) (hv : f j.toInt.toNat = v) {pc : Nat} {Ls : Array Slot} {rest : List Value} (hd : decode c.code pc = .ok (.baload, 1))
    (k : Go p e below s kc ks Q T (mkF m (pc + 1) Ls (v :: rest))) : Go p e below s kc ks Q T (mkF m pc Ls (.int j :: .ref a :: rest)) := by
  obtain ⟨cl, Ar, hs, hn, H, -⟩ := A
  exact own_st (fun t q => X.baloadBooleans hx (j := j) (v := v) (by rw [eT]; exact Ar.1) (State.isArrayOf_alike hZ.alike Ar.2.1) Ar.2.2 (own_in hs h0 h1) (hv ▸ H _ (own_ilt hs h0 h1)) (g := mkF m pc Ls (.int j :: .ref a :: rest)) rfl rfl hd t q) k
theorem own_aaload (X : Stand p l e R s m args below meth c T locs cells slots) (hx : p.tables.exec = Jvm.exec) (hZ : Z.Warmed39 s.vm) (eT : T.heap = h) {a : Addr} {ty : FieldType} {n j : Int32} {f : Nat → Value} {v : Value} (A : own_A Z h a ty n f) (hty : ty.isReference = true) (h0 : 0 ≤ j.toInt) (h1 : j.toInt < n.toInt) (hv : f j.toInt.toNat = v) {pc : Nat} {Ls : Array Slot} {rest : List Value} (hd : decode c.code pc = .ok (.aaload, 1))
    (k : Go p e below s kc ks Q T (mkF m (pc + 1) Ls (v :: rest))) : Go p e below s kc ks Q T (mkF m pc Ls (.int j :: .ref a :: rest)) := by
  obtain ⟨cl, Ar, hs, hn, H, -⟩ := A
  exact own_st (fun t q => X.aaload hx (j := j) (v := v) (by rw [eT]; exact Ar.1) (State.isArrayOf_alike hZ.alike Ar.2.1) hty Ar.2.2 (own_in hs h0 h1) (hv ▸ H _ (own_ilt hs h0 h1)) (g := mkF m pc Ls (.int j :: .ref a :: rest)) rfl rfl hd t q) k
theorem own_iastore (X : Stand p l e R s m args below meth c T locs cells slots) (hx : p.tables.exec = Jvm.exec) (hZ : Z.Warmed39 s.vm) (eT : T.heap = h) {a : Addr} {n j : Int32} {f : Nat → Value} {x : Int32} (A : own_A Z h a .int n f) (h0 : 0 ≤ j.toInt) (h1 : j.toInt < n.toInt) {pc : Nat} {Ls : Array Slot} {rest : List Value} (hd : decode c.code pc = .ok (.iastore, 1))
    (k : ∀ (T' : State) (h' : Heap), Stand p l e R s m args below meth c T' (locs ++ [⟨a, j.toNatClampNeg⟩]) cells slots → T'.heap = h' → Wr h h' a j.toNatClampNeg (.int x) → own_A Z h' a .int n (fun i => if i = j.toInt.toNat then (.int x) else f i) → Go p e below s kc ks Q T' (mkF m (pc + 1) Ls rest)) : Go p e below s kc ks Q T (mkF m pc Ls (.int x :: .int j :: .ref a :: rest)) := by
  obtain ⟨cl, Ar, hs, hn, H, G⟩ := A
  obtain ⟨T', h', X', e', W', st⟩ := stI X hx hZ eT Ar (j := j) (x := x) (own_in hs h0 h1) (g := mkF m pc Ls (.int x :: .int j :: .ref a :: rest)) rfl rfl hd
  exact own_st st (k T' h' X' e' W' (own_A.set Ar hs hn H G rfl W' (own_ilt hs h0 h1)))
theorem own_lastore (X : Stand p l e R s m args below meth c T locs cells slots) (hx : p.tables.exec = Jvm.exec) (hZ : Z.Warmed39 s.vm) (eT : T.heap = h) {a : Addr} {n j : Int32} {f : Nat → Value} {x : Int64} (A : own_A Z h a .long n f) (h0 : 0 ≤ j.toInt) (h1 : j.toInt < n.toInt) {pc : Nat} {Ls : Array Slot} {rest : List Value} (hd : decode c.code pc = .ok (.lastore, 1))
    (k : ∀ (T' : State) (h' : Heap), Stand p l e R s m args below meth c T' (locs ++ [⟨a, j.toNatClampNeg⟩]) cells slots → T'.heap = h' → Wr h h' a j.toNatClampNeg (.long x) → own_A Z h' a .long n (fun i => if i = j.toInt.toNat then (.long x) else f i) → Go p e below s kc ks Q T' (mkF m (pc + 1) Ls rest)) : Go p e below s kc ks Q T (mkF m pc Ls (.long x :: .int j :: .ref a :: rest)) := by
  obtain ⟨cl, Ar, hs, hn, H, G⟩ := A
  obtain ⟨T', h', X', e', W', st⟩ := stJ X hx hZ eT Ar (j := j) (x := x) (own_in hs h0 h1) (g := mkF m pc Ls (.long x :: .int j :: .ref a :: rest)) rfl rfl hd
  exact own_st st (k T' h' X' e' W' (own_A.set Ar hs hn H G rfl W' (own_ilt hs h0 h1)))
theorem own_bastore (X : Stand p l e R s m args below meth c T locs cells slots) (hx : p.tables.exec = Jvm.exec) (hZ : Z.Warmed39 s.vm) (eT : T.heap = h) {a : Addr} {n j : Int32} {f : Nat → Value} {x : Int32} (A : own_A Z h a .byte n f) (h0 : 0 ≤ j.toInt) (h1 : j.toInt < n.toInt) {pc : Nat} {Ls : Array Slot} {rest : List Value} (hd : decode c.code pc = .ok (.bastore, 1))
    (k : ∀ (T' : State) (h' : Heap), Stand p l e R s m args below meth c T' (locs ++ [⟨a, j.toNatClampNeg⟩]) cells slots → T'.heap = h' → Wr h h' a j.toNatClampNeg (.int (nar .byte x)) → own_A Z h' a .byte n (fun i => if i = j.toInt.toNat then (.int (nar .byte x)) else f i) → Go p e below s kc ks Q T' (mkF m (pc + 1) Ls rest)) : Go p e below s kc ks Q T (mkF m pc Ls (.int x :: .int j :: .ref a :: rest)) := by
  obtain ⟨cl, Ar, hs, hn, H, G⟩ := A
  obtain ⟨T', h', X', e', W', st⟩ := stB X hx hZ eT Ar (j := j) (x := x) (own_in hs h0 h1) (g := mkF m pc Ls (.int x :: .int j :: .ref a :: rest)) rfl rfl hd
  exact own_st st (k T' h' X' e' W' (own_A.set Ar hs hn H G (fits_nar_byte x) W' (own_ilt hs h0 h1)))
theorem own_castore (X : Stand p l e R s m args below meth c T locs cells slots) (hx : p.tables.exec = Jvm.exec) (hZ : Z.Warmed39 s.vm) (eT : T.heap = h) {a : Addr} {n j : Int32} {f : Nat → Value} {x : Int32} (A : own_A Z h a .char n f) (h0 : 0 ≤ j.toInt) (h1 : j.toInt < n.toInt) {pc : Nat} {Ls : Array Slot} {rest : List Value} (hd : decode c.code pc = .ok (.castore, 1))
    (k : ∀ (T' : State) (h' : Heap), Stand p l e R s m args below meth c T' (locs ++ [⟨a, j.toNatClampNeg⟩]) cells slots → T'.heap = h' → Wr h h' a j.toNatClampNeg (.int (nar .char x)) → own_A Z h' a .char n (fun i => if i = j.toInt.toNat then (.int (nar .char x)) else f i) → Go p e below s kc ks Q T' (mkF m (pc + 1) Ls rest)) : Go p e below s kc ks Q T (mkF m pc Ls (.int x :: .int j :: .ref a :: rest)) := by
  obtain ⟨cl, Ar, hs, hn, H, G⟩ := A
  obtain ⟨T', h', X', e', W', st⟩ := stC X hx hZ eT Ar (j := j) (x := x) (own_in hs h0 h1) (g := mkF m pc Ls (.int x :: .int j :: .ref a :: rest)) rfl rfl hd
  exact own_st st (k T' h' X' e' W' (own_A.set Ar hs hn H G (fits_nar_char x) W' (own_ilt hs h0 h1)))
theorem own_zastore (X : Stand p l e R s m args below meth c T locs cells slots) (hx : p.tables.exec = Jvm.exec) (hZ : Z.Warmed39 s.vm) (eT : T.heap = h) {a : Addr} {n j : Int32} {f : Nat → Value} {x : Int32} (A : own_A Z h a .boolean n f) (h0 : 0 ≤ j.toInt) (h1 : j.toInt < n.toInt) {pc : Nat} {Ls : Array Slot} {rest : List Value} (hd : decode c.code pc = .ok (.bastore, 1))
    (k : ∀ (T' : State) (h' : Heap), Stand p l e R s m args below meth c T' (locs ++ [⟨a, j.toNatClampNeg⟩]) cells slots → T'.heap = h' → Wr h h' a j.toNatClampNeg (.int (nar .boolean x)) → own_A Z h' a .boolean n (fun i => if i = j.toInt.toNat then (.int (nar .boolean x)) else f i) → Go p e below s kc ks Q T' (mkF m (pc + 1) Ls rest)) : Go p e below s kc ks Q T (mkF m pc Ls (.int x :: .int j :: .ref a :: rest)) := by
  obtain ⟨cl, Ar, hs, hn, H, G⟩ := A
  obtain ⟨T', h', X', e', W', st⟩ := stZ X hx hZ eT Ar (j := j) (x := x) (own_in hs h0 h1) (g := mkF m pc Ls (.int x :: .int j :: .ref a :: rest)) rfl rfl hd
  exact own_st st (k T' h' X' e' W' (own_A.set Ar hs hn H G (fits_nar_bool x) W' (own_ilt hs h0 h1)))
theorem own_eqv {args : Array Value} {s : State} {t : Term} {k : Int32} (h : (Jvm.Cond.eq t (.int k)).value args s none s [] = some true) : t.eval args s none [] s = some (.int k) := by
  simp only [Cond.value, Term.eval] at h
  cases e : t.eval args s none [] s with
  | none => simp [e] at h
  | some v => cases v <;> simp [e] at h; exact congrArg _ (congrArg _ h)
theorem own_fldeq {args : Array Value} {s : State} {t : Term} {x : Addr} {C n d : String} {k : Int32} (ht : t.eval args s none [] s = some (.ref x)) (h : (Jvm.Cond.eq (.field t C n d) (.int k)).value args s none s [] = some true) : Fld s s.heap x C n d (.int k) :=
  Fld.start ((fld_at ht).symm.trans (own_eqv h))
/-- the array at a is one of C's -/
def own_O (Z : State) (h : Heap) (a : Addr) (C : String) : Prop := ∃ cl : Cell, h[a]? = some cl ∧ Ovr Z cl.cls C
theorem own_O.ext {h h' : Heap} {a : Addr} {C : String} (F : own_O Z h a C) (E : Ext h h') : own_O Z h' a C := by obtain ⟨c, A, r⟩ := F; exact ⟨c, E.2 _ _ A, r⟩
theorem own_O.wr {h h' : Heap} {a b : Addr} {C : String} {sl : Nat} {v : Value} (F : own_O Z h a C) (W : Wr h h' b sl v) : own_O Z h' a C := by
  obtain ⟨c, A, r⟩ := F
  obtain ⟨c', e1, e2, -⟩ := wr_at W A
  exact ⟨c', e1, by rw [e2]; exact r⟩
theorem own_newarrR (X : Stand p l e R s m args below meth c T locs cells slots) (hx : p.tables.exec = Jvm.exec) (hZ : Z.Warmed39 s.vm) {own C : String} {index : Nat} (hown : s.vm.findClass own = some m.cls) (w1 : (Jvm.Cond.classLink own index C).before a0 Z = true) (w2 : (Jvm.Cond.arrayOver (.object C)).before a0 Z = true) (eT : T.heap = h) {pc : Nat} {Ls : Array Slot} (hd : decode c.code pc = .ok (.anewarray index, 3)) {n : Int32} {rest : List Value}
    (hn : 0 ≤ n.toInt) {cap : Nat} (hcap : n.toInt ≤ cap) (hb : cap * 8 ≤ 536870912) (hc : cells + 1 ≤ R.cells) (hl : slots + cap ≤ R.slots)
    (k : ∀ (T' : State) (h' : Heap) (a : Addr), a = h.size → Stand p l e R s m args below meth c T' locs (cells + 1) (slots + cap) → T'.heap = h' → Ext h h' → own_A Z h' a (.object C) n (fun _ => .null) → own_O Z h' a C → Go p e below s kc ks Q T' (mkF m (pc + 3) Ls (.ref a :: rest))) :
    Go p e below s kc ks Q T (mkF m pc Ls (.int n :: rest)) := by
  obtain ⟨T', h', cA, X', e', E', A', O', st⟩ := newR X hx hZ hown w1 w2 eT (g := mkF m pc Ls (.int n :: rest)) rfl hd rfl (own_nneg hn) (cap := cap) (by rw [own_cl]; omega) hb hc hl
  exact own_st st (k T' h' _ rfl X' e' E' (own_A.new A' hn rfl) ⟨_, A'.1, O'⟩)
theorem own_aastore (X : Stand p l e R s m args below meth c T locs cells slots) (hx : p.tables.exec = Jvm.exec) (hZ : Z.Warmed39 s.vm) (eT : T.heap = h) {a y : Addr} {n j : Int32} {f : Nat → Value} {C : String} (A : own_A Z h a (.object C) n f) (O : own_O Z h a C) (I : Ins Z h y C true) (h0 : 0 ≤ j.toInt) (h1 : j.toInt < n.toInt) {pc : Nat} {Ls : Array Slot} {rest : List Value} (hd : decode c.code pc = .ok (.aastore, 1))
    (k : ∀ (T' : State) (h' : Heap), Stand p l e R s m args below meth c T' (locs ++ [⟨a, j.toNatClampNeg⟩]) cells slots → T'.heap = h' → Wr h h' a j.toNatClampNeg (.ref y) → own_A Z h' a (.object C) n (fun i => if i = j.toInt.toNat then .ref y else f i) → Go p e below s kc ks Q T' (mkF m (pc + 1) Ls rest)) : Go p e below s kc ks Q T (mkF m pc Ls (.ref y :: .int j :: .ref a :: rest)) := by
  obtain ⟨cl, Ar, hs, hn, H, G⟩ := A
  obtain ⟨cl', o1, o2⟩ := O
  cases Ar.1.symm.trans o1
  obtain ⟨T', h', X', e', W', st⟩ := stR X hx hZ eT Ar (j := j) (v := .ref y) (own_in hs h0 h1) rfl (Sto.of Ar o2 I) (g := mkF m pc Ls (.ref y :: .int j :: .ref a :: rest)) rfl rfl hd
  exact own_st st (k T' h' X' e' W' (own_A.set Ar hs hn H G rfl W' (own_ilt hs h0 h1)))
theorem own_sk0 {h h' : Heap} {C n d : String} {v : Value} (F : Sta Z h C n d v) (K : Keep h h' []) : Sta Z h' C n d v := by
  obtain ⟨cf, i, k, f, st, cell, h1, h2, h3, h4, h5, r⟩ := F
  exact ⟨cf, i, k, f, st, cell, h1, h2, h3, h4, K.2.1 _ _ h5 nin0, r⟩
theorem own_sk1 {h h' : Heap} {a : Addr} {C n d D : String} {v : Value} (F : Sta Z h C n d v) (K : Keep h h' [a]) (E : Exa Z h a D) : Sta Z h' C n d v := by
  obtain ⟨cf, i, k, f, st, cell, h1, h2, h3, h4, h5, h6, h7⟩ := F
  obtain ⟨c2, k2, e1, e2, e3, e4, e5⟩ := E
  have ne : st ≠ a := fun q => by
    subst q
    cases h5.symm.trans e1
    rw [e4] at h6; cases h6
  exact ⟨cf, i, k, f, st, cell, h1, h2, h3, h4, K.2.1 _ _ h5 (ninS ne nin0), h6, h7⟩
/-- each of the first n places holds an object of class D -/
def own_IC (Z : State) (h : Heap) (D : String) (n : Nat) (f : Nat → Value) : Prop := ∀ i, i < n → ∃ b : Addr, f i = .ref b ∧ Exa Z h b D
theorem own_IC.ext {h h' : Heap} {D : String} {n : Nat} {f : Nat → Value} (F : own_IC Z h D n f) (E : Ext h h') : own_IC Z h' D n f := fun i hi => by obtain ⟨b, e1, e2⟩ := F i hi; exact ⟨b, e1, e2.ext E⟩
theorem own_IC.wr {h h' : Heap} {D : String} {n : Nat} {f : Nat → Value} {a : Addr} {sl : Nat} {v : Value} (F : own_IC Z h D n f) (W : Wr h h' a sl v) : own_IC Z h' D n f := fun i hi => by obtain ⟨b, e1, e2⟩ := F i hi; exact ⟨b, e1, Exa.wr W e2⟩
theorem own_IC.keep {h h' : Heap} {D : String} {n : Nat} {f : Nat → Value} {ws : List Addr} (F : own_IC Z h D n f) (K : Keep h h' ws) : own_IC Z h' D n f := fun i hi => by obtain ⟨b, e1, e2⟩ := F i hi; exact ⟨b, e1, e2.keep K⟩
/-- an object of class D is no K -/
theorem own_notIns {h : Heap} {b : Addr} {D K : String} {t : List String} {kk : Nat} (E : Exa Z h b D) (hw : ∀ w ∈ Cond.chainWords (D :: t), w.before a0 Z = true) (wi : (Jvm.Cond.instantiable K kk).before a0 Z = true) (hn : K ∉ D :: t) : Ins Z h b K false := by
  obtain ⟨cell, k, e1, e2, e3, e4, e5⟩ := E
  obtain ⟨cK, kK, i1, i2, i3, i4⟩ := Cond.instantiable_spec wi
  refine ⟨cell, cK, e1, i1, ?_⟩
  rw [Vm.notAssignable_of_chain e2 i1 i2 i3 (by simpa using (Bool.or_eq_false_iff.mp i4.1).1) hw hn]
  simp
theorem own_cache {s : State} {args : Array Value} {t : Term} {a : Addr} {K : String} {B : Jvm.Cond} (et : ∀ idx, t.eval args s none idx s = some (.ref a)) (hA : (Jvm.Cond.arrayOf t (.object K)).value args s none s [] = some true) (hL : (Jvm.Cond.eq (.length t) (.int 256)).value args s none s [] = some true)
    (h : (Jvm.Cond.all t (.and (.exactly (.elem t (.index 0)) K) B)).value args s none s [] = some true) : ∃ fc, own_A s s.heap a (.object K) 256 fc ∧ own_IC s s.heap K 256 fc := by
  obtain ⟨cl, A⟩ := Arr.start (et []) hA
  have ha := A.fin (Vm.Alike.refl _)
  have hl := own_eqv hL
  have hsz : cl.slots.size = 256 := by
    by_cases q : cl.slots.size < 2 ^ 31
    · rw [len_f (et []) ha q] at hl
      have e := congrArg Int32.toInt (Value.int.inj (Option.some.inj hl))
      rw [len_toInt q] at e
      have k : (256 : Int32).toInt = 256 := rfl
      omega
    · simp [Term.eval, et [], ha, q] at hl
  have hel : ∀ i, i < cl.slots.size → ∃ b : Addr, cl.slots[i]? = some (.ref b) ∧ Exa s s.heap b K := fun i hi => by
    have hj : ¬ i.toInt32 < 0 := fun z => (idx_in hi (by omega)) (Or.inl z)
    have hc : i.toInt32.toNatClampNeg = i := by
      rw [own_cl, len_toInt (by omega)]; rfl
    obtain ⟨u1, u2⟩ := and_e (Cond.all_elim (et []) ha h i hi)
    obtain ⟨b, eb⟩ := exa_v u1
    refine ⟨b, ?_, exa_at eb u1⟩
    have q := (elem_f (idx := [i]) (a := .index 0) (j := i.toInt32) (et _) (by have := idx_at (args := args) (s := s) (first := s) (o := none) hj; rwa [hc] at this) ha hj).symm.trans eb
    rwa [hc] at q
  refine ⟨fun i => (cl.slots[i]?).getD .null, ⟨cl, A, by rw [hsz]; rfl, by decide, fun i hi => ?_, fun i hi => ?_⟩, fun i hi => ?_⟩
  · obtain ⟨b, e, -⟩ := hel i hi; simp [e]
  · obtain ⟨b, e, -⟩ := hel i hi; simp [e, fits]
  · obtain ⟨b, e, E⟩ := hel i (by omega); exact ⟨b, by simp [e], E⟩
end OwnKit
theorem d1_0 : decode prog_36_method_4_code 0 = .ok (.aload_n 0, 1) := by decide +kernel
theorem d1_1 : decode prog_36_method_4_code 1 = .ok (.getstatic 3, 3) := by decide +kernel
theorem d1_4 : decode prog_36_method_4_code 4 = .ok (.if_acmp .ne 9, 3) := by decide +kernel
theorem d1_7 : decode prog_36_method_4_code 7 = .ok (.getstatic 7, 3) := by decide +kernel
theorem d1_10 : decode prog_36_method_4_code 10 = .ok (.goto 6, 3) := by decide +kernel
theorem d1_13 : decode prog_36_method_4_code 13 = .ok (.getstatic 3, 3) := by decide +kernel
theorem d1_16 : decode prog_36_method_4_code 16 = .ok (.areturn, 1) := by decide +kernel
theorem pn_0 : plainName "com/example/hordefall/hordefall/rules/barricade/Side" = true := by first | (simp [plainName, overriddenIn]; done) | decide +kernel
theorem ef_opp (m : MethodId) (a : Addr) : entryFrame m #[(.ref a)] 1 = mkF m 0 #[.val (.ref a)] [] := by first | (simp [entryFrame, mkF, argsToLocals, Value.category, maxLocals]; done) | rfl
def Q_opp (Z : State) (a : Addr) (zz : Addr) (hh : Addr) (h0 : Heap) (n0 : Nat) : Option Value → Heap → List Loc → Prop := fun v h L => v = some (.ref (if a = zz then hh else zz)) ∧ Fr n0 L ∧ h = h0
set_option maxRecDepth 65536 in
set_option maxHeartbeats 40000000 in
theorem rm_opp (l : Launch) (Z : State) (a0 : Array Value) (hw : ∀ d ∈ tables_1, d.before a0 Z = true) (ws : List Jvm.Cond) (a : Addr) (zz : Addr) (hh : Addr) (h0 : Heap) (n0 : Nat) (Z0 : n0 ≤ h0.size) (S_Z : Sta Z h0 "com/example/hordefall/hordefall/rules/barricade/Side" "ZOMBIES" "Lcom/example/hordefall/hordefall/rules/barricade/Side;" (.ref zz)) (S_H : Sta Z h0 "com/example/hordefall/hordefall/rules/barricade/Side" "HUMANS" "Lcom/example/hordefall/hordefall/rules/barricade/Side;" (.ref hh)) :
    MetFree l (⟨"com/example/hordefall/hordefall/rules/barricade/Side", "opponent", "()Lcom/example/hordefall/hordefall/rules/barricade/Side;"⟩ : MethodName) (head1 (Jvm.Cond.code (⟨"com/example/hordefall/hordefall/rules/barricade/Side", "opponent", "()Lcom/example/hordefall/hordefall/rules/barricade/Side;"⟩ : MethodName) prog_36_method_4_code 1 (some (.object "com/example/hordefall/hordefall/rules/barricade/Side")) :: ws) ({ frames := 0, cells := 0, slots := 0, locals := 0 } : Room)) (fun aX U => aX = #[(.ref a)] ∧ Z.Warmed39 U.vm ∧ U.heap = h0) (fun _ _ _ _ _ => True) (fun _ U o U' => ∃ v L, o = .returned v ∧ (Q_opp Z a zz hh h0 n0) v U'.heap L ∧ FrameEnd U o U' L ({ frames := 0, cells := 0, slots := 0, locals := 0 } : Room).cells ({ frames := 0, cells := 0, slots := 0, locals := 0 } : Room).slots) := by
  refine own_met (Q := (Q_opp Z a zz hh h0 n0)) (plainFor_of_name (x := (⟨"com/example/hordefall/hordefall/rules/barricade/Side", "opponent", "()Lcom/example/hordefall/hordefall/rules/barricade/Side;"⟩ : MethodName)) pn_0) (fun m => ef_opp m a) ?_
  intro p e s m below meth cD s₁ hx hby hml hret hlk hZ hown hnm X0 e0 hs0
  have hown : s.vm.findClass "com/example/hordefall/hordefall/rules/barricade/Side" = some m.cls := hown
  have N0 := Fr.nil n0
  refine own_st (fr' := (mkF m 1 #[.val (.ref a)] [(.ref a)])) (fun t k => XS.aloadN X0.here hx rfl (hb hby d1_0) rfl rfl k) ?_
  obtain ⟨T1, X1, e1, st1⟩ := getS2 X0 hx hZ hown (host := "") (Or.inl (hw _ (List.mem_of_getElem? (i := 8) rfl))) Via.refl e0 S_Z (g := (mkF m 1 #[.val (.ref a)] [(.ref a)])) rfl (hb hby d1_1)
  refine own_st (fr' := (mkF m 4 #[.val (.ref a)] [(.ref zz), (.ref a)])) st1 ?_
  by_cases hac : (Value.ref a) = (Value.ref zz)
  · refine own_st (fr' := (mkF m 7 #[.val (.ref a)] [])) (fun t k => Jvm.RoadKit.acmp (g := (mkF m 4 #[.val (.ref a)] [(.ref zz), (.ref a)])) X1 hx rfl rfl rfl (pc0 := 4) (pc' := 7) (same := true) rfl (hb hby d1_4) rfl (decide_eq_true hac) (by decide) (by decide) k) ?_
    obtain ⟨T2, X2, e2, st2⟩ := getS2 X1 hx hZ hown (host := "") (Or.inl (hw _ (List.mem_of_getElem? (i := 9) rfl))) Via.refl e1 S_H (g := (mkF m 7 #[.val (.ref a)] [])) rfl (hb hby d1_7)
    refine own_st (fr' := (mkF m 10 #[.val (.ref a)] [(.ref hh)])) st2 ?_
    refine own_st (fr' := (mkF m 16 #[.val (.ref a)] [(.ref hh)])) (fun t k => XS.goto X2.here hx rfl (pc0 := 10) (pc' := 16) rfl (hb hby d1_10) (by decide) (by decide) k) ?_
    have hac' : a = zz := Value.ref.inj hac
    exact own_retA X2 hx hlk hret rfl rfl (hb hby d1_16) (by decide) (by decide) (⟨by rw [if_pos hac'], N0, e2⟩)
  · refine own_st (fr' := (mkF m 13 #[.val (.ref a)] [])) (fun t k => Jvm.RoadKit.acmp (g := (mkF m 4 #[.val (.ref a)] [(.ref zz), (.ref a)])) X1 hx rfl rfl rfl (pc0 := 4) (pc' := 13) (same := false) rfl (hb hby d1_4) rfl (decide_eq_false hac) (by decide) (by decide) k) ?_
    obtain ⟨T3, X3, e3, st3⟩ := getS2 X1 hx hZ hown (host := "") (Or.inl (hw _ (List.mem_of_getElem? (i := 8) rfl))) Via.refl e1 S_Z (g := (mkF m 13 #[.val (.ref a)] [])) rfl (hb hby d1_13)
    refine own_st (fr' := (mkF m 16 #[.val (.ref a)] [(.ref zz)])) st3 ?_
    have hac' : ¬ a = zz := fun q => hac (congrArg Value.ref q)
    exact own_retA X3 hx hlk hret rfl rfl (hb hby d1_16) (by decide) (by decide) (⟨by rw [if_neg hac'], N0, e3⟩)
theorem pd_0 : parseMethodDescriptor "()Lcom/example/hordefall/hordefall/rules/barricade/Side;" = some ⟨[], some (.object "com/example/hordefall/hordefall/rules/barricade/Side")⟩ := by decide +kernel
theorem pn_1 : plainName "com/example/hordefall/hordefall/rules/barricade/SideOpponentPinLaw" = true := by first | (simp [plainName, overriddenIn]; done) | decide +kernel
theorem ef_law (m : MethodId) (p0 : Int32) : entryFrame m #[(.int p0)] maxLocals = mkF m 0 #[.val (.int p0), .unset, .unset] [] := by first | (simp [entryFrame, mkF, argsToLocals, Value.category, maxLocals]; done) | rfl
def Q_law (Z : State) (p0 : Int32) (zz : Addr) (hh : Addr) (h0 : Heap) (n0 : Nat) : Option Value → Heap → List Loc → Prop := fun v h L => v = some (.int 1) ∧ Fr n0 L
set_option maxRecDepth 65536 in
set_option maxHeartbeats 40000000 in
theorem rm_law (l : Launch) (Z : State) (a0 : Array Value) (hw : ∀ d ∈ tables_1, d.before a0 Z = true) (ws : List Jvm.Cond) (p0 : Int32) (zz : Addr) (hh : Addr) (h0 : Heap) (n0 : Nat) (Z0 : n0 ≤ h0.size) (S_Z : Sta Z h0 "com/example/hordefall/hordefall/rules/barricade/Side" "ZOMBIES" "Lcom/example/hordefall/hordefall/rules/barricade/Side;" (.ref zz)) (S_H : Sta Z h0 "com/example/hordefall/hordefall/rules/barricade/Side" "HUMANS" "Lcom/example/hordefall/hordefall/rules/barricade/Side;" (.ref hh)) (E_Z : Exa Z h0 zz "com/example/hordefall/hordefall/rules/barricade/Side") (E_H : Exa Z h0 hh "com/example/hordefall/hordefall/rules/barricade/Side") (hne : hh ≠ zz) :
    MetFree l x (head1 (Jvm.Cond.code x code maxLocals ret :: ws) room_1) (fun aX U => aX = #[(.int p0)] ∧ Z.Warmed39 U.vm ∧ U.heap = h0) (fun _ _ _ _ _ => True) (fun _ U o U' => ∃ v L, o = .returned v ∧ (Q_law Z p0 zz hh h0 n0) v U'.heap L ∧ FrameEnd U o U' L room_1.cells room_1.slots) := by
  refine own_met (Q := (Q_law Z p0 zz hh h0 n0)) (plainFor_of_name (x := x) pn_1) (fun m => ef_law m p0) ?_
  intro p e s m below meth cD s₁ hx hby hml hret hlk hZ hown hnm X0 e0 hs0
  have hml : cD.maxLocals = 3 := hml
  have hown : s.vm.findClass "com/example/hordefall/hordefall/rules/barricade/SideOpponentPinLaw" = some m.cls := hown
  have N0 := Fr.nil n0
  refine own_st (fr' := (mkF m 1 #[.val (.int p0), .unset, .unset] [(.int p0)])) (fun t k => XS.iloadN X0.here hx rfl (hb hby at_0) rfl  k) ?_
  refine own_st (fr' := (mkF m 2 #[.val (.int p0), .unset, .unset] [(.int (1 : Int32)), (.int p0)])) (fun t k => XS.iconst X0.here hx rfl (hb hby at_1) k) ?_
  refine own_st (fr' := (mkF m 3 #[.val (.int p0), .unset, .unset] [(.int (p0 &&& (1 : Int32)))])) (fun t k => XS.iand X0.here hx rfl (hb hby at_2) rfl k) ?_
  by_cases hfl : (p0 &&& (1 : Int32)).toInt = 0
  · refine own_st (fr' := (mkF m 12 #[.val (.int p0), .unset, .unset] [])) (fun t k => XS.ifYes X0.here hx rfl (pc0 := 3) (pc' := 12) rfl (hb hby at_3) rfl ((if0 _ _).trans (own_teq (x := (p0 &&& (1 : Int32))) (y := (0 : Int32)) hfl).1) (by decide) (by decide) k) ?_
    obtain ⟨T4, X4, e4, st4⟩ := getS2 X0 hx hZ hown (host := "") (Or.inl (hw _ (List.mem_of_getElem? (i := 0) rfl))) Via.refl e0 S_Z (g := (mkF m 12 #[.val (.int p0), .unset, .unset] [])) rfl (hb hby at_12)
    refine own_st (fr' := (mkF m 15 #[.val (.int p0), .unset, .unset] [(.ref zz)])) st4 ?_
    refine own_st (fr' := (mkF m 16 #[.val (.int p0), .val (.ref zz), .unset] [])) (fun t k => XS.astoreN X4.here hx rfl (hb hby at_15) rfl rfl (l' := #[.val (.int p0), .val (.ref zz), .unset]) rfl k) ?_
    refine own_st (fr' := (mkF m 17 #[.val (.int p0), .val (.ref zz), .unset] [(.ref zz)])) (fun t k => XS.aloadN X4.here hx rfl (hb hby at_16) rfl rfl k) ?_
    refine own_callV X4 hx hZ (y := (⟨"com/example/hordefall/hordefall/rules/barricade/Side", "opponent", "()Lcom/example/hordefall/hordefall/rules/barricade/Side;"⟩ : MethodName)) (z := (⟨"com/example/hordefall/hordefall/rules/barricade/Side", "opponent", "()Lcom/example/hordefall/hordefall/rules/barricade/Side;"⟩ : MethodName)) hown (hw _ (List.mem_of_getElem? (i := 3) rfl)) (hw _ (List.mem_of_getElem? (i := 4) rfl)) (notFace_of_selects (args := #[]) (mvT hZ (hw _ (List.mem_of_getElem? (i := 6) rfl)))) (hw _ (List.mem_of_getElem? (i := 6) rfl)) (hw _ (List.mem_of_getElem? (i := 5) rfl)) (hw _ (List.mem_of_getElem? (i := 1) rfl)) (hw _ (List.mem_of_getElem? (i := 7) rfl)) (by decide) (a := zz) (argsL := []) (rest := []) (W := 0) (rm_opp l Z a0 hw [] zz zz hh h0 n0 Z0 S_Z S_H) e4 E_Z (by rw [hml]; rfl) (lenOf pd_0 rfl) rfl (Nat.le_of_eq rfl) (hb hby at_17) (by decide) (by decide) (by decide) (by decide) ?_
    intro v5 T5 L5 X5 hQ5
    obtain ⟨rfl, Nq5, eq5⟩ := hQ5
    have N5 := Fr.app N0 Nq5
    rw [show (if zz = zz then hh else zz) = hh from if_pos rfl]
    refine own_st (fr' := (mkF m 21 #[.val (.int p0), .val (.ref zz), .val (.ref hh)] [])) (fun t k => XS.astoreN X5.here hx rfl (hb hby at_20) rfl rfl (l' := #[.val (.int p0), .val (.ref zz), .val (.ref hh)]) rfl k) ?_
    refine own_st (fr' := (mkF m 22 #[.val (.int p0), .val (.ref zz), .val (.ref hh)] [(.ref hh)])) (fun t k => XS.aloadN X5.here hx rfl (hb hby at_21) rfl rfl k) ?_
    refine own_st (fr' := (mkF m 27 #[.val (.int p0), .val (.ref zz), .val (.ref hh)] [])) (fun t k => XS.ifnonnullYes X5.here hx rfl (pc0 := 22) (pc' := 27) rfl (hb hby at_22) rfl (by decide) (by decide) k) ?_
    refine own_st (fr' := (mkF m 28 #[.val (.int p0), .val (.ref zz), .val (.ref hh)] [(.ref hh)])) (fun t k => XS.aloadN X5.here hx rfl (hb hby at_27) rfl rfl k) ?_
    refine own_st (fr' := (mkF m 29 #[.val (.int p0), .val (.ref zz), .val (.ref hh)] [(.ref zz), (.ref hh)])) (fun t k => XS.aloadN X5.here hx rfl (hb hby at_28) rfl rfl k) ?_
    refine own_st (fr' := (mkF m 34 #[.val (.int p0), .val (.ref zz), .val (.ref hh)] [])) (fun t k => Jvm.RoadKit.acmp (g := (mkF m 29 #[.val (.int p0), .val (.ref zz), .val (.ref hh)] [(.ref zz), (.ref hh)])) X5 hx rfl rfl rfl (pc0 := 29) (pc' := 34) (same := false) rfl (hb hby at_29) rfl (decide_eq_false (show ¬ (Value.ref hh) = (Value.ref zz) from fun q => hne (Value.ref.inj q))) (by decide) (by decide) k) ?_
    refine own_st (fr' := (mkF m 35 #[.val (.int p0), .val (.ref zz), .val (.ref hh)] [(.ref hh)])) (fun t k => XS.aloadN X5.here hx rfl (hb hby at_34) rfl rfl k) ?_
    refine own_callV X5 hx hZ (y := (⟨"com/example/hordefall/hordefall/rules/barricade/Side", "opponent", "()Lcom/example/hordefall/hordefall/rules/barricade/Side;"⟩ : MethodName)) (z := (⟨"com/example/hordefall/hordefall/rules/barricade/Side", "opponent", "()Lcom/example/hordefall/hordefall/rules/barricade/Side;"⟩ : MethodName)) hown (hw _ (List.mem_of_getElem? (i := 3) rfl)) (hw _ (List.mem_of_getElem? (i := 4) rfl)) (notFace_of_selects (args := #[]) (mvT hZ (hw _ (List.mem_of_getElem? (i := 6) rfl)))) (hw _ (List.mem_of_getElem? (i := 6) rfl)) (hw _ (List.mem_of_getElem? (i := 5) rfl)) (hw _ (List.mem_of_getElem? (i := 1) rfl)) (hw _ (List.mem_of_getElem? (i := 7) rfl)) (by decide) (a := hh) (argsL := []) (rest := []) (W := 0) (rm_opp l Z a0 hw [] hh zz hh h0 n0 Z0 S_Z S_H) eq5 E_H (by rw [hml]; rfl) (lenOf pd_0 rfl) rfl (Nat.le_of_eq rfl) (hb hby at_35) (by decide) (by decide) (by decide) (by decide) ?_
    intro v6 T6 L6 X6 hQ6
    obtain ⟨rfl, Nq6, eq6⟩ := hQ6
    have N6 := Fr.app N5 Nq6
    rw [show (if hh = zz then hh else zz) = zz from if_neg hne]
    refine own_st (fr' := (mkF m 39 #[.val (.int p0), .val (.ref zz), .val (.ref hh)] [(.ref zz), (.ref zz)])) (fun t k => XS.aloadN X6.here hx rfl (hb hby at_38) rfl rfl k) ?_
    refine own_st (fr' := (mkF m 42 #[.val (.int p0), .val (.ref zz), .val (.ref hh)] [])) (fun t k => Jvm.RoadKit.acmp (g := (mkF m 39 #[.val (.int p0), .val (.ref zz), .val (.ref hh)] [(.ref zz), (.ref zz)])) X6 hx rfl rfl rfl (pc0 := 39) (pc' := 42) (same := true) rfl (hb hby at_39) rfl (decide_eq_true (show (Value.ref zz) = (Value.ref zz) from rfl)) (by decide) (by decide) k) ?_
    refine own_st (fr' := (mkF m 43 #[.val (.int p0), .val (.ref zz), .val (.ref hh)] [(.int (1 : Int32))])) (fun t k => XS.iconst X6.here hx rfl (hb hby at_42) k) ?_
    refine own_st (fr' := (mkF m 47 #[.val (.int p0), .val (.ref zz), .val (.ref hh)] [(.int (1 : Int32))])) (fun t k => XS.goto X6.here hx rfl (pc0 := 43) (pc' := 47) rfl (hb hby at_43) (by decide) (by decide) k) ?_
    exact own_retZ X6 hx hlk hret (Or.inr rfl) (hb hby at_47) (by decide) (by decide) (⟨rfl, N6⟩)
  · refine own_st (fr' := (mkF m 6 #[.val (.int p0), .unset, .unset] [])) (fun t k => XS.ifNo X0.here hx rfl (hb hby at_3) rfl ((if0 _ _).trans (own_feq (x := (p0 &&& (1 : Int32))) (y := (0 : Int32)) hfl).1) k) ?_
    obtain ⟨T7, X7, e7, st7⟩ := getS2 X0 hx hZ hown (host := "") (Or.inl (hw _ (List.mem_of_getElem? (i := 11) rfl))) Via.refl e0 S_H (g := (mkF m 6 #[.val (.int p0), .unset, .unset] [])) rfl (hb hby at_6)
    refine own_st (fr' := (mkF m 9 #[.val (.int p0), .unset, .unset] [(.ref hh)])) st7 ?_
    refine own_st (fr' := (mkF m 15 #[.val (.int p0), .unset, .unset] [(.ref hh)])) (fun t k => XS.goto X7.here hx rfl (pc0 := 9) (pc' := 15) rfl (hb hby at_9) (by decide) (by decide) k) ?_
    refine own_st (fr' := (mkF m 16 #[.val (.int p0), .val (.ref hh), .unset] [])) (fun t k => XS.astoreN X7.here hx rfl (hb hby at_15) rfl rfl (l' := #[.val (.int p0), .val (.ref hh), .unset]) rfl k) ?_
    refine own_st (fr' := (mkF m 17 #[.val (.int p0), .val (.ref hh), .unset] [(.ref hh)])) (fun t k => XS.aloadN X7.here hx rfl (hb hby at_16) rfl rfl k) ?_
    refine own_callV X7 hx hZ (y := (⟨"com/example/hordefall/hordefall/rules/barricade/Side", "opponent", "()Lcom/example/hordefall/hordefall/rules/barricade/Side;"⟩ : MethodName)) (z := (⟨"com/example/hordefall/hordefall/rules/barricade/Side", "opponent", "()Lcom/example/hordefall/hordefall/rules/barricade/Side;"⟩ : MethodName)) hown (hw _ (List.mem_of_getElem? (i := 3) rfl)) (hw _ (List.mem_of_getElem? (i := 4) rfl)) (notFace_of_selects (args := #[]) (mvT hZ (hw _ (List.mem_of_getElem? (i := 6) rfl)))) (hw _ (List.mem_of_getElem? (i := 6) rfl)) (hw _ (List.mem_of_getElem? (i := 5) rfl)) (hw _ (List.mem_of_getElem? (i := 1) rfl)) (hw _ (List.mem_of_getElem? (i := 7) rfl)) (by decide) (a := hh) (argsL := []) (rest := []) (W := 0) (rm_opp l Z a0 hw [] hh zz hh h0 n0 Z0 S_Z S_H) e7 E_H (by rw [hml]; rfl) (lenOf pd_0 rfl) rfl (Nat.le_of_eq rfl) (hb hby at_17) (by decide) (by decide) (by decide) (by decide) ?_
    intro v8 T8 L8 X8 hQ8
    obtain ⟨rfl, Nq8, eq8⟩ := hQ8
    have N8 := Fr.app N0 Nq8
    rw [show (if hh = zz then hh else zz) = zz from if_neg hne]
    refine own_st (fr' := (mkF m 21 #[.val (.int p0), .val (.ref hh), .val (.ref zz)] [])) (fun t k => XS.astoreN X8.here hx rfl (hb hby at_20) rfl rfl (l' := #[.val (.int p0), .val (.ref hh), .val (.ref zz)]) rfl k) ?_
    refine own_st (fr' := (mkF m 22 #[.val (.int p0), .val (.ref hh), .val (.ref zz)] [(.ref zz)])) (fun t k => XS.aloadN X8.here hx rfl (hb hby at_21) rfl rfl k) ?_
    refine own_st (fr' := (mkF m 27 #[.val (.int p0), .val (.ref hh), .val (.ref zz)] [])) (fun t k => XS.ifnonnullYes X8.here hx rfl (pc0 := 22) (pc' := 27) rfl (hb hby at_22) rfl (by decide) (by decide) k) ?_
    refine own_st (fr' := (mkF m 28 #[.val (.int p0), .val (.ref hh), .val (.ref zz)] [(.ref zz)])) (fun t k => XS.aloadN X8.here hx rfl (hb hby at_27) rfl rfl k) ?_
    refine own_st (fr' := (mkF m 29 #[.val (.int p0), .val (.ref hh), .val (.ref zz)] [(.ref hh), (.ref zz)])) (fun t k => XS.aloadN X8.here hx rfl (hb hby at_28) rfl rfl k) ?_
    refine own_st (fr' := (mkF m 34 #[.val (.int p0), .val (.ref hh), .val (.ref zz)] [])) (fun t k => Jvm.RoadKit.acmp (g := (mkF m 29 #[.val (.int p0), .val (.ref hh), .val (.ref zz)] [(.ref hh), (.ref zz)])) X8 hx rfl rfl rfl (pc0 := 29) (pc' := 34) (same := false) rfl (hb hby at_29) rfl (decide_eq_false (show ¬ (Value.ref zz) = (Value.ref hh) from fun q => hne.symm (Value.ref.inj q))) (by decide) (by decide) k) ?_
    refine own_st (fr' := (mkF m 35 #[.val (.int p0), .val (.ref hh), .val (.ref zz)] [(.ref zz)])) (fun t k => XS.aloadN X8.here hx rfl (hb hby at_34) rfl rfl k) ?_
    refine own_callV X8 hx hZ (y := (⟨"com/example/hordefall/hordefall/rules/barricade/Side", "opponent", "()Lcom/example/hordefall/hordefall/rules/barricade/Side;"⟩ : MethodName)) (z := (⟨"com/example/hordefall/hordefall/rules/barricade/Side", "opponent", "()Lcom/example/hordefall/hordefall/rules/barricade/Side;"⟩ : MethodName)) hown (hw _ (List.mem_of_getElem? (i := 3) rfl)) (hw _ (List.mem_of_getElem? (i := 4) rfl)) (notFace_of_selects (args := #[]) (mvT hZ (hw _ (List.mem_of_getElem? (i := 6) rfl)))) (hw _ (List.mem_of_getElem? (i := 6) rfl)) (hw _ (List.mem_of_getElem? (i := 5) rfl)) (hw _ (List.mem_of_getElem? (i := 1) rfl)) (hw _ (List.mem_of_getElem? (i := 7) rfl)) (by decide) (a := zz) (argsL := []) (rest := []) (W := 0) (rm_opp l Z a0 hw [] zz zz hh h0 n0 Z0 S_Z S_H) eq8 E_Z (by rw [hml]; rfl) (lenOf pd_0 rfl) rfl (Nat.le_of_eq rfl) (hb hby at_35) (by decide) (by decide) (by decide) (by decide) ?_
    intro v9 T9 L9 X9 hQ9
    obtain ⟨rfl, Nq9, eq9⟩ := hQ9
    have N9 := Fr.app N8 Nq9
    rw [show (if zz = zz then hh else zz) = hh from if_pos rfl]
    refine own_st (fr' := (mkF m 39 #[.val (.int p0), .val (.ref hh), .val (.ref zz)] [(.ref hh), (.ref hh)])) (fun t k => XS.aloadN X9.here hx rfl (hb hby at_38) rfl rfl k) ?_
    refine own_st (fr' := (mkF m 42 #[.val (.int p0), .val (.ref hh), .val (.ref zz)] [])) (fun t k => Jvm.RoadKit.acmp (g := (mkF m 39 #[.val (.int p0), .val (.ref hh), .val (.ref zz)] [(.ref hh), (.ref hh)])) X9 hx rfl rfl rfl (pc0 := 39) (pc' := 42) (same := true) rfl (hb hby at_39) rfl (decide_eq_true (show (Value.ref hh) = (Value.ref hh) from rfl)) (by decide) (by decide) k) ?_
    refine own_st (fr' := (mkF m 43 #[.val (.int p0), .val (.ref hh), .val (.ref zz)] [(.int (1 : Int32))])) (fun t k => XS.iconst X9.here hx rfl (hb hby at_42) k) ?_
    refine own_st (fr' := (mkF m 47 #[.val (.int p0), .val (.ref hh), .val (.ref zz)] [(.int (1 : Int32))])) (fun t k => XS.goto X9.here hx rfl (pc0 := 43) (pc' := 47) rfl (hb hby at_43) (by decide) (by decide) k) ?_
    exact own_retZ X9 hx hlk hret (Or.inr rfl) (hb hby at_47) (by decide) (by decide) (⟨rfl, N9⟩)
set_option maxRecDepth 65536 in
set_option maxHeartbeats 40000000 in
theorem comes_1 {Post : Tables → Env → Array Value → State → Outcome → State → Prop} (hpost : ∀ tb e args s v u, (limb_1_1.after args s (.returned v) u = true ∧ limb_1_2.after args s (.returned v) u = true ∧ True) → FrameEnd s (.returned v) u (Jvm.fieldLocs frame_1_writes args s ++ Jvm.arrayLocs frame_1_arrays args s ++ Jvm.staticLocs frame_1_statics s) 0 0 → Post tb e args s (.returned v) u) :
    ArmFor flags0 classFile x code maxLocals ret World_1 tables_1 room_1 Calls_1 rest_1 Pre_1 Post := by
  intro l hfl _ _ p e ha hc hk s m args below hf hA hF happ hP
  obtain ⟨hcalls, hrest, hpre⟩ := hP
  obtain ⟨-, -, -, hnamed, -, -, -, hat⟩ := (Spec.applies_iff hf).mp happ
  obtain ⟨hg, hn⟩ := and_e (Cond.before_iff.mp (show (Jvm.Cond.and given_1 narrow_1).before args s = true from hpre))
  obtain ⟨hcount, ha0⟩ := and_e hg
  have hi0 := ha0
  obtain ⟨w0, rfl⟩ : ∃ w0 : Value, args = #[w0] := by
    have hs : args.size = 1 := by simpa [Cond.value, given_1] using hcount
    obtain ⟨L⟩ := args
    match L, hs with
    | [w0], _ => exact ⟨w0, rfl⟩
  have hw := fun d (hd : d ∈ tables_1) => atoms_spec (ws := Jvm.Cond.code x code maxLocals ret :: tables_1) hat d (List.mem_cons_of_mem _ hd)
  have hfit : Fit s := fun {y c} hc i hi => by
    obtain ⟨ha, rfl⟩ := Array.getElem?_eq_some_iff.mp hc
    have q := List.all_eq_true.mp ((Array.all_eq_true_iff_forall_mem.mp hF) _ (Array.getElem_mem ha)) i (List.mem_range.mpr hi)
    simpa [Array.getElem?_eq_getElem hi] using q
  obtain ⟨i0, ei0⟩ := is_v hi0
  obtain rfl : w0 = (.int i0) := Option.some.inj ei0
  obtain ⟨n1, nA⟩ := and_e hn
  obtain ⟨n2, nB⟩ := and_e nA
  obtain ⟨n3, n4⟩ := and_e nB
  obtain ⟨zz, ez⟩ := exa_v n1
  obtain ⟨hh, eh⟩ := exa_v n2
  have E_Z := exa_at ez n1
  have E_H := exa_at eh n2
  have S_Z := Sta.start ez (Or.inr ⟨(hw _ (List.mem_of_getElem? (i := 1) rfl)), (hw _ (List.mem_of_getElem? (i := 2) rfl))⟩)
  have S_H := Sta.start eh (Or.inr ⟨(hw _ (List.mem_of_getElem? (i := 1) rfl)), (hw _ (List.mem_of_getElem? (i := 10) rfl))⟩)
  have hne : hh ≠ zz := Fld.ne (own_fldeq eh n3) (own_fldeq ez n4) (by decide)
  obtain ⟨n, o, h1, h2, h3, _, L, rfl, ⟨rfl, N⟩, hq⟩ := rm_law l s _ hw tables_1 i0 zz hh s.heap s.heap.size (Nat.le_refl _) S_Z S_H E_Z E_H hne p e ha hc hk s m _ below hf ((Spec.applies_iff_loose hf).mp happ).1 ⟨rfl, State.Warmed39.refl s, rfl⟩ trivial
  refine ⟨n, _, h1, h2, h3, hpost _ _ _ _ _ _ ⟨Cond.after_iff.mpr rfl, Cond.after_iff.mpr (eq_i res_at (Term.int_eval (1)) rfl), trivial⟩ ⟨hq.1, hq.2.1, (hq.2.2.sift fun y hy => Or.inr (N y hy)).mono (by decide) (by decide)⟩⟩
theorem main_1_1 : Claimed_1_1 := comes_1 fun _ _ _ _ _ _ h hF => ⟨h.1, hF⟩
theorem main_1_2 : Claimed_1_2 := comes_1 fun _ _ _ _ _ _ h hF => ⟨h.2.1, hF⟩
end Jvm.Pilot.@@N@@
namespace Jvm.Pilot.@@N@@
open Jvm Jvm.ClassFile Sem Op Lib Jvm.Free Jvm.Stand Jvm.Pilot.@@N@@.Jvm.D
/-! MADE BY PROGRAM (witnessworld.py) out of the Statement's table words and the real class files: 12 classes; the members and pool entries that the words name. The judged class is class 1, her method 1. -/
namespace start1
open Jvm.ClassFile
def u (s : String) : CpInfo := .utf8 (stringToUtf16 s)
/-- a pool by its gaps: so many unusable entries, then the entry; so many at the end -/
def gap : Nat → List CpInfo → List CpInfo
  | 0, r => r
  | n + 1, r => .unusable :: gap n r
def poolList (es : List (Nat × CpInfo)) (last : Nat) : List CpInfo := es.foldr (fun e r => gap e.1 (e.2 :: r)) (gap last [])
def pool (es : List (Nat × CpInfo)) (last : Nat) : Array CpInfo := ⟨poolList es last⟩
def fileOf (pool : Array CpInfo) (this : Nat) (attrs : Array Attribute := #[]) (ms : Array MethodInfo := #[]) (fl : Nat := 33) (sup : Nat := 0) (ifs : Array Nat := #[]) (fds : Array FieldInfo := #[]) : ClassFile where
  minorVersion := 0
  majorVersion := 65
  constantPool := pool
  accessFlags := fl
  thisClass := this
  superClass := sup
  interfaces := ifs
  fields := fds
  methods := ms
  attributes := attrs
def plain (name : String) (sup : Option ClassId) : Class where
  name := name
  kind := .ordinary
  loader := none
  accessFlags := 33
  super := sup
  interfaces := #[]
  cf := none
  fields := #[]
  methods := #[]
  instanceTypes := #[]
  staticTypes := #[]
  resolved := #[]
  callSites := []
  init := .initialized
  statics := none
  mirror := none

def pool0 : Array CpInfo := pool [(5, u "<init>"), (0, u "()V"), (1, .class_ 10), (1, u "java/lang/Object")] 113

def k0m0 : Method := { name := "<init>", desc := "()V", sig := { parameters := [], returnType := none }, accessFlags := 1, code := none }
/-- java/lang/Object -/
def k0 : Class := { plain "java/lang/Object" none with
  accessFlags := 33
  interfaces := #[]
  cf := some (fileOf pool0 8 #[] #[{ accessFlags := 1, nameIndex := 5, descriptorIndex := 6, attributes := #[] }] 33 0 #[] #[])
  fields := #[]
  methods := #[k0m0]
  instanceTypes := #[]
  staticTypes := #[]
  resolved := Array.replicate 124 none
  statics := none }

def pool1 : Array CpInfo := pool [(2, .class_ 4), (1, u "java/lang/Object"), (0, u "<init>"), (0, u "()V"), (0, .fieldref 8 9), (0, .class_ 10), (0, .nameAndType 11 12), (0, u "com/example/hordefall/hordefall/rules/barricade/Side"), (0, u "HUMANS"), (0, u "Lcom/example/hordefall/hordefall/rules/barricade/Side;"), (0, .fieldref 8 14), (0, .nameAndType 15 12), (0, u "ZOMBIES"), (0, .methodref 8 17), (0, .nameAndType 18 19), (0, u "opponent"), (0, u "()Lcom/example/hordefall/hordefall/rules/barricade/Side;"), (0, .class_ 21), (0, u "com/example/hordefall/hordefall/rules/barricade/SideOpponentPinLaw"), (2, u "law"), (0, u "(I)Z")] 3

def k1m0 : Method := { name := "<init>", desc := "()V", sig := { parameters := [], returnType := none }, accessFlags := 1, code := none }
def k1c1 : Code := { maxStack := 2, maxLocals := 3, code := code, exceptionTable := #[], attributes := #[] }
def k1m1 : Method := { name := "law", desc := "(I)Z", sig := { parameters := [.int], returnType := some .boolean }, accessFlags := 9, code := some k1c1 }
/-- com/example/hordefall/hordefall/rules/barricade/SideOpponentPinLaw -/
def k1 : Class := { plain "com/example/hordefall/hordefall/rules/barricade/SideOpponentPinLaw" (some 0) with
  accessFlags := 49
  interfaces := #[]
  cf := some (fileOf pool1 20 #[] #[{ accessFlags := 1, nameIndex := 5, descriptorIndex := 6, attributes := #[] }, { accessFlags := 9, nameIndex := 24, descriptorIndex := 25, attributes := #[] }] 49 2 #[] #[])
  fields := #[]
  methods := #[k1m0, k1m1]
  instanceTypes := #[]
  staticTypes := #[]
  resolved := Array.replicate 29 none
  statics := none }

def pool2 : Array CpInfo := pool [(1, .class_ 2), (0, u "java/lang/constant/Constable"), (0, .class_ 4), (0, u "java/lang/Object")] 6

/-- java/lang/constant/Constable -/
def k2 : Class := { plain "java/lang/constant/Constable" (some 0) with
  accessFlags := 1537
  interfaces := #[]
  cf := some (fileOf pool2 1 #[] #[] 1537 3 #[] #[])
  fields := #[]
  methods := #[]
  instanceTypes := #[]
  staticTypes := #[]
  resolved := Array.replicate 11 none
  statics := none }

def pool3 : Array CpInfo := pool [(1, .class_ 2), (0, u "java/lang/Comparable"), (0, .class_ 4), (0, u "java/lang/Object")] 7

/-- java/lang/Comparable -/
def k3 : Class := { plain "java/lang/Comparable" (some 0) with
  accessFlags := 1537
  interfaces := #[]
  cf := some (fileOf pool3 1 #[] #[] 1537 3 #[] #[])
  fields := #[]
  methods := #[]
  instanceTypes := #[]
  staticTypes := #[]
  resolved := Array.replicate 12 none
  statics := none }

def pool4 : Array CpInfo := pool [(1, .class_ 2), (0, u "java/io/Serializable"), (0, .class_ 4), (0, u "java/lang/Object")] 2

/-- java/io/Serializable -/
def k4 : Class := { plain "java/io/Serializable" (some 0) with
  accessFlags := 1537
  interfaces := #[]
  cf := some (fileOf pool4 1 #[] #[] 1537 3 #[] #[])
  fields := #[]
  methods := #[]
  instanceTypes := #[]
  staticTypes := #[]
  resolved := Array.replicate 7 none
  statics := none }

def pool5 : Array CpInfo := pool [(2, .class_ 4), (1, u "java/lang/Enum"), (0, u "name"), (0, u "Ljava/lang/String;"), (2, u "ordinal"), (0, u "I"), (1, .class_ 14), (1, u "java/lang/Object"), (4, u "hash"), (86, .class_ 108), (1, u "java/lang/Enum$EnumDesc"), (2, .class_ 112), (0, u "java/lang/constant/Constable"), (0, .class_ 114), (0, u "java/lang/Comparable"), (0, .class_ 116), (0, u "java/io/Serializable")] 87

/-- java/lang/Enum -/
def k5 : Class := { plain "java/lang/Enum" (some 0) with
  accessFlags := 1057
  interfaces := #[2, 3, 4]
  cf := some (fileOf pool5 2 #[.nestMembers #[106]] #[] 1057 12 #[111, 113, 115] #[{ accessFlags := 18, nameIndex := 5, descriptorIndex := 6, attributes := #[] }, { accessFlags := 18, nameIndex := 9, descriptorIndex := 10, attributes := #[] }, { accessFlags := 2, nameIndex := 19, descriptorIndex := 10, attributes := #[] }])
  fields := #[{ name := "name", type := (.object "java/lang/String"), accessFlags := 18, slot := 0, constantValue := 0 }, { name := "ordinal", type := .int, accessFlags := 18, slot := 1, constantValue := 0 }, { name := "hash", type := .int, accessFlags := 2, slot := 2, constantValue := 0 }]
  methods := #[]
  instanceTypes := #[(.object "java/lang/String"), .int, .int]
  staticTypes := #[]
  resolved := Array.replicate 204 none
  statics := none }

def pool6 : Array CpInfo := pool [(1, .class_ 2), (0, u "com/example/hordefall/hordefall/rules/barricade/Side"), (0, .fieldref 1 4), (0, .nameAndType 5 6), (0, u "ZOMBIES"), (0, u "Lcom/example/hordefall/hordefall/rules/barricade/Side;"), (0, .fieldref 1 8), (0, .nameAndType 9 6), (0, u "HUMANS"), (2, u "$VALUES"), (0, u "[Lcom/example/hordefall/hordefall/rules/barricade/Side;"), (6, .class_ 22), (1, u "java/lang/Enum"), (20, u "opponent"), (0, u "()Lcom/example/hordefall/hordefall/rules/barricade/Side;")] 5

def k6c0 : Code := { maxStack := 2, maxLocals := 1, code := prog_36_method_4_code, exceptionTable := #[], attributes := #[] }
def k6m0 : Method := { name := "opponent", desc := "()Lcom/example/hordefall/hordefall/rules/barricade/Side;", sig := { parameters := [], returnType := some (.object "com/example/hordefall/hordefall/rules/barricade/Side") }, accessFlags := 1, code := some k6c0 }
/-- com/example/hordefall/hordefall/rules/barricade/Side -/
def k6 : Class := { plain "com/example/hordefall/hordefall/rules/barricade/Side" (some 5) with
  accessFlags := 16433
  interfaces := #[]
  cf := some (fileOf pool6 1 #[] #[{ accessFlags := 1, nameIndex := 43, descriptorIndex := 44, attributes := #[] }] 16433 20 #[] #[{ accessFlags := 16409, nameIndex := 5, descriptorIndex := 6, attributes := #[] }, { accessFlags := 16409, nameIndex := 9, descriptorIndex := 6, attributes := #[] }, { accessFlags := 4122, nameIndex := 12, descriptorIndex := 13, attributes := #[] }])
  fields := #[{ name := "ZOMBIES", type := (.object "com/example/hordefall/hordefall/rules/barricade/Side"), accessFlags := 16409, slot := 0, constantValue := 0 }, { name := "HUMANS", type := (.object "com/example/hordefall/hordefall/rules/barricade/Side"), accessFlags := 16409, slot := 1, constantValue := 0 }, { name := "$VALUES", type := (.array (.object "com/example/hordefall/hordefall/rules/barricade/Side")), accessFlags := 4122, slot := 2, constantValue := 0 }]
  methods := #[k6m0]
  instanceTypes := #[(.object "java/lang/String"), .int, .int]
  staticTypes := #[(.object "com/example/hordefall/hordefall/rules/barricade/Side"), (.object "com/example/hordefall/hordefall/rules/barricade/Side"), (.array (.object "com/example/hordefall/hordefall/rules/barricade/Side"))]
  resolved := Array.replicate 50 none
  statics := some 0 }

def pool7 : Array CpInfo := pool [(1, u "java/lang/Cloneable"), (0, .class_ 1), (0, u "java/lang/Object"), (0, .class_ 3)] 3

/-- java/lang/Cloneable -/
def k7 : Class := { plain "java/lang/Cloneable" (some 0) with
  accessFlags := 1537
  interfaces := #[]
  cf := some (fileOf pool7 2 #[] #[] 1537 4 #[] #[])
  fields := #[]
  methods := #[]
  instanceTypes := #[]
  staticTypes := #[]
  resolved := Array.replicate 8 none
  statics := none }

/-- the primitive byte -/
def k8 : Class := { plain "byte" none with kind := .primitive 'B', accessFlags := 0x411 }
/-- [B -/
def k9 : Class := { plain "[B" (some 0) with kind := .array 8 .byte, interfaces := #[7, 4], accessFlags := 1041 }

/-- the primitive int -/
def k10 : Class := { plain "int" none with kind := .primitive 'I', accessFlags := 0x411 }
/-- [I -/
def k11 : Class := { plain "[I" (some 0) with kind := .array 10 .int, interfaces := #[7, 4], accessFlags := 1041 }

def heap : Heap := #[{ cls := 6, slots := #[.ref 1, .ref 2, .null], vm := .statics 6 },
  { cls := 6, slots := #[.null, .int 0, .int 0], vm := .none },
  { cls := 6, slots := #[.null, .int 1, .int 0], vm := .none }]
def classes : Array Class := #[k0, k1, k2, k3, k4, k5, k6, k7, k8, k9, k10, k11]
def interned : List (Array UInt16 × Addr) := []
def slotsUsed : Nat := 9
def theMethod : MethodId := ⟨1, 1⟩
def args0 : Array Value := #[.int 5]
def aboutOver (below : List Frame) : State where
  vm := { classes := classes, interned := interned.toArray }
  heap := heap
  slotsUsed := slotsUsed
  threads := #[{ frames := .invoking theMethod args0 :: below }]
def below0 : List Frame := [.native { method := ⟨0, 0⟩, args := #[] }]
def about1 : State := aboutOver below0
def p0 : Program := .bare "" "" ""
def e0 : Env := launch0.env 0 0 0
theorem w_frames : about1.frames = Frame.invoking theMethod args0 :: below0 := rfl
set_option maxRecDepth 65536 in
theorem w_args : argsFit about1.vm theMethod args0 = true := by decide +kernel
set_option maxRecDepth 65536 in
theorem w_heap : heapFits about1 = true := by decide +kernel
set_option maxRecDepth 65536 in
theorem w_runnable : about1.curStatus? = some .runnable := by decide +kernel
set_option maxRecDepth 65536 in
theorem w_alone : about1.alone = true := by decide +kernel
set_option maxRecDepth 65536 in
theorem w_named : about1.methodNamed? x = some theMethod := by decide +kernel
set_option maxRecDepth 65536 in
theorem w_hears : about1.hears theMethod below0 = true := by decide +kernel
set_option maxRecDepth 65536 in
theorem w_ripe : about1.ripe theMethod args0 below0 = true := by decide +kernel
theorem w_running : about1.status = .running := rfl
set_option maxRecDepth 65536 in
theorem w_room : about1.hasRoom e0.platform room_1 = true :=
  launch0.hasRoom_least _ room_1 (by decide +kernel) (by decide +kernel) (by decide +kernel) (by decide +kernel) (by decide +kernel) (by decide +kernel)
theorem allAtoms_all (ts : List Jvm.Cond) (a : Array Jvm.Value) (st : Jvm.State) : (allAtoms ts).before a st = ts.all (fun c => c.before a st) := by
  induction ts with
  | nil => rfl
  | cons c t ih =>
    show (Jvm.Cond.and c (allAtoms t)).before a st = _
    rw [Jvm.Cond.before_and, ih, List.all_cons]
def words1 : List Jvm.Cond := Jvm.Cond.code x code maxLocals ret :: tables_1
/-- a 'code' word, met by the world's own term for the bytes: nothing is compared byte by byte -/
theorem code_word {y : MethodName} {bytes : ByteArray} {mx : Nat} {rt : Option FieldType} {a : Array Value} {s : State} {m : MethodId} {meth : Method} {c : Code} (h1 : s.methodNamed? y = some m) (h2 : s.vm.method? m = some meth) (h3 : meth.code = some c) (h4 : c.code = bytes)
    (h5 : (c.maxLocals == mx && c.exceptionTable.isEmpty && decide (c.maxStack ≤ mostOperands) && decide (meth.sig.returnType = rt) && !meth.locks && decide (parseMethodDescriptor y.desc = some meth.sig)) = true) : (Jvm.Cond.code y bytes mx rt).before a s = true := by
  simp only [Bool.and_eq_true, beq_iff_eq, Bool.not_eq_true', decide_eq_true_eq] at h5
  obtain ⟨⟨⟨⟨⟨g1, g2⟩, g3⟩, g4⟩, g5⟩, g6⟩ := h5
  simp [Cond.before, Cond.holds, Cond.value, h1, h2, h3, h4, g1, g2, g3, g4, g5, g6]
def isCode : Jvm.Cond → Bool
  | .code _ _ _ _ => true
  | _ => false
theorem all_split {L : List Jvm.Cond} {P : Jvm.Cond → Bool} (h1 : L.all (fun c => isCode c || P c) = true) (h2 : ∀ c ∈ L.filter isCode, P c = true) : L.all P = true := by
  refine List.all_eq_true.mpr fun c hc => ?_
  have h := List.all_eq_true.mp h1 c hc
  rcases Bool.eq_false_or_eq_true (isCode c) with hi | hi
  · exact h2 c (List.mem_filter.mpr ⟨hc, hi⟩)
  · simpa [hi] using h
set_option maxRecDepth 65536 in
theorem w_c0 : (Jvm.Cond.code x code maxLocals ret).before args0 about1 = true := code_word (m := ⟨1, 1⟩) (meth := k1m1) (c := k1c1) (by decide +kernel) rfl rfl rfl (by decide +kernel)
set_option maxRecDepth 65536 in
theorem w_c1 : (Jvm.Cond.code ({ cls := "com/example/hordefall/hordefall/rules/barricade/Side", name := "opponent", desc := "()Lcom/example/hordefall/hordefall/rules/barricade/Side;" } : Jvm.MethodName) prog_36_method_4_code (1 : Nat) (Option.some (Jvm.ClassFile.FieldType.object "com/example/hordefall/hordefall/rules/barricade/Side"))).before args0 about1 = true := code_word (m := ⟨6, 0⟩) (meth := k6m0) (c := k6c0) (by decide +kernel) rfl rfl rfl (by decide +kernel)
def codes1 : List Jvm.Cond := [Jvm.Cond.code x code maxLocals ret, Jvm.Cond.code ({ cls := "com/example/hordefall/hordefall/rules/barricade/Side", name := "opponent", desc := "()Lcom/example/hordefall/hordefall/rules/barricade/Side;" } : Jvm.MethodName) prog_36_method_4_code (1 : Nat) (Option.some (Jvm.ClassFile.FieldType.object "com/example/hordefall/hordefall/rules/barricade/Side"))]
set_option maxRecDepth 65536 in
theorem codes_eq : words1.filter isCode = codes1 := rfl
theorem w_codes : ∀ c ∈ words1.filter isCode, c.before args0 about1 = true := by
  rw [codes_eq]
  intro c hc
  simp only [codes1, List.mem_cons, List.not_mem_nil, or_false] at hc
  rcases hc with rfl | rfl
  · exact w_c0
  · exact w_c1
set_option maxRecDepth 65536 in
theorem w_t1 : words1.all (fun c => isCode c || c.before args0 about1) = true := by decide +kernel
theorem w_tables : (allAtoms (Jvm.Cond.code x code maxLocals ret :: tables_1)).before args0 about1 = true := by
  rw [allAtoms_all]
  show words1.all (fun c => c.before args0 about1) = true
  refine all_split ?_ w_codes
  rw [w_t1]
set_option maxRecDepth 65536 in
theorem w_case : (Jvm.Cond.and given_1 narrow_1).before args0 about1 = true := by decide +kernel
theorem w_applies : (headSpec (Jvm.Cond.code x code maxLocals ret :: tables_1) room_1).applies x e0.platform about1 = true :=
  (Spec.applies_iff w_frames).mpr ⟨w_running, w_runnable, w_alone, w_named, w_hears, w_ripe, w_room, w_tables⟩
theorem atStart : AtStart classFile x code maxLocals ret World_1 tables_1 room_1 Calls_1 rest_1 Pre_1 launch0 p0 e0 about1 theMethod args0 below0 :=
  ⟨lists_1, trivial, launch0.admits_env _ _ _, launch0.least_env, fairChoices_fair.cas, fairChoices_fair.clock, w_frames, w_args, w_heap, w_applies, trivial, trivial, w_case⟩
end start1
theorem witness_1 : WitnessClaimed_1 := ⟨start1.p0, start1.e0, start1.about1, start1.theMethod, start1.args0, start1.below0, start1.atStart⟩
end Jvm.Pilot.@@N@@
